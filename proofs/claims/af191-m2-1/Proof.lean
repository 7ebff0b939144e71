import JvmDerived
import JvmDerived.Pilot.@@N@@Statement
import JvmDerived.Pilot.@@N@@Code
set_option linter.unusedVariables false
set_option linter.unusedSimpArgs false
namespace Jvm.Pilot.@@N@@
open Jvm Jvm.ClassFile Sem Op Lib Jvm.Free Jvm.Stand Jvm.LawKit Jvm.RoadKit Bundle Jvm.Pilot.@@N@@.Jvm.D
section OwnArr
variable {p : Program} {l : Launch} {e : Env} {R : Room} {s : State} {m : MethodId} {args : Array Value} {below : List Frame} {meth : Method} {c : Code} {T : State} {locs : List Loc} {cells slots : Nat} {Z : State} {a0 : Array Value} {h : Heap} {a : Addr} {k : ClassId} {z : Int32} {vs : List Value} {dv : Value}
theorem own_ldB (X : Stand p l e R s m args below meth c T locs cells slots) (hx : p.tables.exec = Jvm.exec) (hZ : Z.Warmed39 s.vm) (eT : T.heap = h) (F : Arv Z h a k .byte z vs dv) {j : Int32} (q : ¬ j < 0 ∧ j < z) {v : Value} (u : vs.getD j.toNatClampNeg dv = v) {g : JFrame} (hg : g.method = m) {rest : List Value} (hs : g.stack = .int j :: .ref a :: rest) (hd : decode c.code g.pc = .ok (.baload, 1)) :
    Steps p.tables e below (T.setTop g) (T.setTop { g with pc := g.pc + 1, stack := v :: rest }) := by
  obtain ⟨cl, A, q1, S, N, H, G⟩ := F
  have hin := inb_of S q
  exact X.baloadBytes hx (by rw [eT]; exact A.1) (State.isArrayOf_alike hZ.alike A.2.1) A.2.2 hin (H.at hin u) hg hs hd _ (Steps.refl _)
theorem own_ldI (X : Stand p l e R s m args below meth c T locs cells slots) (hx : p.tables.exec = Jvm.exec) (hZ : Z.Warmed39 s.vm) (eT : T.heap = h) (F : Arv Z h a k .int z vs dv) {j : Int32} (q : ¬ j < 0 ∧ j < z) {v : Value} (u : vs.getD j.toNatClampNeg dv = v) {g : JFrame} (hg : g.method = m) {rest : List Value} (hs : g.stack = .int j :: .ref a :: rest) (hd : decode c.code g.pc = .ok (.iaload, 1)) :
    Steps p.tables e below (T.setTop g) (T.setTop { g with pc := g.pc + 1, stack := v :: rest }) := by
  obtain ⟨cl, A, q1, S, N, H, G⟩ := F
  have hin := inb_of S q
  exact X.iaload hx (by rw [eT]; exact A.1) (State.isArrayOf_alike hZ.alike A.2.1) A.2.2 hin (H.at hin u) hg hs hd _ (Steps.refl _)
theorem own_ldJ (X : Stand p l e R s m args below meth c T locs cells slots) (hx : p.tables.exec = Jvm.exec) (hZ : Z.Warmed39 s.vm) (eT : T.heap = h) (F : Arv Z h a k .long z vs dv) {j : Int32} (q : ¬ j < 0 ∧ j < z) {v : Value} (u : vs.getD j.toNatClampNeg dv = v) {g : JFrame} (hg : g.method = m) {rest : List Value} (hs : g.stack = .int j :: .ref a :: rest) (hd : decode c.code g.pc = .ok (.laload, 1)) :
    Steps p.tables e below (T.setTop g) (T.setTop { g with pc := g.pc + 1, stack := v :: rest }) := by
  obtain ⟨cl, A, q1, S, N, H, G⟩ := F
  have hin := inb_of S q
  exact X.laload hx (by rw [eT]; exact A.1) (State.isArrayOf_alike hZ.alike A.2.1) A.2.2 hin (H.at hin u) hg hs hd _ (Steps.refl _)
theorem own_len {ty : FieldType} (X : Stand p l e R s m args below meth c T locs cells slots) (hx : p.tables.exec = Jvm.exec) (hZ : Z.Warmed39 s.vm) (eT : T.heap = h) (F : Arv Z h a k ty z vs dv) {g : JFrame} (hg : g.method = m) {rest : List Value} (hs : g.stack = .ref a :: rest) (hd : decode c.code g.pc = .ok (.arraylength, 1)) :
    Steps p.tables e below (T.setTop g) (T.setTop { g with pc := g.pc + 1, stack := .int z :: rest }) := by
  obtain ⟨cl, A, q1, S, N, H, G⟩ := F
  have q := X.arraylength hx (by rw [eT]; exact A.1) (State.isArrayOf_alike hZ.alike A.2.1) hg hs hd _ (Steps.refl _)
  rw [len_of S N] at q
  exact q
theorem own_stB (X : Stand p l e R s m args below meth c T locs cells slots) (hx : p.tables.exec = Jvm.exec) (hZ : Z.Warmed39 s.vm) (eT : T.heap = h) (F : Arv Z h a k .byte z vs dv) {j x : Int32} (q : ¬ j < 0 ∧ j < z) (i : Nat) (hj : j.toNatClampNeg = i) (hi : i < vs.length) {g : JFrame} (hg : g.method = m) {rest : List Value} (hs : g.stack = .int x :: .int j :: .ref a :: rest) (hd : decode c.code g.pc = .ok (.bastore, 1)) :
    ∃ T' h', Stand p l e R s m args below meth c T' (locs ++ [⟨a, j.toNatClampNeg⟩]) cells slots ∧ T'.heap = h' ∧ Wr h h' a j.toNatClampNeg (.int (x.toInt8.toInt32)) ∧ Arv Z h' a k .byte z (vs.set i (.int (x.toInt8.toInt32))) dv ∧ Steps p.tables e below (T.setTop g) (T'.setTop { g with pc := g.pc + 1, stack := rest }) := by
  obtain ⟨cl, A, q1, S, N, H, G⟩ := F
  have hin := inb_of S q
  obtain ⟨T', h', X', e', W, st⟩ := stB X hx hZ eT A hin hg hs hd
  exact ⟨T', h', X', e', W, Arv.set A q1 S N H G (fits_nar_byte _) W i hj hi, st _ (Steps.refl _)⟩
theorem own_stI (X : Stand p l e R s m args below meth c T locs cells slots) (hx : p.tables.exec = Jvm.exec) (hZ : Z.Warmed39 s.vm) (eT : T.heap = h) (F : Arv Z h a k .int z vs dv) {j x : Int32} (q : ¬ j < 0 ∧ j < z) (i : Nat) (hj : j.toNatClampNeg = i) (hi : i < vs.length) {g : JFrame} (hg : g.method = m) {rest : List Value} (hs : g.stack = .int x :: .int j :: .ref a :: rest) (hd : decode c.code g.pc = .ok (.iastore, 1)) :
    ∃ T' h', Stand p l e R s m args below meth c T' (locs ++ [⟨a, j.toNatClampNeg⟩]) cells slots ∧ T'.heap = h' ∧ Wr h h' a j.toNatClampNeg (.int x) ∧ Arv Z h' a k .int z (vs.set i (.int x)) dv ∧ Steps p.tables e below (T.setTop g) (T'.setTop { g with pc := g.pc + 1, stack := rest }) := by
  obtain ⟨cl, A, q1, S, N, H, G⟩ := F
  have hin := inb_of S q
  obtain ⟨T', h', X', e', W, st⟩ := stI X hx hZ eT A hin hg hs hd
  exact ⟨T', h', X', e', W, Arv.set A q1 S N H G rfl W i hj hi, st _ (Steps.refl _)⟩
theorem own_stJ (X : Stand p l e R s m args below meth c T locs cells slots) (hx : p.tables.exec = Jvm.exec) (hZ : Z.Warmed39 s.vm) (eT : T.heap = h) (F : Arv Z h a k .long z vs dv) {j : Int32} {x : Int64} (q : ¬ j < 0 ∧ j < z) (i : Nat) (hj : j.toNatClampNeg = i) (hi : i < vs.length) {g : JFrame} (hg : g.method = m) {rest : List Value} (hs : g.stack = .long x :: .int j :: .ref a :: rest) (hd : decode c.code g.pc = .ok (.lastore, 1)) :
    ∃ T' h', Stand p l e R s m args below meth c T' (locs ++ [⟨a, j.toNatClampNeg⟩]) cells slots ∧ T'.heap = h' ∧ Wr h h' a j.toNatClampNeg (.long x) ∧ Arv Z h' a k .long z (vs.set i (.long x)) dv ∧ Steps p.tables e below (T.setTop g) (T'.setTop { g with pc := g.pc + 1, stack := rest }) := by
  obtain ⟨cl, A, q1, S, N, H, G⟩ := F
  have hin := inb_of S q
  obtain ⟨T', h', X', e', W, st⟩ := stJ X hx hZ eT A hin hg hs hd
  exact ⟨T', h', X', e', W, Arv.set A q1 S N H G rfl W i hj hi, st _ (Steps.refl _)⟩
theorem own_newB (X : Stand p l e R s m args below meth c T locs cells slots) (hx : p.tables.exec = Jvm.exec) (hZ : Z.Warmed39 s.vm) (w : (Jvm.Cond.arrayClass .byte).before a0 Z = true) (eT : T.heap = h) {g : JFrame} (hg : g.method = m) (hd : decode c.code g.pc = .ok (.newarray .byte, 2)) {n : Int32} {rest : List Value} (hs : g.stack = .int n :: rest)
    (hn : ¬ n < 0) (N : Nat) (hcap : n.toNatClampNeg ≤ N) (hb : N * 8 ≤ 536870912) (hc : cells + 1 ≤ R.cells) (hl : slots + N ≤ R.slots) :
    ∃ T' h' k x, Stand p l e R s m args below meth c T' locs (cells + 1) (slots + N) ∧ T'.heap = h' ∧ Ext h h' ∧ x = h.size ∧ Arv Z h' x k .byte n (List.replicate N (.int (0 : Int32))) (.int (0 : Int32)) ∧ Exa Z h' x "[B" ∧ Steps p.tables e below (T.setTop g) (T'.setTop { g with pc := g.pc + 2, stack := .ref x :: rest }) := by
  obtain ⟨T', h', k, X', e', E, A, Ex, st⟩ := newPE (aty := .byte) X hx hZ w eT hg hd hs hn hcap hb hc hl (ad := "[B") (by decide)
  exact ⟨T', h', k, _, X', e', E, rfl, (Arv.new A hn).pad (pad_rep [] _ N), Ex, st _ (Steps.refl _)⟩
theorem own_newI (X : Stand p l e R s m args below meth c T locs cells slots) (hx : p.tables.exec = Jvm.exec) (hZ : Z.Warmed39 s.vm) (w : (Jvm.Cond.arrayClass .int).before a0 Z = true) (eT : T.heap = h) {g : JFrame} (hg : g.method = m) (hd : decode c.code g.pc = .ok (.newarray .int, 2)) {n : Int32} {rest : List Value} (hs : g.stack = .int n :: rest)
    (hn : ¬ n < 0) (N : Nat) (hcap : n.toNatClampNeg ≤ N) (hb : N * 8 ≤ 536870912) (hc : cells + 1 ≤ R.cells) (hl : slots + N ≤ R.slots) :
    ∃ T' h' k x, Stand p l e R s m args below meth c T' locs (cells + 1) (slots + N) ∧ T'.heap = h' ∧ Ext h h' ∧ x = h.size ∧ Arv Z h' x k .int n (List.replicate N (.int (0 : Int32))) (.int (0 : Int32)) ∧ Exa Z h' x "[I" ∧ Steps p.tables e below (T.setTop g) (T'.setTop { g with pc := g.pc + 2, stack := .ref x :: rest }) := by
  obtain ⟨T', h', k, X', e', E, A, Ex, st⟩ := newPE (aty := .int) X hx hZ w eT hg hd hs hn hcap hb hc hl (ad := "[I") (by decide)
  exact ⟨T', h', k, _, X', e', E, rfl, (Arv.new A hn).pad (pad_rep [] _ N), Ex, st _ (Steps.refl _)⟩
theorem own_newJ (X : Stand p l e R s m args below meth c T locs cells slots) (hx : p.tables.exec = Jvm.exec) (hZ : Z.Warmed39 s.vm) (w : (Jvm.Cond.arrayClass .long).before a0 Z = true) (eT : T.heap = h) {g : JFrame} (hg : g.method = m) (hd : decode c.code g.pc = .ok (.newarray .long, 2)) {n : Int32} {rest : List Value} (hs : g.stack = .int n :: rest)
    (hn : ¬ n < 0) (N : Nat) (hcap : n.toNatClampNeg ≤ N) (hb : N * 8 ≤ 536870912) (hc : cells + 1 ≤ R.cells) (hl : slots + N ≤ R.slots) :
    ∃ T' h' k x, Stand p l e R s m args below meth c T' locs (cells + 1) (slots + N) ∧ T'.heap = h' ∧ Ext h h' ∧ x = h.size ∧ Arv Z h' x k .long n (List.replicate N (.long (0 : Int64))) (.long (0 : Int64)) ∧ Exa Z h' x "[J" ∧ Steps p.tables e below (T.setTop g) (T'.setTop { g with pc := g.pc + 2, stack := .ref x :: rest }) := by
  obtain ⟨T', h', k, X', e', E, A, Ex, st⟩ := newPE (aty := .long) X hx hZ w eT hg hd hs hn hcap hb hc hl (ad := "[J") (by decide)
  exact ⟨T', h', k, _, X', e', E, rfl, (Arv.new A hn).pad (pad_rep [] _ N), Ex, st _ (Steps.refl _)⟩
end OwnArr
def own_gi : Value → Int32
  | .int x => x
  | _ => 0
def own_by (vs : List Value) (q : Int32) : Int32 := own_gi (vs.getD q.toNatClampNeg (.int (0 : Int32)))
def own_res (r : Int64) (b sh : Int32) : Int64 := (r ||| (((((b &&& (255 : Int32)) &&& (127 : Int32)).toInt64) <<< (sh &&& 0x3f).toInt64)))
def rl : Nat → List Value → Int32 → Int64 → Int32 → Int64 × Int32
  | 0, _, q, r, _ => (r, q)
  | k + 1, vs, q, r, sh => if (((own_by vs q) &&& (255 : Int32)) &&& (128 : Int32)) = (0 : Int32) then (own_res r (own_by vs q) sh, q + (1 : Int32)) else rl k vs (q + (1 : Int32)) (own_res r (own_by vs q) sh) (sh + (7 : Int32))
def rok : Nat → List Value → Int32 → Int32 → Int32 → Prop
  | 0, _, _, _, _ => False
  | k + 1, vs, z, q, sh => ((¬ (q < (0 : Int32))) ∧ q < z) ∧ vs.getD q.toNatClampNeg (.int (0 : Int32)) = .int (own_by vs q) ∧ (sh = (63 : Int32) → ¬ ((1 : Int32) < ((own_by vs q) &&& (255 : Int32)))) ∧ ((((own_by vs q) &&& (255 : Int32)) &&& (128 : Int32)) = (0 : Int32) ∨ rok k vs z (q + (1 : Int32)) (sh + (7 : Int32)))
theorem own_z0 : (0 : Int32).toInt = 0 := rfl
theorem own_z1 : (1 : Int32).toInt = 1 := rfl
theorem own_z7 : (7 : Int32).toInt = 7 := rfl
theorem own_lt32 {a b : Int32} : a < b ↔ a.toInt < b.toInt := Int32.lt_iff_toInt_lt
theorem own_256 : ∀ i : Fin 256, ((Int32.ofNat i.1) &&& (128 : Int32)) = (0 : Int32) ↔ i.1 < 128 := by decide +kernel
theorem own_128 (y : Int32) (h : 0 ≤ y.toInt ∧ y.toInt < 256) : (y &&& (128 : Int32)) = (0 : Int32) ↔ y.toInt < 128 := by
  have e : y = Int32.ofNat y.toInt.toNat := by
    apply Int32.toInt_inj.mp
    rw [Int32.toInt_ofNat_of_lt (by omega)]; omega
  have q := own_256 ⟨y.toInt.toNat, by omega⟩
  simp only at q
  rw [← e] at q
  rw [q]; omega
theorem own_step (r : Int64) (b sh : Int32) (U : Int) (i : Nat) (h0 : 0 ≤ U ∧ U < 18446744073709551616) (hi : i ≤ 9) (hs : sh.toInt = 7 * (i : Int)) (hr0 : r.toInt % 18446744073709551616 = U % 2 ^ (7 * i)) (hd : ((b &&& (255 : Int32)) &&& (127 : Int32)).toInt = U / 2 ^ (7 * i) % 128) : (own_res r b sh).toInt % 18446744073709551616 = U % 2 ^ (7 * (i + 1)) := by
  have g1 := Jvm.RoadKit.rng64 r
  unfold own_res
  have hz : ∀ (n : Int32), sh.toInt = n.toInt → sh = n := fun n h => Int32.toInt_inj.mp h
  have hc : i = 0 ∨ i = 1 ∨ i = 2 ∨ i = 3 ∨ i = 4 ∨ i = 5 ∨ i = 6 ∨ i = 7 ∨ i = 8 ∨ i = 9 := by omega
  have hx := Jvm.RoadKit.c_i2l ((b &&& (255 : Int32)) &&& (127 : Int32))
  generalize ((b &&& (255 : Int32)) &&& (127 : Int32)).toInt64 = xx at hx ⊢
  rcases hc with e | e | e | e | e | e | e | e | e | e <;> subst e
  · have es := hz (0 : Int32) (by rw [hs]; rfl)
    subst es
    have t1 := Jvm.RoadKit.c_lshl xx (0 : Int32) 0 (by decide)
    have t2 := Jvm.RoadKit.rng64 (xx <<< ((0 : Int32) &&& 0x3f).toInt64)
    generalize xx <<< ((0 : Int32) &&& 0x3f).toInt64 = yy at t1 t2 ⊢
    have p1 : (2 : Int) ^ (7 * 0) = 1 := by decide
    have p2 : (2 : Int) ^ (7 * (0 + 1)) = 128 := by decide
    have p3 : ((2 ^ 0 : Nat) : Int) = 1 := by decide
    rw [p1] at hr0 hd
    rw [p3] at t1
    rw [p2]
    have t3 := Jvm.RoadKit.c_orL' r yy 0 (by decide) 1 (by decide) (by omega) (by omega) (by omega)
    omega
  · have es := hz (7 : Int32) (by rw [hs]; rfl)
    subst es
    have t1 := Jvm.RoadKit.c_lshl xx (7 : Int32) 7 (by decide)
    have t2 := Jvm.RoadKit.rng64 (xx <<< ((7 : Int32) &&& 0x3f).toInt64)
    generalize xx <<< ((7 : Int32) &&& 0x3f).toInt64 = yy at t1 t2 ⊢
    have p1 : (2 : Int) ^ (7 * 1) = 128 := by decide
    have p2 : (2 : Int) ^ (7 * (1 + 1)) = 16384 := by decide
    have p3 : ((2 ^ 7 : Nat) : Int) = 128 := by decide
    rw [p1] at hr0 hd
    rw [p3] at t1
    rw [p2]
    have t3 := Jvm.RoadKit.c_orL' r yy 7 (by decide) 128 (by decide) (by omega) (by omega) (by omega)
    omega
  · have es := hz (14 : Int32) (by rw [hs]; rfl)
    subst es
    have t1 := Jvm.RoadKit.c_lshl xx (14 : Int32) 14 (by decide)
    have t2 := Jvm.RoadKit.rng64 (xx <<< ((14 : Int32) &&& 0x3f).toInt64)
    generalize xx <<< ((14 : Int32) &&& 0x3f).toInt64 = yy at t1 t2 ⊢
    have p1 : (2 : Int) ^ (7 * 2) = 16384 := by decide
    have p2 : (2 : Int) ^ (7 * (2 + 1)) = 2097152 := by decide
    have p3 : ((2 ^ 14 : Nat) : Int) = 16384 := by decide
    rw [p1] at hr0 hd
    rw [p3] at t1
    rw [p2]
    have t3 := Jvm.RoadKit.c_orL' r yy 14 (by decide) 16384 (by decide) (by omega) (by omega) (by omega)
    omega
  · have es := hz (21 : Int32) (by rw [hs]; rfl)
    subst es
    have t1 := Jvm.RoadKit.c_lshl xx (21 : Int32) 21 (by decide)
    have t2 := Jvm.RoadKit.rng64 (xx <<< ((21 : Int32) &&& 0x3f).toInt64)
    generalize xx <<< ((21 : Int32) &&& 0x3f).toInt64 = yy at t1 t2 ⊢
    have p1 : (2 : Int) ^ (7 * 3) = 2097152 := by decide
    have p2 : (2 : Int) ^ (7 * (3 + 1)) = 268435456 := by decide
    have p3 : ((2 ^ 21 : Nat) : Int) = 2097152 := by decide
    rw [p1] at hr0 hd
    rw [p3] at t1
    rw [p2]
    have t3 := Jvm.RoadKit.c_orL' r yy 21 (by decide) 2097152 (by decide) (by omega) (by omega) (by omega)
    omega
  · have es := hz (28 : Int32) (by rw [hs]; rfl)
    subst es
    have t1 := Jvm.RoadKit.c_lshl xx (28 : Int32) 28 (by decide)
    have t2 := Jvm.RoadKit.rng64 (xx <<< ((28 : Int32) &&& 0x3f).toInt64)
    generalize xx <<< ((28 : Int32) &&& 0x3f).toInt64 = yy at t1 t2 ⊢
    have p1 : (2 : Int) ^ (7 * 4) = 268435456 := by decide
    have p2 : (2 : Int) ^ (7 * (4 + 1)) = 34359738368 := by decide
    have p3 : ((2 ^ 28 : Nat) : Int) = 268435456 := by decide
    rw [p1] at hr0 hd
    rw [p3] at t1
    rw [p2]
    have t3 := Jvm.RoadKit.c_orL' r yy 28 (by decide) 268435456 (by decide) (by omega) (by omega) (by omega)
    omega
  · have es := hz (35 : Int32) (by rw [hs]; rfl)
    subst es
    have t1 := Jvm.RoadKit.c_lshl xx (35 : Int32) 35 (by decide)
    have t2 := Jvm.RoadKit.rng64 (xx <<< ((35 : Int32) &&& 0x3f).toInt64)
    generalize xx <<< ((35 : Int32) &&& 0x3f).toInt64 = yy at t1 t2 ⊢
    have p1 : (2 : Int) ^ (7 * 5) = 34359738368 := by decide
    have p2 : (2 : Int) ^ (7 * (5 + 1)) = 4398046511104 := by decide
    have p3 : ((2 ^ 35 : Nat) : Int) = 34359738368 := by decide
    rw [p1] at hr0 hd
    rw [p3] at t1
    rw [p2]
    have t3 := Jvm.RoadKit.c_orL' r yy 35 (by decide) 34359738368 (by decide) (by omega) (by omega) (by omega)
    omega
  · have es := hz (42 : Int32) (by rw [hs]; rfl)
    subst es
    have t1 := Jvm.RoadKit.c_lshl xx (42 : Int32) 42 (by decide)
    have t2 := Jvm.RoadKit.rng64 (xx <<< ((42 : Int32) &&& 0x3f).toInt64)
    generalize xx <<< ((42 : Int32) &&& 0x3f).toInt64 = yy at t1 t2 ⊢
    have p1 : (2 : Int) ^ (7 * 6) = 4398046511104 := by decide
    have p2 : (2 : Int) ^ (7 * (6 + 1)) = 562949953421312 := by decide
    have p3 : ((2 ^ 42 : Nat) : Int) = 4398046511104 := by decide
    rw [p1] at hr0 hd
    rw [p3] at t1
    rw [p2]
    have t3 := Jvm.RoadKit.c_orL' r yy 42 (by decide) 4398046511104 (by decide) (by omega) (by omega) (by omega)
    omega
  · have es := hz (49 : Int32) (by rw [hs]; rfl)
    subst es
    have t1 := Jvm.RoadKit.c_lshl xx (49 : Int32) 49 (by decide)
    have t2 := Jvm.RoadKit.rng64 (xx <<< ((49 : Int32) &&& 0x3f).toInt64)
    generalize xx <<< ((49 : Int32) &&& 0x3f).toInt64 = yy at t1 t2 ⊢
    have p1 : (2 : Int) ^ (7 * 7) = 562949953421312 := by decide
    have p2 : (2 : Int) ^ (7 * (7 + 1)) = 72057594037927936 := by decide
    have p3 : ((2 ^ 49 : Nat) : Int) = 562949953421312 := by decide
    rw [p1] at hr0 hd
    rw [p3] at t1
    rw [p2]
    have t3 := Jvm.RoadKit.c_orL' r yy 49 (by decide) 562949953421312 (by decide) (by omega) (by omega) (by omega)
    omega
  · have es := hz (56 : Int32) (by rw [hs]; rfl)
    subst es
    have t1 := Jvm.RoadKit.c_lshl xx (56 : Int32) 56 (by decide)
    have t2 := Jvm.RoadKit.rng64 (xx <<< ((56 : Int32) &&& 0x3f).toInt64)
    generalize xx <<< ((56 : Int32) &&& 0x3f).toInt64 = yy at t1 t2 ⊢
    have p1 : (2 : Int) ^ (7 * 8) = 72057594037927936 := by decide
    have p2 : (2 : Int) ^ (7 * (8 + 1)) = 9223372036854775808 := by decide
    have p3 : ((2 ^ 56 : Nat) : Int) = 72057594037927936 := by decide
    rw [p1] at hr0 hd
    rw [p3] at t1
    rw [p2]
    have t3 := Jvm.RoadKit.c_orL' r yy 56 (by decide) 72057594037927936 (by decide) (by omega) (by omega) (by omega)
    omega
  · have es := hz (63 : Int32) (by rw [hs]; rfl)
    subst es
    have t1 := Jvm.RoadKit.c_lshl xx (63 : Int32) 63 (by decide)
    have t2 := Jvm.RoadKit.rng64 (xx <<< ((63 : Int32) &&& 0x3f).toInt64)
    generalize xx <<< ((63 : Int32) &&& 0x3f).toInt64 = yy at t1 t2 ⊢
    have p1 : (2 : Int) ^ (7 * 9) = 9223372036854775808 := by decide
    have p2 : (2 : Int) ^ (7 * (9 + 1)) = 1180591620717411303424 := by decide
    have p3 : ((2 ^ 63 : Nat) : Int) = 9223372036854775808 := by decide
    rw [p1] at hr0 hd
    rw [p3] at t1
    rw [p2]
    have t3 := Jvm.RoadKit.c_orL' r yy 63 (by decide) 9223372036854775808 (by decide) (by omega) (by omega) (by omega)
    omega
theorem own_l0 : (0 : Int64).toInt = 0 := rfl
theorem own_l1 : (1 : Int64).toInt = 1 := rfl
theorem own_lm1 : (-1 : Int64).toInt = -1 := rfl
theorem own_zm1 : (-1 : Int32).toInt = -1 := rfl
theorem own_z11 : (11 : Int32).toInt = 11 := rfl
theorem own_z10 : (10 : Int32).toInt = 10 := rfl
theorem own_z9 : (9 : Int32).toInt = 9 := rfl
theorem own_z2 : (2 : Int32).toInt = 2 := rfl
theorem own_lt64 {a b : Int64} : a < b ↔ a.toInt < b.toInt := Int64.lt_iff_toInt_lt
theorem own_p0 : (2 : Int) ^ (7 * 0) = 1 := by decide
theorem own_p1 : (2 : Int) ^ (7 * 1) = 128 := by decide
theorem own_p1' : (2 : Int) ^ (7 * (1 : Int).toNat) = 128 := by decide
def own_okb (vs : List Value) (s n U : Int) : Prop := ∀ (i : Nat) (q : Int32), (i : Int) < n → q.toInt = s + (i : Int) → vs.getD q.toNatClampNeg (.int (0 : Int32)) = .int (own_by vs q) ∧ ((own_by vs q) &&& (255 : Int32)).toInt = U / 2 ^ (7 * i) % 128 + (if (i : Int) + 1 < n then 128 else 0)
theorem own_rd (vs : List Value) (z : Int32) (s n U : Int) (h0 : 0 ≤ U ∧ U < 18446744073709551616) (hs : 0 ≤ s) (hm : n ≤ 10) (hmz : s + n ≤ z.toInt) (H : own_okb vs s n U) : ∀ (k i : Nat) (q sh : Int32) (r : Int64), q.toInt = s + (i : Int) → (i : Int) < n → sh.toInt = 7 * (i : Int) → n ≤ (i : Int) + (k : Int) → r.toInt % 18446744073709551616 = U % 2 ^ (7 * i) →
    rok k vs z q sh ∧ (rl k vs q r sh).2.toInt = s + n ∧ (rl k vs q r sh).1.toInt % 18446744073709551616 = U % 2 ^ (7 * n.toNat) := by
  intro k
  induction k with
  | zero => intro i q sh r h1 h2 h3 h4 h5; omega
  | succ k ih =>
    intro i q sh r h1 h2 h3 h4 h5
    have zz := Jvm.RoadKit.rng32 z
    obtain ⟨a1, a2⟩ := H i q h2 h1
    have m1 := Jvm.RoadKit.c_mask ((own_by vs q) &&& (255 : Int32)) (127 : Int32) 7 (by decide) (by decide)
    have pz : 0 ≤ U / 2 ^ (7 * i) % 128 ∧ U / 2 ^ (7 * i) % 128 < 128 := by omega
    have hd : (((own_by vs q) &&& (255 : Int32)) &&& (127 : Int32)).toInt = U / 2 ^ (7 * i) % 128 := by
      rw [m1, a2]; by_cases c : (i : Int) + 1 < n
      · rw [if_pos c]; omega
      · rw [if_neg c]; omega
    have s1 := own_step r (own_by vs q) sh U i h0 (by omega) h3 h5 hd
    have g1 := Jvm.RoadKit.c_iadd q (1 : Int32)
    have g2 := Jvm.RoadKit.rng32 (q + (1 : Int32))
    have g3 := Jvm.RoadKit.c_iadd sh (7 : Int32)
    have g4 := Jvm.RoadKit.rng32 (sh + (7 : Int32))
    have e1 := own_z1
    have e7 := own_z7
    have hq : (¬ (q < (0 : Int32))) ∧ q < z := by rw [own_lt32, own_lt32, own_z0]; omega
    have h63 : sh = (63 : Int32) → ¬ ((1 : Int32) < ((own_by vs q) &&& (255 : Int32))) := by
      intro es; rw [es] at h3
      have h3' : (63 : Int) = 7 * (i : Int) := h3
      have i9 : i = 9 := by omega
      subst i9
      rw [own_lt32, own_z1, a2, if_neg (by omega)]
      have p1 : (2 : Int) ^ (7 * 9) = 9223372036854775808 := by decide
      rw [p1]; omega
    by_cases c : (i : Int) + 1 < n
    · rw [if_pos c] at a2
      have nb : ¬ (((own_by vs q) &&& (255 : Int32)) &&& (128 : Int32)) = (0 : Int32) := by rw [own_128 _ (by omega)]; omega
      obtain ⟨b1, b2, b3⟩ := ih (i + 1) (q + (1 : Int32)) (sh + (7 : Int32)) (own_res r (own_by vs q) sh) (by omega) (by omega) (by omega) (by omega) s1
      refine ⟨⟨hq, a1, h63, Or.inr b1⟩, ?_, ?_⟩
      · simp only [rl]; rw [if_neg nb]; exact b2
      · simp only [rl]; rw [if_neg nb]; exact b3
    · rw [if_neg c] at a2
      have nb : (((own_by vs q) &&& (255 : Int32)) &&& (128 : Int32)) = (0 : Int32) := by rw [own_128 _ (by omega)]; omega
      refine ⟨⟨hq, a1, h63, Or.inl nb⟩, ?_, ?_⟩
      · simp only [rl]; rw [if_pos nb]; show (q + (1 : Int32)).toInt = _; omega
      · simp only [rl]; rw [if_pos nb]; rw [show n.toNat = i + 1 by omega]; exact s1
theorem own_rd0 (vs : List Value) (z q : Int32) (s n U : Int) (h0 : 0 ≤ U ∧ U < 18446744073709551616) (hs : 0 ≤ s) (h1 : 1 ≤ n) (hm : n ≤ 10) (hmz : s + n ≤ z.toInt) (H : own_okb vs s n U) (hq : q.toInt = s) :
    rok 10 vs z q (0 : Int32) ∧ (rl 10 vs q (0 : Int64) (0 : Int32)).2.toInt = s + n ∧ (rl 10 vs q (0 : Int64) (0 : Int32)).1.toInt % 18446744073709551616 = U % 2 ^ (7 * n.toNat) := by
  refine own_rd vs z s n U h0 hs hm hmz H 10 0 q (0 : Int32) (0 : Int64) (by omega) (by omega) (by rw [own_z0]; omega) (by omega) ?_
  rw [own_l0, own_p0]
  omega
theorem own_pm (U : Int) (a b : Nat) (h : a ≤ b) (hU : U < 2 ^ (7 * a)) : U < 2 ^ (7 * b) := by
  have c : ((2 ^ (7 * a) : Nat) : Int) ≤ ((2 ^ (7 * b) : Nat) : Int) := Int.ofNat_le.mpr (Nat.pow_le_pow_right (by decide) (by omega))
  rw [Int.natCast_pow, Int.natCast_pow] at c
  exact Int.lt_of_lt_of_le hU c
theorem own_m1 (y : Int64) : (y ^^^ (-1 : Int64)).toInt = -y.toInt - 1 := by
  have e := Int64.toInt_not y
  have r := Jvm.RoadKit.rng64 (~~~y)
  have g := Jvm.RoadKit.rng64 y
  have t := Jvm.RoadKit.bm64 (-y.toInt - 1)
  rw [Int64.xor_neg_one]
  rw [← e] at t
  omega
theorem own_m1i (y : Int32) : (y ^^^ (-1 : Int32)).toInt = -y.toInt - 1 := by
  have e := Int32.toInt_not y
  have r := Jvm.RoadKit.rng32 (~~~y)
  have g := Jvm.RoadKit.rng32 y
  have t := Jvm.RoadKit.bm32 (-y.toInt - 1)
  rw [Int32.xor_neg_one]
  rw [← e] at t
  omega
theorem own_uz (W : Int64) : (((W.toUInt64 >>> ((1 : Int32) &&& 0x3f).toInt64.toUInt64).toInt64) ^^^ (-(W &&& (1 : Int64)))).toInt = (if W.toInt % 2 = 0 then W.toInt % 18446744073709551616 / 2 else -(W.toInt % 18446744073709551616 / 2) - 1) := by
  have h1 := Jvm.RoadKit.c_lushr W (1 : Int32) 1 (by decide) (by decide)
  have h2 := Jvm.RoadKit.c_maskL W (1 : Int64) 1 (by decide) (by decide)
  by_cases c : W.toInt % 2 = 0
  · have e : W &&& (1 : Int64) = (0 : Int64) := Int64.toInt_inj.mp (by rw [h2, own_l0]; omega)
    rw [e, if_pos c, show (-(0 : Int64)) = (0 : Int64) from by decide, Int64.xor_zero, h1] <;> omega
  · have e : W &&& (1 : Int64) = (1 : Int64) := Int64.toInt_inj.mp (by rw [h2, own_l1]; omega)
    rw [e, if_neg c, own_m1, h1] <;> omega
theorem own_zzl (v : Int64) : ((v <<< ((1 : Int32) &&& 0x3f).toInt64) ^^^ (v >>> ((63 : Int32) &&& 0x3f).toInt64)).toInt % 18446744073709551616 = (if 0 ≤ v.toInt then 2 * v.toInt else -2 * v.toInt - 1) := by
  have h1 := Jvm.RoadKit.c_lshl v (1 : Int32) 1 (by decide)
  have h2 := Jvm.RoadKit.c_lshr v (63 : Int32) 63 (by decide)
  have g := Jvm.RoadKit.rng64 v
  by_cases c : 0 ≤ v.toInt
  · have e : v >>> ((63 : Int32) &&& 0x3f).toInt64 = (0 : Int64) := Int64.toInt_inj.mp (by rw [h2, own_l0]; omega)
    rw [e, if_pos c, Int64.xor_zero]; omega
  · have e : v >>> ((63 : Int32) &&& 0x3f).toInt64 = (-1 : Int64) := Int64.toInt_inj.mp (by rw [h2, own_lm1]; omega)
    rw [e, if_neg c, own_m1]; omega
theorem own_zzi (v : Int32) : ((v <<< ((1 : Int32) &&& 31)) ^^^ (v >>> ((31 : Int32) &&& 31))).toInt % 4294967296 = (if 0 ≤ v.toInt then 2 * v.toInt else -2 * v.toInt - 1) := by
  have h1 := Jvm.RoadKit.c_ishl v (1 : Int32) 1 (by decide)
  have h2 := Jvm.RoadKit.c_ishr v (31 : Int32) 31 (by decide)
  have g := Jvm.RoadKit.rng32 v
  by_cases c : 0 ≤ v.toInt
  · have e : v >>> ((31 : Int32) &&& 31) = (0 : Int32) := Int32.toInt_inj.mp (by rw [h2, own_z0]; omega)
    rw [e, if_pos c, Int32.xor_zero]; omega
  · have e : v >>> ((31 : Int32) &&& 31) = (-1 : Int32) := Int32.toInt_inj.mp (by rw [h2, own_zm1]; omega)
    rw [e, if_neg c, own_m1i]; omega
theorem own_mr (k p m : Int32) (hk : 1 ≤ k.toInt ∧ k.toInt ≤ 10) (h : (k + ((p &&& (2147483647 : Int32)) % ((11 : Int32) - k))) = m) : k.toInt ≤ m.toInt ∧ m.toInt ≤ 10 := by
  have e := own_z11
  have t0 := Jvm.RoadKit.c_isub (11 : Int32) k
  have t1 := Jvm.RoadKit.rng32 ((11 : Int32) - k)
  have t2 := Jvm.RoadKit.c_mask p (2147483647 : Int32) 31 (by decide) (by decide)
  have t3 : 0 ≤ (p &&& (2147483647 : Int32)).toInt := by rw [t2]; omega
  obtain ⟨u1, u2, _, _, _⟩ := (Jvm.RoadKit.c_iremV (p &&& (2147483647 : Int32)) ((11 : Int32) - k)).1 t3 (by omega)
  have t4 := Jvm.RoadKit.c_iadd k ((p &&& (2147483647 : Int32)) % ((11 : Int32) - k))
  have t5 := Jvm.RoadKit.rng32 (k + ((p &&& (2147483647 : Int32)) % ((11 : Int32) - k)))
  rw [h] at t4 t5
  omega
theorem own_nz (k : Int32) (hk : 1 ≤ k.toInt ∧ k.toInt ≤ 10) : (11 : Int32) - k ≠ (0 : Int32) := by
  intro c
  have e := own_z11
  have t0 := Jvm.RoadKit.c_isub (11 : Int32) k
  rw [c, own_z0] at t0
  omega
theorem own_e (vs : List Value) (q : Int32) (i : Nat) (b : Int32) (hq : q.toNatClampNeg = i) (h : vs.getD i (.int (0 : Int32)) = .int b) : vs.getD q.toNatClampNeg (.int (0 : Int32)) = .int (own_by vs q) ∧ own_by vs q = b := by
  unfold own_by; rw [hq, h]; exact ⟨rfl, rfl⟩
theorem own_bb (q : Int32) : (q.toInt8.toInt32).toInt8.toInt32 = q.toInt8.toInt32 := by
  simp
theorem own_shd (v : Int64) (d : Int32) (h : 0 ≤ d.toInt ∧ d.toInt ≤ 9) : (((v.toUInt64 >>> (((7 : Int32) * d) &&& 0x3f).toInt64.toUInt64).toInt64)).toInt % 128 = v.toInt % 18446744073709551616 / 2 ^ (7 * d.toInt.toNat) % 128 := by
  have r := Jvm.RoadKit.rng64 v
  have hc : d = 0 ∨ d = 1 ∨ d = 2 ∨ d = 3 ∨ d = 4 ∨ d = 5 ∨ d = 6 ∨ d = 7 ∨ d = 8 ∨ d = 9 := by
    simp only [← Int32.toInt_inj]
    show d.toInt = 0 ∨ d.toInt = 1 ∨ d.toInt = 2 ∨ d.toInt = 3 ∨ d.toInt = 4 ∨ d.toInt = 5 ∨ d.toInt = 6 ∨ d.toInt = 7 ∨ d.toInt = 8 ∨ d.toInt = 9
    omega
  rcases hc with e | e | e | e | e | e | e | e | e | e <;> subst e
  · have z : ((v.toUInt64 >>> (((7 : Int32) * 0) &&& 0x3f).toInt64.toUInt64).toInt64) = v := by
      have : (((7 : Int32) * 0) &&& 0x3f).toInt64.toUInt64 = 0 := by decide
      rw [this]; simp
    rw [z]; show v.toInt % 128 = v.toInt % 18446744073709551616 / 2 ^ 0 % 128; omega
  · have q := Jvm.RoadKit.c_lushr v ((7 : Int32) * 1) 7 (by decide) (by decide); rw [q]; show _ = v.toInt % 18446744073709551616 / 2 ^ 7 % 128; omega
  · have q := Jvm.RoadKit.c_lushr v ((7 : Int32) * 2) 14 (by decide) (by decide); rw [q]; show _ = v.toInt % 18446744073709551616 / 2 ^ 14 % 128; omega
  · have q := Jvm.RoadKit.c_lushr v ((7 : Int32) * 3) 21 (by decide) (by decide); rw [q]; show _ = v.toInt % 18446744073709551616 / 2 ^ 21 % 128; omega
  · have q := Jvm.RoadKit.c_lushr v ((7 : Int32) * 4) 28 (by decide) (by decide); rw [q]; show _ = v.toInt % 18446744073709551616 / 2 ^ 28 % 128; omega
  · have q := Jvm.RoadKit.c_lushr v ((7 : Int32) * 5) 35 (by decide) (by decide); rw [q]; show _ = v.toInt % 18446744073709551616 / 2 ^ 35 % 128; omega
  · have q := Jvm.RoadKit.c_lushr v ((7 : Int32) * 6) 42 (by decide) (by decide); rw [q]; show _ = v.toInt % 18446744073709551616 / 2 ^ 42 % 128; omega
  · have q := Jvm.RoadKit.c_lushr v ((7 : Int32) * 7) 49 (by decide) (by decide); rw [q]; show _ = v.toInt % 18446744073709551616 / 2 ^ 49 % 128; omega
  · have q := Jvm.RoadKit.c_lushr v ((7 : Int32) * 8) 56 (by decide) (by decide); rw [q]; show _ = v.toInt % 18446744073709551616 / 2 ^ 56 % 128; omega
  · have q := Jvm.RoadKit.c_lushr v ((7 : Int32) * 9) 63 (by decide) (by decide); rw [q]; show _ = v.toInt % 18446744073709551616 / 2 ^ 63 % 128; omega
theorem own_b255 (X : Int32) : ((X.toInt8.toInt32) &&& (255 : Int32)).toInt = X.toInt % 256 := by
  have h1 := Jvm.RoadKit.c_i2b X
  have h2 := Jvm.RoadKit.c_mask (X.toInt8.toInt32) (255 : Int32) 8 (by decide) (by decide)
  omega
theorem own_bytelo (v : Int64) (q : Int32) (hq : 0 ≤ q.toInt ∧ q.toInt ≤ 9) : ((((((v.toUInt64 >>> (((7 : Int32) * q) &&& 0x3f).toInt64.toUInt64).toInt64) &&& (127 : Int64)).toInt32).toInt8.toInt32) &&& (255 : Int32)).toInt = v.toInt % 18446744073709551616 / 2 ^ (7 * q.toInt.toNat) % 128 := by
  rw [own_b255, ← own_shd v q hq]
  generalize (v.toUInt64 >>> (((7 : Int32) * q) &&& 0x3f).toInt64.toUInt64).toInt64 = u
  have m1 := Jvm.RoadKit.c_maskL u (127 : Int64) 7 (by decide) (by decide)
  have m2 := Jvm.RoadKit.c_l2i (u &&& (127 : Int64))
  have m3 := Jvm.RoadKit.rng32 (u &&& (127 : Int64)).toInt32
  omega
theorem own_bytehi (v : Int64) (q : Int32) (hq : 0 ≤ q.toInt ∧ q.toInt ≤ 9) : (((((((v.toUInt64 >>> (((7 : Int32) * q) &&& 0x3f).toInt64.toUInt64).toInt64) &&& (127 : Int64)).toInt32) ||| (128 : Int32)).toInt8.toInt32) &&& (255 : Int32)).toInt = v.toInt % 18446744073709551616 / 2 ^ (7 * q.toInt.toNat) % 128 + 128 := by
  rw [own_b255, ← own_shd v q hq]
  generalize (v.toUInt64 >>> (((7 : Int32) * q) &&& 0x3f).toInt64.toUInt64).toInt64 = u
  have m1 := Jvm.RoadKit.c_maskL u (127 : Int64) 7 (by decide) (by decide)
  have m2 := Jvm.RoadKit.c_l2i (u &&& (127 : Int64))
  have m3 := Jvm.RoadKit.rng32 (u &&& (127 : Int64)).toInt32
  have e : (128 : Int32).toInt = 128 := rfl
  have o := Jvm.RoadKit.c_or' ((u &&& (127 : Int64)).toInt32) (128 : Int32) 7 (by decide) 128 (by decide) (by rw [e]; decide) (by omega) (by omega)
  omega

theorem d5_0 : decode jdk_31_method_11_code 0 = .ok (.aload_n 0, 1) := by decide +kernel
theorem d5_1 : decode jdk_31_method_11_code 1 = .ok (.ifnonnull 12, 3) := by decide +kernel
theorem d5_13 : decode jdk_31_method_11_code 13 = .ok (.aload_n 0, 1) := by decide +kernel
def Q_rm5 (Z : State) (o0 : Addr) (o1 : Addr) (h0 : Heap) (n0 : Nat) (v : Option Value) (h : Heap) (L : List Loc) : Prop := v = some (.ref o0) ∧ Fr n0 L ∧ h = h0
theorem pn_5 : plainName "java/util/Objects" = true := by first | (simp [plainName, overriddenIn]; done) | decide +kernel
theorem ef_5 (m : MethodId) (x0 : Addr) (x1 : Addr) : entryFrame m #[(.ref x0), (.ref x1)] 2 = mkF m 0 #[.val (.ref x0), .val (.ref x1)] [] := by first | (simp [entryFrame, mkF, argsToLocals, Value.category]; done) | rfl
theorem d5_14 : decode jdk_31_method_11_code 14 = .ok (.areturn, 1) := by decide +kernel
set_option maxRecDepth 65536 in
set_option maxHeartbeats 40000000 in
theorem rm5 (l : Launch) (Z : State) (a0 : Array Value) (hw : ∀ d ∈ tables_1, d.before a0 Z = true) (ws : List Jvm.Cond) (o0 : Addr) (o1 : Addr) (h0 : Heap) (n0 : Nat) (Z0 : n0 ≤ h0.size) :
    MetFree l (⟨"java/util/Objects", "requireNonNull", "(Ljava/lang/Object;Ljava/lang/String;)Ljava/lang/Object;"⟩ : MethodName) (head1 (Jvm.Cond.code (⟨"java/util/Objects", "requireNonNull", "(Ljava/lang/Object;Ljava/lang/String;)Ljava/lang/Object;"⟩ : MethodName) jdk_31_method_11_code 2 (some (.object "java/lang/Object")) :: ws) ({ frames := 0, cells := 0, slots := 0, locals := 0 } : Room)) (fun a U => a = #[(.ref o0), (.ref o1)] ∧ Z.Warmed39 U.vm ∧ U.heap = h0) (fun _ _ _ _ _ => True) (fun _ U o U' => ∃ v L, o = .returned v ∧ Q_rm5 Z o0 o1 h0 n0 v U'.heap L ∧ FrameEnd U o U' L ({ frames := 0, cells := 0, slots := 0, locals := 0 } : Room).cells ({ frames := 0, cells := 0, slots := 0, locals := 0 } : Room).slots) := by
  refine MetFree.of_bodySF (plainFor_of_name pn_5) hisR ?_
  intro p e s m args below meth c s₁ Bd hml0 hP hK
  obtain ⟨rfl, hZ, hh⟩ := hP
  have hx := Bd.exec
  have hby := Bd.bytes
  have hml : c.maxLocals = 2 := hml0
  have hown : s.vm.findClass "java/util/Objects" = some m.cls := findClass_of_methodNamed Bd.named
  have hnm := (name_of_methodNamed Bd.named Bd.method).1
  have X0 : Stand p l e ({ frames := 0, cells := 0, slots := 0, locals := 0 } : Room) s m #[(.ref o0), (.ref o1)] below meth c s₁ [] 0 0 := Stand.of_body Bd
  have e0 : s₁.heap = h0 := by rw [← hh, Bd.state]; rfl
  have N0 := Fr.nil n0
  have Kp0 : Keep h0 h0 [] := Keep.refl _ _
  have K0 : Steps p.tables e below (s₁.setTop (entryFrame m #[(.ref o0), (.ref o1)] 2)) (s₁.setTop (mkF m 0 #[.val (.ref o0), .val (.ref o1)] [])) := castTop (ef_5 m o0 o1) (Steps.refl _)
  have K1 : Steps p.tables e below _ (s₁.setTop (mkF m 14 #[.val (.ref o0), .val (.ref o1)] [(.ref o0)])) := K0.trans (by
    show Steps p.tables e below (s₁.setTop (mkF m 0 #[.val (.ref o0), .val (.ref o1)] [])) _
    refine XS.aloadN X0.here hx rfl (hb hby d5_0) rfl rfl ?_
    show Steps p.tables e below (s₁.setTop (mkF m 1 #[.val (.ref o0), .val (.ref o1)] [(.ref o0)])) _
    refine XS.ifnonnullYes X0.here hx rfl (pc0 := 1) (pc' := 13) rfl (hb hby d5_1) rfl (by decide) (by decide) ?_
    show Steps p.tables e below (s₁.setTop (mkF m 13 #[.val (.ref o0), .val (.ref o1)] [])) _
    refine XS.aloadN X0.here hx rfl (hb hby d5_13) rfl rfl ?_
    show Steps p.tables e below (s₁.setTop (mkF m 14 #[.val (.ref o0), .val (.ref o1)] [(.ref o0)])) _
    exact Steps.refl _)
  obtain ⟨fs, hr, hrun, hended, hW, hsame⟩ := X0.leave (v := some (.ref o0)) (fun h => by rw [Bd.returns] at h; cases h)
  refine ⟨_, _, K1.trans (retOut X0 hx Bd.returns rfl (Or.inr (Or.inr (Or.inr (Or.inr ⟨rfl, rfl, rfl⟩)))) (hb hby d5_14) hr), hrun, hended, _, _, rfl, ?_, ⟨_, rfl⟩, hW, hsame.mono (by decide) (by first | decide | omega)⟩
  show Q_rm5 Z o0 o1 h0 n0 _ s₁.heap _
  rw [e0]
  exact ⟨rfl, N0, rfl⟩
theorem d3_0 : decode prog_1_method_1_code 0 = .ok (.aload_n 0, 1) := by decide +kernel
theorem d3_1 : decode prog_1_method_1_code 1 = .ok (.invokespecial 1, 3) := by decide +kernel
theorem d3_4 : decode prog_1_method_1_code 4 = .ok (.aload_n 0, 1) := by decide +kernel
theorem d3_5 : decode prog_1_method_1_code 5 = .ok (.aload_n 1, 1) := by decide +kernel
theorem own_sa {a0 : Array Value} {Z : State} (hw : ∀ d ∈ tables_1, d.before a0 Z = true) : ∀ d ∈ Bundle.stringAtoms, d.before a0 Z = true := fun d hd => hw d (by
  simp only [Bundle.stringAtoms, List.mem_cons, List.not_mem_nil, or_false] at hd
  rcases hd with rfl | rfl | rfl | rfl | rfl | rfl | rfl <;> decide +kernel)
theorem d3_6 : decode prog_1_method_1_code 6 = .ok (.ldc 7, 2) := by decide +kernel
theorem pd_0 : parseMethodDescriptor "(Ljava/lang/Object;Ljava/lang/String;)Ljava/lang/Object;" = some ⟨[(.object "java/lang/Object"), (.object "java/lang/String")], some (.object "java/lang/Object")⟩ := by decide +kernel
theorem d3_8 : decode prog_1_method_1_code 8 = .ok (.invokestatic 9, 3) := by decide +kernel
theorem d3_11 : decode prog_1_method_1_code 11 = .ok (.checkcast 15, 3) := by decide +kernel
theorem d3_14 : decode prog_1_method_1_code 14 = .ok (.putfield 17, 3) := by decide +kernel
def Q_rm3 (Z : State) (o0 : Addr) (o1 : Addr) (w_pos : Int32) (u3_input : Value) (h0 : Heap) (n0 : Nat) (v : Option Value) (h : Heap) (L : List Loc) : Prop := v = none ∧ Fr n0 L ∧ Keep h0 h [o0] ∧ Exa Z h o0 "com/example/thin_gateway/thingateway/avro/AvroDecoder" ∧ Fld Z h o0 "com/example/thin_gateway/thingateway/avro/AvroDecoder" "position" "I" (.int w_pos) ∧ Fld Z h o0 "com/example/thin_gateway/thingateway/avro/AvroDecoder" "input" "[B" (.ref o1)
theorem pn_3 : plainName "com/example/thin_gateway/thingateway/avro/AvroDecoder" = true := by first | (simp [plainName, overriddenIn]; done) | decide +kernel
theorem ef_3 (m : MethodId) (x0 : Addr) (x1 : Addr) : entryFrame m #[(.ref x0), (.ref x1)] 2 = mkF m 0 #[.val (.ref x0), .val (.ref x1)] [] := by first | (simp [entryFrame, mkF, argsToLocals, Value.category]; done) | rfl
theorem d3_17 : decode prog_1_method_1_code 17 = .ok (.return_, 1) := by decide +kernel
set_option maxRecDepth 65536 in
set_option maxHeartbeats 40000000 in
theorem rm3 (l : Launch) (Z : State) (a0 : Array Value) (hw : ∀ d ∈ tables_1, d.before a0 Z = true) (ws : List Jvm.Cond) (o0 : Addr) (o1 : Addr) (w_pos : Int32) (u3_input : Value) (h0 : Heap) (n0 : Nat) (Z0 : n0 ≤ h0.size) (E_o0 : Exa Z h0 o0 "com/example/thin_gateway/thingateway/avro/AvroDecoder") (F_position_o0 : Fld Z h0 o0 "com/example/thin_gateway/thingateway/avro/AvroDecoder" "position" "I" (.int w_pos)) (E_o1 : Exa Z h0 o1 "[B") (ne_o0_o1 : o0 ≠ o1) (g_o0 : n0 ≤ o0) (F_input_o0 : Fld Z h0 o0 "com/example/thin_gateway/thingateway/avro/AvroDecoder" "input" "[B" u3_input) :
    MetFree l (⟨"com/example/thin_gateway/thingateway/avro/AvroDecoder", "<init>", "([B)V"⟩ : MethodName) (head1 (Jvm.Cond.code (⟨"com/example/thin_gateway/thingateway/avro/AvroDecoder", "<init>", "([B)V"⟩ : MethodName) prog_1_method_1_code 2 none :: ws) ({ frames := 1, cells := 2, slots := 24, locals := 14 } : Room)) (fun a U => a = #[(.ref o0), (.ref o1)] ∧ Z.Warmed39 U.vm ∧ U.heap = h0) (fun _ _ _ _ _ => True) (fun _ U o U' => ∃ v L, o = .returned v ∧ Q_rm3 Z o0 o1 w_pos u3_input h0 n0 v U'.heap L ∧ ReturnedEndW U o U' L ({ frames := 1, cells := 2, slots := 24, locals := 14 } : Room).cells ({ frames := 1, cells := 2, slots := 24, locals := 14 } : Room).slots) := by
  refine MetFree.of_bodySF (plainFor_of_name pn_3) hisR ?_
  intro p e s m args below meth c s₁ Bd hml0 hP hK
  obtain ⟨rfl, hZ, hh⟩ := hP
  have hx := Bd.exec
  have hby := Bd.bytes
  have hml : c.maxLocals = 2 := hml0
  have hown : s.vm.findClass "com/example/thin_gateway/thingateway/avro/AvroDecoder" = some m.cls := findClass_of_methodNamed Bd.named
  have hnm := (name_of_methodNamed Bd.named Bd.method).1
  have X0 : Stand p l e ({ frames := 1, cells := 2, slots := 24, locals := 14 } : Room) s m #[(.ref o0), (.ref o1)] below meth c s₁ [] 0 0 := Stand.of_body Bd
  have e0 : s₁.heap = h0 := by rw [← hh, Bd.state]; rfl
  have N0 := Fr.nil n0
  have Kp0 : Keep h0 h0 [o0] := Keep.refl _ _
  have K0 : Steps p.tables e below (s₁.setTop (entryFrame m #[(.ref o0), (.ref o1)] 2)) (s₁.setTop (mkF m 0 #[.val (.ref o0), .val (.ref o1)] [])) := castTop (ef_3 m o0 o1) (Steps.refl _)
  have K1 : Steps p.tables e below _ (s₁.setTop (mkF m 1 #[.val (.ref o0), .val (.ref o1)] [(.ref o0)])) := K0.trans (by
    show Steps p.tables e below (s₁.setTop (mkF m 0 #[.val (.ref o0), .val (.ref o1)] [])) _
    refine XS.aloadN X0.here hx rfl (hb hby d3_0) rfl rfl ?_
    show Steps p.tables e below (s₁.setTop (mkF m 1 #[.val (.ref o0), .val (.ref o1)] [(.ref o0)])) _
    exact Steps.refl _)
  obtain ⟨T2, X2, e2, st2⟩ := initO X0 hx hZ hown (hw _ (List.mem_of_getElem? (i := 16) rfl)) (hw _ (List.mem_of_getElem? (i := 17) rfl)) (hw _ (List.mem_of_getElem? (i := 18) rfl)) e0 (g := (mkF m 1 #[.val (.ref o0), .val (.ref o1)] [(.ref o0)])) rfl (by rw [hml]; rfl) rfl (hb hby d3_1) (by decide) (W := 0) (by show 2 * 0 + _ ≤ _; exact Nat.le_of_eq rfl) (by decide)
  have K3 : Steps p.tables e below _ (T2.setTop (mkF m 4 #[.val (.ref o0), .val (.ref o1)] [])) := K1.trans (st2 _ (Steps.refl _))
  have K4 : Steps p.tables e below _ (T2.setTop (mkF m 6 #[.val (.ref o0), .val (.ref o1)] [(.ref o1), (.ref o0)])) := K3.trans (by
    show Steps p.tables e below (T2.setTop (mkF m 4 #[.val (.ref o0), .val (.ref o1)] [])) _
    refine XS.aloadN X2.here hx rfl (hb hby d3_4) rfl rfl ?_
    show Steps p.tables e below (T2.setTop (mkF m 5 #[.val (.ref o0), .val (.ref o1)] [(.ref o0)])) _
    refine XS.aloadN X2.here hx rfl (hb hby d3_5) rfl rfl ?_
    show Steps p.tables e below (T2.setTop (mkF m 6 #[.val (.ref o0), .val (.ref o1)] [(.ref o1), (.ref o0)])) _
    exact Steps.refl _)
  have Xw5 : Stand p l e ({ frames := 1, cells := 2, slots := 24, locals := 14 } : Room) (s.setVm s.vm) m #[(.ref o0), (.ref o1)] below meth c T2 _ _ _ := X2
  obtain ⟨b5, T5, h5, kk5, X5, e5, E5, hS5, hk5, hZ5, hown5, st5⟩ := ldcS Xw5 hx hZ hown (hw _ (List.mem_of_getElem? (i := 19) rfl)) (own_sa hw) e2 (State.WarmedH.since (State.WarmedH.refl s) 0) (Nat.zero_le _) (g := (mkF m 6 #[.val (.ref o0), .val (.ref o1)] [(.ref o1), (.ref o0)])) rfl (hb hby d3_6) (n := 20) (by decide) (by decide) (by decide) (by decide)
  have hZ := hZ5
  have hown := hown5
  have K6 : Steps p.tables e below _ (T5.setTop (mkF m 8 #[.val (.ref o0), .val (.ref o1)] [(.ref b5), (.ref o1), (.ref o0)])) := K4.trans (st5 _ (Steps.refl _))
  have Z_7 : n0 ≤ h5.size := (Nat.le_trans Z0 E5.1)
  obtain ⟨_, _, ⟨T8, L8, k8, n8⟩, -, X8, ⟨Lc8, hQ8, l8, y8, z8⟩, st8⟩ := Jvm.LawKit.callS X5 hx (y := (⟨"java/util/Objects", "requireNonNull", "(Ljava/lang/Object;Ljava/lang/String;)Ljava/lang/Object;"⟩ : MethodName)) hown (mvT hZ (hw _ (List.mem_of_getElem? (i := 26) rfl))) (mvT hZ (hw _ (List.mem_of_getElem? (i := 27) rfl))) (mvT hZ (hw _ (List.mem_of_getElem? (i := 28) rfl))) (mvT hZ (hw _ (List.mem_of_getElem? (i := 29) rfl))) (by decide) (backOf (W := 1) (rm5 l Z a0 hw [] o1 b5 h5 n0 Z_7 ) hZ (hw _ (List.mem_of_getElem? (i := 29) rfl)) (hw _ (List.mem_of_getElem? (i := 28) rfl)) (by decide) (by decide)) (g := (mkF m 8 #[.val (.ref o0), .val (.ref o1)] [(.ref b5), (.ref o1), (.ref o0)])) rfl (by rw [hml]; rfl) (argsL := [(.ref o1), (.ref b5)]) (rest := [(.ref o0)]) (lenOf pd_0 rfl) rfl (by show 2 * 0 + _ ≤ _; exact Nat.le_of_eq rfl) (hb hby d3_8) (fun _ _ => ⟨rfl, e5, (by decide : 2 + 0 ≤ _), (by decide : 24 + 0 ≤ _)⟩)
  dsimp only [Pt.U, Pt.locs, Pt.cells, Pt.slots] at X8 l8 y8 z8 st8 hQ8
  subst l8 y8 z8
  obtain ⟨rfl, N8, eh8⟩ := hQ8
  have N8' := Fr.app N0 N8
  have K9 : Steps p.tables e below _ (T8.setTop (mkF m 11 #[.val (.ref o0), .val (.ref o1)] [(.ref o1), (.ref o0)])) := K6.trans (st8 _ (Steps.refl _))
  have E_10 : Exa Z h5 o1 "[B" := (E_o1.ext E5)
  obtain ⟨T11, X11, e11, st11⟩ := castY X8 hx hZ hown (hw _ (List.mem_of_getElem? (i := 30) rfl)) eh8 (Ins.self E_10) (g := (mkF m 11 #[.val (.ref o0), .val (.ref o1)] [(.ref o1), (.ref o0)])) rfl rfl (hb hby d3_11)
  have K12 : Steps p.tables e below _ (T11.setTop (mkF m 14 #[.val (.ref o0), .val (.ref o1)] [(.ref o1), (.ref o0)])) := K9.trans (st11 _ (Steps.refl _))
  have E_13 : Exa Z h5 o0 "com/example/thin_gateway/thingateway/avro/AvroDecoder" := (E_o0.ext E5)
  have F_14 : Fld Z h5 o0 "com/example/thin_gateway/thingateway/avro/AvroDecoder" "input" "[B" u3_input := (F_input_o0.ext E5)
  obtain ⟨T15, h15, X15, e15, W15, st15⟩ := putF X11 hx hZ hown (host := "") (Or.inl (hw _ (List.mem_of_getElem? (i := 32) rfl))) Via.refl e11 F_14 E_13 (Or.inr ⟨(hw _ (List.mem_of_getElem? (i := 33) rfl)), rfl, hnm⟩) (hw _ (List.mem_of_getElem? (i := 11) rfl)) (ty := (.array .byte)) (by decide) rfl rfl (g := (mkF m 14 #[.val (.ref o0), .val (.ref o1)] [(.ref o1), (.ref o0)])) rfl rfl (hb hby d3_14)
  have K16 : Steps p.tables e below _ (T15.setTop (mkF m 17 #[.val (.ref o0), .val (.ref o1)] [])) := K12.trans (st15 _ (Steps.refl _))
  have Fw15 : Fld Z h15 o0 "com/example/thin_gateway/thingateway/avro/AvroDecoder" "input" "[B" (.ref o1) := F_14.same W15
  have N15 := Fr.snoc X15 N8' g_o0
  have Y_17 : kk5 ≤ h15.size := (Nat.le_trans hk5 (Keep.of_wr W15).1)
  obtain ⟨fs, hr, hrun, hended, hEW⟩ := X15.leaveW hS5 (by rw [e15]; exact Y_17) (v := none) (fun _ => rfl)
  have K_18 : Keep h0 h15 [o0] := ((Kp0.ext E5).wr W15 (Or.inl (List.mem_of_getElem? (i := 0) rfl)))
  have E_19 : Exa Z h15 o0 "com/example/thin_gateway/thingateway/avro/AvroDecoder" := (E_13.wr W15)
  have F_20 : Fld Z h15 o0 "com/example/thin_gateway/thingateway/avro/AvroDecoder" "position" "I" (.int w_pos) := ((F_position_o0.ext E5).other W15 (Or.inr (slot_ne (Or.inl (hw _ (List.mem_of_getElem? (i := 40) rfl))) (Or.inr (hw _ (List.mem_of_getElem? (i := 33) rfl))) (by decide) (t := .int) (t' := (.array .byte)) (by decide) (by decide))))
  refine ⟨_, _, K16.trans (X15.returnOut hx Bd.returns (hb hby d3_17) hr), hrun, hended, _, _, rfl, ?_, ⟨_, rfl⟩, hEW.2.1, hEW.2.2.1, hEW.2.2.2.mono (by decide) (by decide)⟩
  show Q_rm3 Z o0 o1 w_pos u3_input h0 n0 _ T15.heap _
  rw [e15]
  exact ⟨rfl, N15, K_18, E_19, F_20, Fw15⟩
theorem d7_0 : decode prog_1_method_2_code 0 = .ok (.aload_n 0, 1) := by decide +kernel
theorem d7_1 : decode prog_1_method_2_code 1 = .ok (.getfield 21, 3) := by decide +kernel
theorem d7_4 : decode prog_1_method_2_code 4 = .ok (.aload_n 0, 1) := by decide +kernel
theorem d7_5 : decode prog_1_method_2_code 5 = .ok (.getfield 17, 3) := by decide +kernel
theorem d7_8 : decode prog_1_method_2_code 8 = .ok (.arraylength, 1) := by decide +kernel
theorem d7_9 : decode prog_1_method_2_code 9 = .ok (.if_icmp .ne 7, 3) := by decide +kernel
theorem d7_12 : decode prog_1_method_2_code 12 = .ok (.iconst 1, 1) := by decide +kernel
theorem d7_13 : decode prog_1_method_2_code 13 = .ok (.goto 4, 3) := by decide +kernel
theorem d7_16 : decode prog_1_method_2_code 16 = .ok (.iconst 0, 1) := by decide +kernel
def Q_rm7 (Z : State) (o0 : Addr) (ia : Addr) (ka : ClassId) (z : Int32) (vs : List Value) (n : Int32) (h0 : Heap) (n0 : Nat) (v : Option Value) (h : Heap) (L : List Loc) : Prop := v = some (.int ((if n = z then (1 : Int32) else (0 : Int32)) &&& 1)) ∧ Fr n0 L ∧ h = h0
theorem pn_7 : plainName "com/example/thin_gateway/thingateway/avro/AvroDecoder" = true := by first | (simp [plainName, overriddenIn]; done) | decide +kernel
theorem ef_7 (m : MethodId) (x0 : Addr) : entryFrame m #[(.ref x0)] 1 = mkF m 0 #[.val (.ref x0)] [] := by first | (simp [entryFrame, mkF, argsToLocals, Value.category]; done) | rfl
theorem d7_17 : decode prog_1_method_2_code 17 = .ok (.ireturn, 1) := by decide +kernel
set_option maxRecDepth 65536 in
set_option maxHeartbeats 40000000 in
theorem rm7 (l : Launch) (Z : State) (a0 : Array Value) (hw : ∀ d ∈ tables_1, d.before a0 Z = true) (ws : List Jvm.Cond) (o0 : Addr) (ia : Addr) (ka : ClassId) (z : Int32) (vs : List Value) (n : Int32) (h0 : Heap) (n0 : Nat) (Z0 : n0 ≤ h0.size) (F_input_o0 : Fld Z h0 o0 "com/example/thin_gateway/thingateway/avro/AvroDecoder" "input" "[B" (.ref ia)) (F_position_o0 : Fld Z h0 o0 "com/example/thin_gateway/thingateway/avro/AvroDecoder" "position" "I" (.int n)) (V_ia : Arv Z h0 ia ka .byte z vs (.int (0 : Int32))) :
    MetFree l (⟨"com/example/thin_gateway/thingateway/avro/AvroDecoder", "isAtEnd", "()Z"⟩ : MethodName) (head1 (Jvm.Cond.code (⟨"com/example/thin_gateway/thingateway/avro/AvroDecoder", "isAtEnd", "()Z"⟩ : MethodName) prog_1_method_2_code 1 (some .boolean) :: ws) ({ frames := 0, cells := 0, slots := 0, locals := 0 } : Room)) (fun a U => a = #[(.ref o0)] ∧ Z.Warmed39 U.vm ∧ U.heap = h0) (fun _ _ _ _ _ => True) (fun _ U o U' => ∃ v L, o = .returned v ∧ Q_rm7 Z o0 ia ka z vs n h0 n0 v U'.heap L ∧ FrameEnd U o U' L ({ frames := 0, cells := 0, slots := 0, locals := 0 } : Room).cells ({ frames := 0, cells := 0, slots := 0, locals := 0 } : Room).slots) := by
  refine MetFree.of_bodySF (plainFor_of_name pn_7) hisR ?_
  intro p e s m args below meth c s₁ Bd hml0 hP hK
  obtain ⟨rfl, hZ, hh⟩ := hP
  have hx := Bd.exec
  have hby := Bd.bytes
  have hml : c.maxLocals = 1 := hml0
  have hown : s.vm.findClass "com/example/thin_gateway/thingateway/avro/AvroDecoder" = some m.cls := findClass_of_methodNamed Bd.named
  have hnm := (name_of_methodNamed Bd.named Bd.method).1
  have X0 : Stand p l e ({ frames := 0, cells := 0, slots := 0, locals := 0 } : Room) s m #[(.ref o0)] below meth c s₁ [] 0 0 := Stand.of_body Bd
  have e0 : s₁.heap = h0 := by rw [← hh, Bd.state]; rfl
  have N0 := Fr.nil n0
  have Kp0 : Keep h0 h0 [] := Keep.refl _ _
  have K0 : Steps p.tables e below (s₁.setTop (entryFrame m #[(.ref o0)] 1)) (s₁.setTop (mkF m 0 #[.val (.ref o0)] [])) := castTop (ef_7 m o0) (Steps.refl _)
  have K1 : Steps p.tables e below _ (s₁.setTop (mkF m 1 #[.val (.ref o0)] [(.ref o0)])) := K0.trans (by
    show Steps p.tables e below (s₁.setTop (mkF m 0 #[.val (.ref o0)] [])) _
    refine XS.aloadN X0.here hx rfl (hb hby d7_0) rfl rfl ?_
    show Steps p.tables e below (s₁.setTop (mkF m 1 #[.val (.ref o0)] [(.ref o0)])) _
    exact Steps.refl _)
  obtain ⟨T2, X2, e2, st2⟩ := getF X0 hx hZ hown (host := "") (Or.inl (hw _ (List.mem_of_getElem? (i := 39) rfl))) Via.refl e0 F_position_o0 (g := (mkF m 1 #[.val (.ref o0)] [(.ref o0)])) rfl rfl (hb hby d7_1)
  have K3 : Steps p.tables e below _ (T2.setTop (mkF m 4 #[.val (.ref o0)] [(.int n)])) := K1.trans (st2 _ (Steps.refl _))
  have K4 : Steps p.tables e below _ (T2.setTop (mkF m 5 #[.val (.ref o0)] [(.ref o0), (.int n)])) := K3.trans (by
    show Steps p.tables e below (T2.setTop (mkF m 4 #[.val (.ref o0)] [(.int n)])) _
    refine XS.aloadN X2.here hx rfl (hb hby d7_4) rfl rfl ?_
    show Steps p.tables e below (T2.setTop (mkF m 5 #[.val (.ref o0)] [(.ref o0), (.int n)])) _
    exact Steps.refl _)
  obtain ⟨T5, X5, e5, st5⟩ := getF X2 hx hZ hown (host := "") (Or.inl (hw _ (List.mem_of_getElem? (i := 32) rfl))) Via.refl e2 F_input_o0 (g := (mkF m 5 #[.val (.ref o0)] [(.ref o0), (.int n)])) rfl rfl (hb hby d7_5)
  have K6 : Steps p.tables e below _ (T5.setTop (mkF m 8 #[.val (.ref o0)] [(.ref ia), (.int n)])) := K4.trans (st5 _ (Steps.refl _))
  have K7 : Steps p.tables e below _ (T5.setTop (mkF m 9 #[.val (.ref o0)] [(.int z), (.int n)])) := K6.trans (by
    show Steps p.tables e below (T5.setTop (mkF m 8 #[.val (.ref o0)] [(.ref ia), (.int n)])) _
    refine (own_len X5 hx hZ e5 V_ia (g := (mkF m 8 #[.val (.ref o0)] [(.ref ia), (.int n)])) rfl rfl (hb hby d7_8)).trans ?_
    show Steps p.tables e below (T5.setTop (mkF m 9 #[.val (.ref o0)] [(.int z), (.int n)])) _
    exact Steps.refl _)
  obtain ⟨v8_0, hv8_0, S8⟩ : ∃ (v8_0 : Int32), (if n = z then (1 : Int32) else (0 : Int32)) = v8_0 ∧ Steps p.tables e below (T5.setTop (mkF m 9 #[.val (.ref o0)] [(.int z), (.int n)])) (T5.setTop (mkF m 17 #[.val (.ref o0)] [(.int v8_0)])) := by
    have R8 := Steps.refl (tb := p.tables) (e := e) (below := below) (T5.setTop (mkF m 9 #[.val (.ref o0)] [(.int z), (.int n)]))
    by_cases hc9 : n = z
    · have K9 : Steps p.tables e below _ (T5.setTop (mkF m 17 #[.val (.ref o0)] [(.int (1 : Int32))])) := R8.trans (by
        show Steps p.tables e below (T5.setTop (mkF m 9 #[.val (.ref o0)] [(.int z), (.int n)])) _
        refine XS.icmpNo X5.here hx rfl (hb hby d7_9) rfl (teq hc9).2 ?_
        show Steps p.tables e below (T5.setTop (mkF m 12 #[.val (.ref o0)] [])) _
        refine XS.iconst X5.here hx rfl (hb hby d7_12) ?_
        show Steps p.tables e below (T5.setTop (mkF m 13 #[.val (.ref o0)] [(.int (1 : Int32))])) _
        refine XS.goto X5.here hx rfl (pc0 := 13) (pc' := 17) rfl (hb hby d7_13) (by decide) (by decide) ?_
        show Steps p.tables e below (T5.setTop (mkF m 17 #[.val (.ref o0)] [(.int (1 : Int32))])) _
        exact Steps.refl _)
      exact ⟨(1 : Int32), (by rw [if_pos hc9]), K9⟩
    · have K10 : Steps p.tables e below _ (T5.setTop (mkF m 17 #[.val (.ref o0)] [(.int (0 : Int32))])) := R8.trans (by
        show Steps p.tables e below (T5.setTop (mkF m 9 #[.val (.ref o0)] [(.int z), (.int n)])) _
        refine XS.icmpYes X5.here hx rfl (pc0 := 9) (pc' := 16) rfl (hb hby d7_9) rfl (feq hc9).2 (by decide) (by decide) ?_
        show Steps p.tables e below (T5.setTop (mkF m 16 #[.val (.ref o0)] [])) _
        refine XS.iconst X5.here hx rfl (hb hby d7_16) ?_
        show Steps p.tables e below (T5.setTop (mkF m 17 #[.val (.ref o0)] [(.int (0 : Int32))])) _
        exact Steps.refl _)
      exact ⟨(0 : Int32), (by rw [if_neg hc9]), K10⟩
  have K11 := K7.trans S8
  subst hv8_0
  obtain ⟨fs, hr, hrun, hended, hW, hsame⟩ := X5.leave (v := some (.int ((if n = z then (1 : Int32) else (0 : Int32)) &&& 1))) (fun h => by rw [Bd.returns] at h; cases h)
  refine ⟨_, _, K11.trans (retN X5 hx (t := .boolean) Bd.returns (by simp) (hb hby d7_17) hr), hrun, hended, _, _, rfl, ?_, ⟨_, rfl⟩, hW, hsame.mono (by decide) (by first | decide | omega)⟩
  show Q_rm7 Z o0 ia ka z vs n h0 n0 _ T5.heap _
  rw [e5]
  exact ⟨rfl, N0, rfl⟩
theorem d6_13 : decode prog_1_method_4_code 13 = .ok (.iload 5, 2) := by decide +kernel
theorem d6_15 : decode prog_1_method_4_code 15 = .ok (.ifCond .eq 115, 3) := by decide +kernel
theorem d6_18 : decode prog_1_method_4_code 18 = .ok (.aload_n 0, 1) := by decide +kernel
theorem d6_19 : decode prog_1_method_4_code 19 = .ok (.getfield 21, 3) := by decide +kernel
theorem d6_22 : decode prog_1_method_4_code 22 = .ok (.aload_n 0, 1) := by decide +kernel
theorem d6_23 : decode prog_1_method_4_code 23 = .ok (.getfield 17, 3) := by decide +kernel
theorem d6_26 : decode prog_1_method_4_code 26 = .ok (.arraylength, 1) := by decide +kernel
theorem d6_27 : decode prog_1_method_4_code 27 = .ok (.if_icmp .ne 17, 3) := by decide +kernel
theorem d6_44 : decode prog_1_method_4_code 44 = .ok (.aload_n 0, 1) := by decide +kernel
theorem d6_45 : decode prog_1_method_4_code 45 = .ok (.getfield 17, 3) := by decide +kernel
theorem d6_48 : decode prog_1_method_4_code 48 = .ok (.aload_n 0, 1) := by decide +kernel
theorem d6_49 : decode prog_1_method_4_code 49 = .ok (.getfield 21, 3) := by decide +kernel
theorem d6_52 : decode prog_1_method_4_code 52 = .ok (.baload, 1) := by decide +kernel
theorem d6_53 : decode prog_1_method_4_code 53 = .ok (.sipush 255, 3) := by decide +kernel
theorem d6_56 : decode prog_1_method_4_code 56 = .ok (.iand, 1) := by decide +kernel
theorem d6_57 : decode prog_1_method_4_code 57 = .ok (.istore 6, 2) := by decide +kernel
theorem d6_59 : decode prog_1_method_4_code 59 = .ok (.aload_n 0, 1) := by decide +kernel
theorem d6_60 : decode prog_1_method_4_code 60 = .ok (.dup, 1) := by decide +kernel
theorem d6_61 : decode prog_1_method_4_code 61 = .ok (.getfield 21, 3) := by decide +kernel
theorem d6_64 : decode prog_1_method_4_code 64 = .ok (.iconst 1, 1) := by decide +kernel
theorem d6_65 : decode prog_1_method_4_code 65 = .ok (.iadd, 1) := by decide +kernel
theorem d6_66 : decode prog_1_method_4_code 66 = .ok (.putfield 21, 3) := by decide +kernel
theorem d6_69 : decode prog_1_method_4_code 69 = .ok (.iload 4, 2) := by decide +kernel
theorem d6_71 : decode prog_1_method_4_code 71 = .ok (.bipush 63, 2) := by decide +kernel
theorem d6_73 : decode prog_1_method_4_code 73 = .ok (.if_icmp .ne 23, 3) := by decide +kernel
theorem d6_76 : decode prog_1_method_4_code 76 = .ok (.iload 6, 2) := by decide +kernel
theorem d6_78 : decode prog_1_method_4_code 78 = .ok (.iconst 1, 1) := by decide +kernel
theorem d6_79 : decode prog_1_method_4_code 79 = .ok (.if_icmp .le 17, 3) := by decide +kernel
theorem d6_96 : decode prog_1_method_4_code 96 = .ok (.lload_n 2, 1) := by decide +kernel
theorem d6_97 : decode prog_1_method_4_code 97 = .ok (.iload 6, 2) := by decide +kernel
theorem d6_99 : decode prog_1_method_4_code 99 = .ok (.bipush 127, 2) := by decide +kernel
theorem d6_101 : decode prog_1_method_4_code 101 = .ok (.iand, 1) := by decide +kernel
theorem d6_102 : decode prog_1_method_4_code 102 = .ok (.i2l, 1) := by decide +kernel
theorem d6_103 : decode prog_1_method_4_code 103 = .ok (.iload 4, 2) := by decide +kernel
theorem d6_105 : decode prog_1_method_4_code 105 = .ok (.lshl, 1) := by decide +kernel
theorem d6_106 : decode prog_1_method_4_code 106 = .ok (.lor, 1) := by decide +kernel
theorem d6_107 : decode prog_1_method_4_code 107 = .ok (.lstore_n 2, 1) := by decide +kernel
theorem d6_108 : decode prog_1_method_4_code 108 = .ok (.iload 6, 2) := by decide +kernel
theorem d6_110 : decode prog_1_method_4_code 110 = .ok (.sipush 128, 3) := by decide +kernel
theorem d6_113 : decode prog_1_method_4_code 113 = .ok (.iand, 1) := by decide +kernel
theorem d6_114 : decode prog_1_method_4_code 114 = .ok (.ifCond .eq 7, 3) := by decide +kernel
theorem d6_121 : decode prog_1_method_4_code 121 = .ok (.iconst 0, 1) := by decide +kernel
theorem d6_117 : decode prog_1_method_4_code 117 = .ok (.iconst 1, 1) := by decide +kernel
theorem d6_118 : decode prog_1_method_4_code 118 = .ok (.goto 4, 3) := by decide +kernel
theorem d6_122 : decode prog_1_method_4_code 122 = .ok (.istore 5, 2) := by decide +kernel
theorem d6_124 : decode prog_1_method_4_code 124 = .ok (.iinc 4 7, 3) := by decide +kernel
theorem d6_127 : decode prog_1_method_4_code 127 = .ok (.goto (-114), 3) := by decide +kernel
set_option maxRecDepth 65536 in
set_option maxHeartbeats 40000000 in
theorem rturn {p : Program} {l : Launch} {e : Env} {R : Room} {s : State} {m : MethodId} {args : Array Value} {below : List Frame} {meth : Method} {c : Code} {Z : State} {a0 : Array Value} {n0 : Nat} (hx : p.tables.exec = Jvm.exec) (hZ : Z.Warmed39 s.vm) (hw : ∀ d ∈ tables_1, d.before a0 Z = true) (hby : c.code = prog_1_method_4_code) (hml : c.maxLocals = 7) (hown : s.vm.findClass "com/example/thin_gateway/thingateway/avro/AvroDecoder" = some m.cls) {a ia : Addr} {ka : ClassId} {z : Int32} {vs : List Value} {st0 : Int32} (ga : n0 ≤ a) (nea : a ≠ ia) (T0 : State) (locs : List Loc) (h0 : Heap) (q : Int32) (r : Int64) (sh : Int32) (s6 : Slot) (h6 : One s6) (X0 : Stand p l e R s m args below meth c T0 locs 0 0) (e0 : T0.heap = h0) (N0 : Fr n0 locs) (E0 : Exa Z h0 a "com/example/thin_gateway/thingateway/avro/AvroDecoder") (FI : Fld Z h0 a "com/example/thin_gateway/thingateway/avro/AvroDecoder" "input" "[B" (.ref ia)) (FP : Fld Z h0 a "com/example/thin_gateway/thingateway/avro/AvroDecoder" "position" "I" (.int q)) (V0 : Arv Z h0 ia ka .byte z vs (.int (0 : Int32)))
    (hq : (¬ (q < (0 : Int32))) ∧ q < z) (hat : vs.getD q.toNatClampNeg (.int (0 : Int32)) = .int (own_by vs q)) (h63 : sh = (63 : Int32) → ¬ ((1 : Int32) < ((own_by vs q) &&& (255 : Int32)))) :
    ∃ (T' : State) (L' : List Loc) (h' : Heap), Stand p l e R s m args below meth c T' L' 0 0 ∧ T'.heap = h' ∧ Fr n0 L' ∧ Keep h0 h' [a] ∧ Exa Z h' a "com/example/thin_gateway/thingateway/avro/AvroDecoder" ∧ Fld Z h' a "com/example/thin_gateway/thingateway/avro/AvroDecoder" "input" "[B" (.ref ia) ∧ Fld Z h' a "com/example/thin_gateway/thingateway/avro/AvroDecoder" "position" "I" (.int (q + (1 : Int32))) ∧ Arv Z h' ia ka .byte z vs (.int (0 : Int32)) ∧ Steps p.tables e below (T0.setTop (mkF m 13 #[.val (.ref a), .val (.int st0), .val (.long r), .second, .val (.int sh), .val (.int (1 : Int32)), s6] [])) (T'.setTop (mkF m 13 #[.val (.ref a), .val (.int st0), .val (.long (own_res r (own_by vs q) sh)), .second, .val (.int (sh + (7 : Int32))), .val (.int (if (((own_by vs q) &&& (255 : Int32)) &&& (128 : Int32)) = (0 : Int32) then (0 : Int32) else (1 : Int32))), .val (.int ((own_by vs q) &&& (255 : Int32)))] [])) := by
  have K0 : Steps p.tables e below (T0.setTop (mkF m 13 #[.val (.ref a), .val (.int st0), .val (.long r), .second, .val (.int sh), .val (.int (1 : Int32)), s6] [])) (T0.setTop (mkF m 13 #[.val (.ref a), .val (.int st0), .val (.long r), .second, .val (.int sh), .val (.int (1 : Int32)), s6] [])) := Steps.refl _
  have K1 : Steps p.tables e below _ (T0.setTop (mkF m 19 #[.val (.ref a), .val (.int st0), .val (.long r), .second, .val (.int sh), .val (.int (1 : Int32)), s6] [(.ref a)])) := K0.trans (by
    show Steps p.tables e below (T0.setTop (mkF m 13 #[.val (.ref a), .val (.int st0), .val (.long r), .second, .val (.int sh), .val (.int (1 : Int32)), s6] [])) _
    refine XS.iload X0.here hx rfl (hb hby d6_13) rfl ?_
    show Steps p.tables e below (T0.setTop (mkF m 15 #[.val (.ref a), .val (.int st0), .val (.long r), .second, .val (.int sh), .val (.int (1 : Int32)), s6] [(.int (1 : Int32))])) _
    refine XS.ifNo X0.here hx rfl (hb hby d6_15) rfl ((if0 _ _).trans (feq (by decide : ¬ ((1 : Int32) = (0 : Int32)))).1) ?_
    show Steps p.tables e below (T0.setTop (mkF m 18 #[.val (.ref a), .val (.int st0), .val (.long r), .second, .val (.int sh), .val (.int (1 : Int32)), s6] [])) _
    refine XS.aloadN X0.here hx rfl (hb hby d6_18) rfl rfl ?_
    show Steps p.tables e below (T0.setTop (mkF m 19 #[.val (.ref a), .val (.int st0), .val (.long r), .second, .val (.int sh), .val (.int (1 : Int32)), s6] [(.ref a)])) _
    exact Steps.refl _)
  obtain ⟨T2, X2, e2, st2⟩ := getF X0 hx hZ hown (host := "") (Or.inl (hw _ (List.mem_of_getElem? (i := 39) rfl))) Via.refl e0 FP (g := (mkF m 19 #[.val (.ref a), .val (.int st0), .val (.long r), .second, .val (.int sh), .val (.int (1 : Int32)), s6] [(.ref a)])) rfl rfl (hb hby d6_19)
  have K3 : Steps p.tables e below _ (T2.setTop (mkF m 22 #[.val (.ref a), .val (.int st0), .val (.long r), .second, .val (.int sh), .val (.int (1 : Int32)), s6] [(.int q)])) := K1.trans (st2 _ (Steps.refl _))
  have K4 : Steps p.tables e below _ (T2.setTop (mkF m 23 #[.val (.ref a), .val (.int st0), .val (.long r), .second, .val (.int sh), .val (.int (1 : Int32)), s6] [(.ref a), (.int q)])) := K3.trans (by
    show Steps p.tables e below (T2.setTop (mkF m 22 #[.val (.ref a), .val (.int st0), .val (.long r), .second, .val (.int sh), .val (.int (1 : Int32)), s6] [(.int q)])) _
    refine XS.aloadN X2.here hx rfl (hb hby d6_22) rfl rfl ?_
    show Steps p.tables e below (T2.setTop (mkF m 23 #[.val (.ref a), .val (.int st0), .val (.long r), .second, .val (.int sh), .val (.int (1 : Int32)), s6] [(.ref a), (.int q)])) _
    exact Steps.refl _)
  obtain ⟨T5, X5, e5, st5⟩ := getF X2 hx hZ hown (host := "") (Or.inl (hw _ (List.mem_of_getElem? (i := 32) rfl))) Via.refl e2 FI (g := (mkF m 23 #[.val (.ref a), .val (.int st0), .val (.long r), .second, .val (.int sh), .val (.int (1 : Int32)), s6] [(.ref a), (.int q)])) rfl rfl (hb hby d6_23)
  have K6 : Steps p.tables e below _ (T5.setTop (mkF m 26 #[.val (.ref a), .val (.int st0), .val (.long r), .second, .val (.int sh), .val (.int (1 : Int32)), s6] [(.ref ia), (.int q)])) := K4.trans (st5 _ (Steps.refl _))
  have K8 : Steps p.tables e below _ (T5.setTop (mkF m 27 #[.val (.ref a), .val (.int st0), .val (.long r), .second, .val (.int sh), .val (.int (1 : Int32)), s6] [(.int z), (.int q)])) := K6.trans (by
    show Steps p.tables e below (T5.setTop (mkF m 26 #[.val (.ref a), .val (.int st0), .val (.long r), .second, .val (.int sh), .val (.int (1 : Int32)), s6] [(.ref ia), (.int q)])) _
    refine (own_len X5 hx hZ e5 V0 (g := (mkF m 26 #[.val (.ref a), .val (.int st0), .val (.long r), .second, .val (.int sh), .val (.int (1 : Int32)), s6] [(.ref ia), (.int q)])) rfl rfl (hb hby d6_26)).trans ?_
    show Steps p.tables e below (T5.setTop (mkF m 27 #[.val (.ref a), .val (.int st0), .val (.long r), .second, .val (.int sh), .val (.int (1 : Int32)), s6] [(.int z), (.int q)])) _
    exact Steps.refl _)
  have hc27_6 : ¬ (q = z) := (fun y => absurd hq.2 (by rw [y]; exact Int32.lt_irrefl))
  have K9 : Steps p.tables e below _ (T5.setTop (mkF m 45 #[.val (.ref a), .val (.int st0), .val (.long r), .second, .val (.int sh), .val (.int (1 : Int32)), s6] [(.ref a)])) := K8.trans (by
    show Steps p.tables e below (T5.setTop (mkF m 27 #[.val (.ref a), .val (.int st0), .val (.long r), .second, .val (.int sh), .val (.int (1 : Int32)), s6] [(.int z), (.int q)])) _
    refine XS.icmpYes X5.here hx rfl (pc0 := 27) (pc' := 44) rfl (hb hby d6_27) rfl (feq hc27_6).2 (by decide) (by decide) ?_
    show Steps p.tables e below (T5.setTop (mkF m 44 #[.val (.ref a), .val (.int st0), .val (.long r), .second, .val (.int sh), .val (.int (1 : Int32)), s6] [])) _
    refine XS.aloadN X5.here hx rfl (hb hby d6_44) rfl rfl ?_
    show Steps p.tables e below (T5.setTop (mkF m 45 #[.val (.ref a), .val (.int st0), .val (.long r), .second, .val (.int sh), .val (.int (1 : Int32)), s6] [(.ref a)])) _
    exact Steps.refl _)
  obtain ⟨T10, X10, e10, st10⟩ := getF X5 hx hZ hown (host := "") (Or.inl (hw _ (List.mem_of_getElem? (i := 32) rfl))) Via.refl e5 FI (g := (mkF m 45 #[.val (.ref a), .val (.int st0), .val (.long r), .second, .val (.int sh), .val (.int (1 : Int32)), s6] [(.ref a)])) rfl rfl (hb hby d6_45)
  have K11 : Steps p.tables e below _ (T10.setTop (mkF m 48 #[.val (.ref a), .val (.int st0), .val (.long r), .second, .val (.int sh), .val (.int (1 : Int32)), s6] [(.ref ia)])) := K9.trans (st10 _ (Steps.refl _))
  have K12 : Steps p.tables e below _ (T10.setTop (mkF m 49 #[.val (.ref a), .val (.int st0), .val (.long r), .second, .val (.int sh), .val (.int (1 : Int32)), s6] [(.ref a), (.ref ia)])) := K11.trans (by
    show Steps p.tables e below (T10.setTop (mkF m 48 #[.val (.ref a), .val (.int st0), .val (.long r), .second, .val (.int sh), .val (.int (1 : Int32)), s6] [(.ref ia)])) _
    refine XS.aloadN X10.here hx rfl (hb hby d6_48) rfl rfl ?_
    show Steps p.tables e below (T10.setTop (mkF m 49 #[.val (.ref a), .val (.int st0), .val (.long r), .second, .val (.int sh), .val (.int (1 : Int32)), s6] [(.ref a), (.ref ia)])) _
    exact Steps.refl _)
  obtain ⟨T13, X13, e13, st13⟩ := getF X10 hx hZ hown (host := "") (Or.inl (hw _ (List.mem_of_getElem? (i := 39) rfl))) Via.refl e10 FP (g := (mkF m 49 #[.val (.ref a), .val (.int st0), .val (.long r), .second, .val (.int sh), .val (.int (1 : Int32)), s6] [(.ref a), (.ref ia)])) rfl rfl (hb hby d6_49)
  have K14 : Steps p.tables e below _ (T13.setTop (mkF m 52 #[.val (.ref a), .val (.int st0), .val (.long r), .second, .val (.int sh), .val (.int (1 : Int32)), s6] [(.int q), (.ref ia)])) := K12.trans (st13 _ (Steps.refl _))
  have K15 : Steps p.tables e below _ (T13.setTop (mkF m 61 #[.val (.ref a), .val (.int st0), .val (.long r), .second, .val (.int sh), .val (.int (1 : Int32)), .val (.int ((own_by vs q) &&& (255 : Int32)))] [(.ref a), (.ref a)])) := K14.trans (by
    show Steps p.tables e below (T13.setTop (mkF m 52 #[.val (.ref a), .val (.int st0), .val (.long r), .second, .val (.int sh), .val (.int (1 : Int32)), s6] [(.int q), (.ref ia)])) _
    refine (own_ldB X13 hx hZ e13 V0 (j := q) hq hat (g := (mkF m 52 #[.val (.ref a), .val (.int st0), .val (.long r), .second, .val (.int sh), .val (.int (1 : Int32)), s6] [(.int q), (.ref ia)])) rfl rfl (hb hby d6_52)).trans ?_
    show Steps p.tables e below (T13.setTop (mkF m 53 #[.val (.ref a), .val (.int st0), .val (.long r), .second, .val (.int sh), .val (.int (1 : Int32)), s6] [(.int (own_by vs q))])) _
    refine XS.sipush X13.here hx rfl (hb hby d6_53) ?_
    show Steps p.tables e below (T13.setTop (mkF m 56 #[.val (.ref a), .val (.int st0), .val (.long r), .second, .val (.int sh), .val (.int (1 : Int32)), s6] [(.int (255 : Int32)), (.int (own_by vs q))])) _
    refine XS.iand X13.here hx rfl (hb hby d6_56) rfl ?_
    show Steps p.tables e below (T13.setTop (mkF m 57 #[.val (.ref a), .val (.int st0), .val (.long r), .second, .val (.int sh), .val (.int (1 : Int32)), s6] [(.int ((own_by vs q) &&& (255 : Int32)))])) _
    refine XS.istoreS X13.here hx rfl (hb hby d6_57) rfl rfl h6 ?_
    show Steps p.tables e below (T13.setTop (mkF m 59 #[.val (.ref a), .val (.int st0), .val (.long r), .second, .val (.int sh), .val (.int (1 : Int32)), .val (.int ((own_by vs q) &&& (255 : Int32)))] [])) _
    refine XS.aloadN X13.here hx rfl (hb hby d6_59) rfl rfl ?_
    show Steps p.tables e below (T13.setTop (mkF m 60 #[.val (.ref a), .val (.int st0), .val (.long r), .second, .val (.int sh), .val (.int (1 : Int32)), .val (.int ((own_by vs q) &&& (255 : Int32)))] [(.ref a)])) _
    refine XS.dup X13.here hx rfl (hb hby d6_60) rfl rfl ?_
    show Steps p.tables e below (T13.setTop (mkF m 61 #[.val (.ref a), .val (.int st0), .val (.long r), .second, .val (.int sh), .val (.int (1 : Int32)), .val (.int ((own_by vs q) &&& (255 : Int32)))] [(.ref a), (.ref a)])) _
    exact Steps.refl _)
  obtain ⟨T16, X16, e16, st16⟩ := getF X13 hx hZ hown (host := "") (Or.inl (hw _ (List.mem_of_getElem? (i := 39) rfl))) Via.refl e13 FP (g := (mkF m 61 #[.val (.ref a), .val (.int st0), .val (.long r), .second, .val (.int sh), .val (.int (1 : Int32)), .val (.int ((own_by vs q) &&& (255 : Int32)))] [(.ref a), (.ref a)])) rfl rfl (hb hby d6_61)
  have K17 : Steps p.tables e below _ (T16.setTop (mkF m 64 #[.val (.ref a), .val (.int st0), .val (.long r), .second, .val (.int sh), .val (.int (1 : Int32)), .val (.int ((own_by vs q) &&& (255 : Int32)))] [(.int q), (.ref a)])) := K15.trans (st16 _ (Steps.refl _))
  have K18 : Steps p.tables e below _ (T16.setTop (mkF m 66 #[.val (.ref a), .val (.int st0), .val (.long r), .second, .val (.int sh), .val (.int (1 : Int32)), .val (.int ((own_by vs q) &&& (255 : Int32)))] [(.int (q + (1 : Int32))), (.ref a)])) := K17.trans (by
    show Steps p.tables e below (T16.setTop (mkF m 64 #[.val (.ref a), .val (.int st0), .val (.long r), .second, .val (.int sh), .val (.int (1 : Int32)), .val (.int ((own_by vs q) &&& (255 : Int32)))] [(.int q), (.ref a)])) _
    refine XS.iconst X16.here hx rfl (hb hby d6_64) ?_
    show Steps p.tables e below (T16.setTop (mkF m 65 #[.val (.ref a), .val (.int st0), .val (.long r), .second, .val (.int sh), .val (.int (1 : Int32)), .val (.int ((own_by vs q) &&& (255 : Int32)))] [(.int (1 : Int32)), (.int q), (.ref a)])) _
    refine XS.iadd X16.here hx rfl (hb hby d6_65) rfl ?_
    show Steps p.tables e below (T16.setTop (mkF m 66 #[.val (.ref a), .val (.int st0), .val (.long r), .second, .val (.int sh), .val (.int (1 : Int32)), .val (.int ((own_by vs q) &&& (255 : Int32)))] [(.int (q + (1 : Int32))), (.ref a)])) _
    exact Steps.refl _)
  obtain ⟨T19, h19, X19, e19, W19, st19⟩ := putF X16 hx hZ hown (host := "") (Or.inl (hw _ (List.mem_of_getElem? (i := 39) rfl))) Via.refl e16 FP E0 (Or.inl (hw _ (List.mem_of_getElem? (i := 40) rfl))) (hw _ (List.mem_of_getElem? (i := 11) rfl)) (ty := .int) (by decide) rfl rfl (g := (mkF m 66 #[.val (.ref a), .val (.int st0), .val (.long r), .second, .val (.int sh), .val (.int (1 : Int32)), .val (.int ((own_by vs q) &&& (255 : Int32)))] [(.int (q + (1 : Int32))), (.ref a)])) rfl rfl (hb hby d6_66)
  have K20 : Steps p.tables e below _ (T19.setTop (mkF m 69 #[.val (.ref a), .val (.int st0), .val (.long r), .second, .val (.int sh), .val (.int (1 : Int32)), .val (.int ((own_by vs q) &&& (255 : Int32)))] [])) := K18.trans (st19 _ (Steps.refl _))
  have Fw19 : Fld Z h19 a "com/example/thin_gateway/thingateway/avro/AvroDecoder" "position" "I" (.int (q + (1 : Int32))) := FP.same W19
  have N19 := Fr.snoc X19 N0 ga
  have K21 : Steps p.tables e below _ (T19.setTop (mkF m 73 #[.val (.ref a), .val (.int st0), .val (.long r), .second, .val (.int sh), .val (.int (1 : Int32)), .val (.int ((own_by vs q) &&& (255 : Int32)))] [(.int (63 : Int32)), (.int sh)])) := K20.trans (by
    show Steps p.tables e below (T19.setTop (mkF m 69 #[.val (.ref a), .val (.int st0), .val (.long r), .second, .val (.int sh), .val (.int (1 : Int32)), .val (.int ((own_by vs q) &&& (255 : Int32)))] [])) _
    refine XS.iload X19.here hx rfl (hb hby d6_69) rfl ?_
    show Steps p.tables e below (T19.setTop (mkF m 71 #[.val (.ref a), .val (.int st0), .val (.long r), .second, .val (.int sh), .val (.int (1 : Int32)), .val (.int ((own_by vs q) &&& (255 : Int32)))] [(.int sh)])) _
    refine XS.bipush X19.here hx rfl (hb hby d6_71) ?_
    show Steps p.tables e below (T19.setTop (mkF m 73 #[.val (.ref a), .val (.int st0), .val (.long r), .second, .val (.int sh), .val (.int (1 : Int32)), .val (.int ((own_by vs q) &&& (255 : Int32)))] [(.int (63 : Int32)), (.int sh)])) _
    exact Steps.refl _)
  by_cases hc73 : sh = (63 : Int32)
  · have K23 : Steps p.tables e below _ (T19.setTop (mkF m 79 #[.val (.ref a), .val (.int st0), .val (.long r), .second, .val (.int sh), .val (.int (1 : Int32)), .val (.int ((own_by vs q) &&& (255 : Int32)))] [(.int (1 : Int32)), (.int ((own_by vs q) &&& (255 : Int32)))])) := K21.trans (by
      show Steps p.tables e below (T19.setTop (mkF m 73 #[.val (.ref a), .val (.int st0), .val (.long r), .second, .val (.int sh), .val (.int (1 : Int32)), .val (.int ((own_by vs q) &&& (255 : Int32)))] [(.int (63 : Int32)), (.int sh)])) _
      refine XS.icmpNo X19.here hx rfl (hb hby d6_73) rfl (teq hc73).2 ?_
      show Steps p.tables e below (T19.setTop (mkF m 76 #[.val (.ref a), .val (.int st0), .val (.long r), .second, .val (.int sh), .val (.int (1 : Int32)), .val (.int ((own_by vs q) &&& (255 : Int32)))] [])) _
      refine XS.iload X19.here hx rfl (hb hby d6_76) rfl ?_
      show Steps p.tables e below (T19.setTop (mkF m 78 #[.val (.ref a), .val (.int st0), .val (.long r), .second, .val (.int sh), .val (.int (1 : Int32)), .val (.int ((own_by vs q) &&& (255 : Int32)))] [(.int ((own_by vs q) &&& (255 : Int32)))])) _
      refine XS.iconst X19.here hx rfl (hb hby d6_78) ?_
      show Steps p.tables e below (T19.setTop (mkF m 79 #[.val (.ref a), .val (.int st0), .val (.long r), .second, .val (.int sh), .val (.int (1 : Int32)), .val (.int ((own_by vs q) &&& (255 : Int32)))] [(.int (1 : Int32)), (.int ((own_by vs q) &&& (255 : Int32)))])) _
      exact Steps.refl _)
    have hc79_21 : ¬ ((1 : Int32) < ((own_by vs q) &&& (255 : Int32))) := h63 hc73
    have K24 : Steps p.tables e below _ (T19.setTop (mkF m 114 #[.val (.ref a), .val (.int st0), .val (.long (r ||| (((((own_by vs q) &&& (255 : Int32)) &&& (127 : Int32)).toInt64) <<< (sh &&& 0x3f).toInt64))), .second, .val (.int sh), .val (.int (1 : Int32)), .val (.int ((own_by vs q) &&& (255 : Int32)))] [(.int (((own_by vs q) &&& (255 : Int32)) &&& (128 : Int32)))])) := K23.trans (by
      show Steps p.tables e below (T19.setTop (mkF m 79 #[.val (.ref a), .val (.int st0), .val (.long r), .second, .val (.int sh), .val (.int (1 : Int32)), .val (.int ((own_by vs q) &&& (255 : Int32)))] [(.int (1 : Int32)), (.int ((own_by vs q) &&& (255 : Int32)))])) _
      refine XS.icmpYes X19.here hx rfl (pc0 := 79) (pc' := 96) rfl (hb hby d6_79) rfl (flt hc79_21).2.2.2 (by decide) (by decide) ?_
      show Steps p.tables e below (T19.setTop (mkF m 96 #[.val (.ref a), .val (.int st0), .val (.long r), .second, .val (.int sh), .val (.int (1 : Int32)), .val (.int ((own_by vs q) &&& (255 : Int32)))] [])) _
      refine XS.lloadN X19.here hx rfl (hb hby d6_96) rfl ?_
      show Steps p.tables e below (T19.setTop (mkF m 97 #[.val (.ref a), .val (.int st0), .val (.long r), .second, .val (.int sh), .val (.int (1 : Int32)), .val (.int ((own_by vs q) &&& (255 : Int32)))] [(.long r)])) _
      refine XS.iload X19.here hx rfl (hb hby d6_97) rfl ?_
      show Steps p.tables e below (T19.setTop (mkF m 99 #[.val (.ref a), .val (.int st0), .val (.long r), .second, .val (.int sh), .val (.int (1 : Int32)), .val (.int ((own_by vs q) &&& (255 : Int32)))] [(.int ((own_by vs q) &&& (255 : Int32))), (.long r)])) _
      refine XS.bipush X19.here hx rfl (hb hby d6_99) ?_
      show Steps p.tables e below (T19.setTop (mkF m 101 #[.val (.ref a), .val (.int st0), .val (.long r), .second, .val (.int sh), .val (.int (1 : Int32)), .val (.int ((own_by vs q) &&& (255 : Int32)))] [(.int (127 : Int32)), (.int ((own_by vs q) &&& (255 : Int32))), (.long r)])) _
      refine XS.iand X19.here hx rfl (hb hby d6_101) rfl ?_
      show Steps p.tables e below (T19.setTop (mkF m 102 #[.val (.ref a), .val (.int st0), .val (.long r), .second, .val (.int sh), .val (.int (1 : Int32)), .val (.int ((own_by vs q) &&& (255 : Int32)))] [(.int (((own_by vs q) &&& (255 : Int32)) &&& (127 : Int32))), (.long r)])) _
      refine XS.i2l X19.here hx rfl (hb hby d6_102) rfl ?_
      show Steps p.tables e below (T19.setTop (mkF m 103 #[.val (.ref a), .val (.int st0), .val (.long r), .second, .val (.int sh), .val (.int (1 : Int32)), .val (.int ((own_by vs q) &&& (255 : Int32)))] [(.long ((((own_by vs q) &&& (255 : Int32)) &&& (127 : Int32)).toInt64)), (.long r)])) _
      refine XS.iload X19.here hx rfl (hb hby d6_103) rfl ?_
      show Steps p.tables e below (T19.setTop (mkF m 105 #[.val (.ref a), .val (.int st0), .val (.long r), .second, .val (.int sh), .val (.int (1 : Int32)), .val (.int ((own_by vs q) &&& (255 : Int32)))] [(.int sh), (.long ((((own_by vs q) &&& (255 : Int32)) &&& (127 : Int32)).toInt64)), (.long r)])) _
      refine XS.lshl X19.here hx rfl (hb hby d6_105) rfl ?_
      show Steps p.tables e below (T19.setTop (mkF m 106 #[.val (.ref a), .val (.int st0), .val (.long r), .second, .val (.int sh), .val (.int (1 : Int32)), .val (.int ((own_by vs q) &&& (255 : Int32)))] [(.long (((((own_by vs q) &&& (255 : Int32)) &&& (127 : Int32)).toInt64) <<< (sh &&& 0x3f).toInt64)), (.long r)])) _
      refine XS.lor X19.here hx rfl (hb hby d6_106) rfl ?_
      show Steps p.tables e below (T19.setTop (mkF m 107 #[.val (.ref a), .val (.int st0), .val (.long r), .second, .val (.int sh), .val (.int (1 : Int32)), .val (.int ((own_by vs q) &&& (255 : Int32)))] [(.long (r ||| (((((own_by vs q) &&& (255 : Int32)) &&& (127 : Int32)).toInt64) <<< (sh &&& 0x3f).toInt64)))])) _
      refine XS.lstoreN X19.here hx rfl (hb hby d6_107) rfl (l' := #[.val (.ref a), .val (.int st0), .val (.long (r ||| (((((own_by vs q) &&& (255 : Int32)) &&& (127 : Int32)).toInt64) <<< (sh &&& 0x3f).toInt64))), .second, .val (.int sh), .val (.int (1 : Int32)), .val (.int ((own_by vs q) &&& (255 : Int32)))]) rfl ?_
      show Steps p.tables e below (T19.setTop (mkF m 108 #[.val (.ref a), .val (.int st0), .val (.long (r ||| (((((own_by vs q) &&& (255 : Int32)) &&& (127 : Int32)).toInt64) <<< (sh &&& 0x3f).toInt64))), .second, .val (.int sh), .val (.int (1 : Int32)), .val (.int ((own_by vs q) &&& (255 : Int32)))] [])) _
      refine XS.iload X19.here hx rfl (hb hby d6_108) rfl ?_
      show Steps p.tables e below (T19.setTop (mkF m 110 #[.val (.ref a), .val (.int st0), .val (.long (r ||| (((((own_by vs q) &&& (255 : Int32)) &&& (127 : Int32)).toInt64) <<< (sh &&& 0x3f).toInt64))), .second, .val (.int sh), .val (.int (1 : Int32)), .val (.int ((own_by vs q) &&& (255 : Int32)))] [(.int ((own_by vs q) &&& (255 : Int32)))])) _
      refine XS.sipush X19.here hx rfl (hb hby d6_110) ?_
      show Steps p.tables e below (T19.setTop (mkF m 113 #[.val (.ref a), .val (.int st0), .val (.long (r ||| (((((own_by vs q) &&& (255 : Int32)) &&& (127 : Int32)).toInt64) <<< (sh &&& 0x3f).toInt64))), .second, .val (.int sh), .val (.int (1 : Int32)), .val (.int ((own_by vs q) &&& (255 : Int32)))] [(.int (128 : Int32)), (.int ((own_by vs q) &&& (255 : Int32)))])) _
      refine XS.iand X19.here hx rfl (hb hby d6_113) rfl ?_
      show Steps p.tables e below (T19.setTop (mkF m 114 #[.val (.ref a), .val (.int st0), .val (.long (r ||| (((((own_by vs q) &&& (255 : Int32)) &&& (127 : Int32)).toInt64) <<< (sh &&& 0x3f).toInt64))), .second, .val (.int sh), .val (.int (1 : Int32)), .val (.int ((own_by vs q) &&& (255 : Int32)))] [(.int (((own_by vs q) &&& (255 : Int32)) &&& (128 : Int32)))])) _
      exact Steps.refl _)
    obtain ⟨v25_0, hv25_0, S25⟩ : ∃ (v25_0 : Int32), (if (((own_by vs q) &&& (255 : Int32)) &&& (128 : Int32)) = (0 : Int32) then (0 : Int32) else (1 : Int32)) = v25_0 ∧ Steps p.tables e below (T19.setTop (mkF m 114 #[.val (.ref a), .val (.int st0), .val (.long (r ||| (((((own_by vs q) &&& (255 : Int32)) &&& (127 : Int32)).toInt64) <<< (sh &&& 0x3f).toInt64))), .second, .val (.int sh), .val (.int (1 : Int32)), .val (.int ((own_by vs q) &&& (255 : Int32)))] [(.int (((own_by vs q) &&& (255 : Int32)) &&& (128 : Int32)))])) (T19.setTop (mkF m 122 #[.val (.ref a), .val (.int st0), .val (.long (r ||| (((((own_by vs q) &&& (255 : Int32)) &&& (127 : Int32)).toInt64) <<< (sh &&& 0x3f).toInt64))), .second, .val (.int sh), .val (.int (1 : Int32)), .val (.int ((own_by vs q) &&& (255 : Int32)))] [(.int v25_0)])) := by
      have R25 := Steps.refl (tb := p.tables) (e := e) (below := below) (T19.setTop (mkF m 114 #[.val (.ref a), .val (.int st0), .val (.long (r ||| (((((own_by vs q) &&& (255 : Int32)) &&& (127 : Int32)).toInt64) <<< (sh &&& 0x3f).toInt64))), .second, .val (.int sh), .val (.int (1 : Int32)), .val (.int ((own_by vs q) &&& (255 : Int32)))] [(.int (((own_by vs q) &&& (255 : Int32)) &&& (128 : Int32)))]))
      by_cases hc114 : (((own_by vs q) &&& (255 : Int32)) &&& (128 : Int32)) = (0 : Int32)
      · have K26 : Steps p.tables e below _ (T19.setTop (mkF m 122 #[.val (.ref a), .val (.int st0), .val (.long (r ||| (((((own_by vs q) &&& (255 : Int32)) &&& (127 : Int32)).toInt64) <<< (sh &&& 0x3f).toInt64))), .second, .val (.int sh), .val (.int (1 : Int32)), .val (.int ((own_by vs q) &&& (255 : Int32)))] [(.int (0 : Int32))])) := R25.trans (by
          show Steps p.tables e below (T19.setTop (mkF m 114 #[.val (.ref a), .val (.int st0), .val (.long (r ||| (((((own_by vs q) &&& (255 : Int32)) &&& (127 : Int32)).toInt64) <<< (sh &&& 0x3f).toInt64))), .second, .val (.int sh), .val (.int (1 : Int32)), .val (.int ((own_by vs q) &&& (255 : Int32)))] [(.int (((own_by vs q) &&& (255 : Int32)) &&& (128 : Int32)))])) _
          refine XS.ifYes X19.here hx rfl (pc0 := 114) (pc' := 121) rfl (hb hby d6_114) rfl ((if0 _ _).trans (teq hc114).1) (by decide) (by decide) ?_
          show Steps p.tables e below (T19.setTop (mkF m 121 #[.val (.ref a), .val (.int st0), .val (.long (r ||| (((((own_by vs q) &&& (255 : Int32)) &&& (127 : Int32)).toInt64) <<< (sh &&& 0x3f).toInt64))), .second, .val (.int sh), .val (.int (1 : Int32)), .val (.int ((own_by vs q) &&& (255 : Int32)))] [])) _
          refine XS.iconst X19.here hx rfl (hb hby d6_121) ?_
          show Steps p.tables e below (T19.setTop (mkF m 122 #[.val (.ref a), .val (.int st0), .val (.long (r ||| (((((own_by vs q) &&& (255 : Int32)) &&& (127 : Int32)).toInt64) <<< (sh &&& 0x3f).toInt64))), .second, .val (.int sh), .val (.int (1 : Int32)), .val (.int ((own_by vs q) &&& (255 : Int32)))] [(.int (0 : Int32))])) _
          exact Steps.refl _)
        exact ⟨(0 : Int32), (by rw [if_pos hc114]), K26⟩
      · have K27 : Steps p.tables e below _ (T19.setTop (mkF m 122 #[.val (.ref a), .val (.int st0), .val (.long (r ||| (((((own_by vs q) &&& (255 : Int32)) &&& (127 : Int32)).toInt64) <<< (sh &&& 0x3f).toInt64))), .second, .val (.int sh), .val (.int (1 : Int32)), .val (.int ((own_by vs q) &&& (255 : Int32)))] [(.int (1 : Int32))])) := R25.trans (by
          show Steps p.tables e below (T19.setTop (mkF m 114 #[.val (.ref a), .val (.int st0), .val (.long (r ||| (((((own_by vs q) &&& (255 : Int32)) &&& (127 : Int32)).toInt64) <<< (sh &&& 0x3f).toInt64))), .second, .val (.int sh), .val (.int (1 : Int32)), .val (.int ((own_by vs q) &&& (255 : Int32)))] [(.int (((own_by vs q) &&& (255 : Int32)) &&& (128 : Int32)))])) _
          refine XS.ifNo X19.here hx rfl (hb hby d6_114) rfl ((if0 _ _).trans (feq hc114).1) ?_
          show Steps p.tables e below (T19.setTop (mkF m 117 #[.val (.ref a), .val (.int st0), .val (.long (r ||| (((((own_by vs q) &&& (255 : Int32)) &&& (127 : Int32)).toInt64) <<< (sh &&& 0x3f).toInt64))), .second, .val (.int sh), .val (.int (1 : Int32)), .val (.int ((own_by vs q) &&& (255 : Int32)))] [])) _
          refine XS.iconst X19.here hx rfl (hb hby d6_117) ?_
          show Steps p.tables e below (T19.setTop (mkF m 118 #[.val (.ref a), .val (.int st0), .val (.long (r ||| (((((own_by vs q) &&& (255 : Int32)) &&& (127 : Int32)).toInt64) <<< (sh &&& 0x3f).toInt64))), .second, .val (.int sh), .val (.int (1 : Int32)), .val (.int ((own_by vs q) &&& (255 : Int32)))] [(.int (1 : Int32))])) _
          refine XS.goto X19.here hx rfl (pc0 := 118) (pc' := 122) rfl (hb hby d6_118) (by decide) (by decide) ?_
          show Steps p.tables e below (T19.setTop (mkF m 122 #[.val (.ref a), .val (.int st0), .val (.long (r ||| (((((own_by vs q) &&& (255 : Int32)) &&& (127 : Int32)).toInt64) <<< (sh &&& 0x3f).toInt64))), .second, .val (.int sh), .val (.int (1 : Int32)), .val (.int ((own_by vs q) &&& (255 : Int32)))] [(.int (1 : Int32))])) _
          exact Steps.refl _)
        exact ⟨(1 : Int32), (by rw [if_neg hc114]), K27⟩
    have K28 := K24.trans S25
    have K29 : Steps p.tables e below _ (T19.setTop (mkF m 13 #[.val (.ref a), .val (.int st0), .val (.long (r ||| (((((own_by vs q) &&& (255 : Int32)) &&& (127 : Int32)).toInt64) <<< (sh &&& 0x3f).toInt64))), .second, .val (.int (sh + (7 : Int32))), .val (.int v25_0), .val (.int ((own_by vs q) &&& (255 : Int32)))] [])) := K28.trans (by
      show Steps p.tables e below (T19.setTop (mkF m 122 #[.val (.ref a), .val (.int st0), .val (.long (r ||| (((((own_by vs q) &&& (255 : Int32)) &&& (127 : Int32)).toInt64) <<< (sh &&& 0x3f).toInt64))), .second, .val (.int sh), .val (.int (1 : Int32)), .val (.int ((own_by vs q) &&& (255 : Int32)))] [(.int v25_0)])) _
      refine XS.istore X19.here hx rfl (hb hby d6_122) rfl (l' := #[.val (.ref a), .val (.int st0), .val (.long (r ||| (((((own_by vs q) &&& (255 : Int32)) &&& (127 : Int32)).toInt64) <<< (sh &&& 0x3f).toInt64))), .second, .val (.int sh), .val (.int v25_0), .val (.int ((own_by vs q) &&& (255 : Int32)))]) rfl ?_
      show Steps p.tables e below (T19.setTop (mkF m 124 #[.val (.ref a), .val (.int st0), .val (.long (r ||| (((((own_by vs q) &&& (255 : Int32)) &&& (127 : Int32)).toInt64) <<< (sh &&& 0x3f).toInt64))), .second, .val (.int sh), .val (.int v25_0), .val (.int ((own_by vs q) &&& (255 : Int32)))] [])) _
      refine XS.iinc X19.here hx rfl (hb hby d6_124) rfl (l' := #[.val (.ref a), .val (.int st0), .val (.long (r ||| (((((own_by vs q) &&& (255 : Int32)) &&& (127 : Int32)).toInt64) <<< (sh &&& 0x3f).toInt64))), .second, .val (.int (sh + (7 : Int32))), .val (.int v25_0), .val (.int ((own_by vs q) &&& (255 : Int32)))]) rfl ?_
      show Steps p.tables e below (T19.setTop (mkF m 127 #[.val (.ref a), .val (.int st0), .val (.long (r ||| (((((own_by vs q) &&& (255 : Int32)) &&& (127 : Int32)).toInt64) <<< (sh &&& 0x3f).toInt64))), .second, .val (.int (sh + (7 : Int32))), .val (.int v25_0), .val (.int ((own_by vs q) &&& (255 : Int32)))] [])) _
      refine XS.goto X19.here hx rfl (pc0 := 127) (pc' := 13) rfl (hb hby d6_127) (by decide) (by decide) ?_
      show Steps p.tables e below (T19.setTop (mkF m 13 #[.val (.ref a), .val (.int st0), .val (.long (r ||| (((((own_by vs q) &&& (255 : Int32)) &&& (127 : Int32)).toInt64) <<< (sh &&& 0x3f).toInt64))), .second, .val (.int (sh + (7 : Int32))), .val (.int v25_0), .val (.int ((own_by vs q) &&& (255 : Int32)))] [])) _
      exact Steps.refl _)
    subst hv25_0
    have E_36 : Exa Z h19 a "com/example/thin_gateway/thingateway/avro/AvroDecoder" := (E0.wr W19)
    have F_37 : Fld Z h19 a "com/example/thin_gateway/thingateway/avro/AvroDecoder" "input" "[B" (.ref ia) := (FI.other W19 (Or.inr (slot_ne (Or.inr (hw _ (List.mem_of_getElem? (i := 33) rfl))) (Or.inl (hw _ (List.mem_of_getElem? (i := 40) rfl))) (by decide) (t := (.array .byte)) (t' := .int) (by decide) (by decide))))
    have V_38 : Arv Z h19 ia ka .byte z vs (.int (0 : Int32)) := (V0.other W19 (Ne.symm nea))
    exact ⟨T19, _, h19, X19, e19, N19, Keep.of_wr W19, E_36, F_37, Fw19, V_38, K29⟩
  · have K30 : Steps p.tables e below _ (T19.setTop (mkF m 114 #[.val (.ref a), .val (.int st0), .val (.long (r ||| (((((own_by vs q) &&& (255 : Int32)) &&& (127 : Int32)).toInt64) <<< (sh &&& 0x3f).toInt64))), .second, .val (.int sh), .val (.int (1 : Int32)), .val (.int ((own_by vs q) &&& (255 : Int32)))] [(.int (((own_by vs q) &&& (255 : Int32)) &&& (128 : Int32)))])) := K21.trans (by
      show Steps p.tables e below (T19.setTop (mkF m 73 #[.val (.ref a), .val (.int st0), .val (.long r), .second, .val (.int sh), .val (.int (1 : Int32)), .val (.int ((own_by vs q) &&& (255 : Int32)))] [(.int (63 : Int32)), (.int sh)])) _
      refine XS.icmpYes X19.here hx rfl (pc0 := 73) (pc' := 96) rfl (hb hby d6_73) rfl (feq hc73).2 (by decide) (by decide) ?_
      show Steps p.tables e below (T19.setTop (mkF m 96 #[.val (.ref a), .val (.int st0), .val (.long r), .second, .val (.int sh), .val (.int (1 : Int32)), .val (.int ((own_by vs q) &&& (255 : Int32)))] [])) _
      refine XS.lloadN X19.here hx rfl (hb hby d6_96) rfl ?_
      show Steps p.tables e below (T19.setTop (mkF m 97 #[.val (.ref a), .val (.int st0), .val (.long r), .second, .val (.int sh), .val (.int (1 : Int32)), .val (.int ((own_by vs q) &&& (255 : Int32)))] [(.long r)])) _
      refine XS.iload X19.here hx rfl (hb hby d6_97) rfl ?_
      show Steps p.tables e below (T19.setTop (mkF m 99 #[.val (.ref a), .val (.int st0), .val (.long r), .second, .val (.int sh), .val (.int (1 : Int32)), .val (.int ((own_by vs q) &&& (255 : Int32)))] [(.int ((own_by vs q) &&& (255 : Int32))), (.long r)])) _
      refine XS.bipush X19.here hx rfl (hb hby d6_99) ?_
      show Steps p.tables e below (T19.setTop (mkF m 101 #[.val (.ref a), .val (.int st0), .val (.long r), .second, .val (.int sh), .val (.int (1 : Int32)), .val (.int ((own_by vs q) &&& (255 : Int32)))] [(.int (127 : Int32)), (.int ((own_by vs q) &&& (255 : Int32))), (.long r)])) _
      refine XS.iand X19.here hx rfl (hb hby d6_101) rfl ?_
      show Steps p.tables e below (T19.setTop (mkF m 102 #[.val (.ref a), .val (.int st0), .val (.long r), .second, .val (.int sh), .val (.int (1 : Int32)), .val (.int ((own_by vs q) &&& (255 : Int32)))] [(.int (((own_by vs q) &&& (255 : Int32)) &&& (127 : Int32))), (.long r)])) _
      refine XS.i2l X19.here hx rfl (hb hby d6_102) rfl ?_
      show Steps p.tables e below (T19.setTop (mkF m 103 #[.val (.ref a), .val (.int st0), .val (.long r), .second, .val (.int sh), .val (.int (1 : Int32)), .val (.int ((own_by vs q) &&& (255 : Int32)))] [(.long ((((own_by vs q) &&& (255 : Int32)) &&& (127 : Int32)).toInt64)), (.long r)])) _
      refine XS.iload X19.here hx rfl (hb hby d6_103) rfl ?_
      show Steps p.tables e below (T19.setTop (mkF m 105 #[.val (.ref a), .val (.int st0), .val (.long r), .second, .val (.int sh), .val (.int (1 : Int32)), .val (.int ((own_by vs q) &&& (255 : Int32)))] [(.int sh), (.long ((((own_by vs q) &&& (255 : Int32)) &&& (127 : Int32)).toInt64)), (.long r)])) _
      refine XS.lshl X19.here hx rfl (hb hby d6_105) rfl ?_
      show Steps p.tables e below (T19.setTop (mkF m 106 #[.val (.ref a), .val (.int st0), .val (.long r), .second, .val (.int sh), .val (.int (1 : Int32)), .val (.int ((own_by vs q) &&& (255 : Int32)))] [(.long (((((own_by vs q) &&& (255 : Int32)) &&& (127 : Int32)).toInt64) <<< (sh &&& 0x3f).toInt64)), (.long r)])) _
      refine XS.lor X19.here hx rfl (hb hby d6_106) rfl ?_
      show Steps p.tables e below (T19.setTop (mkF m 107 #[.val (.ref a), .val (.int st0), .val (.long r), .second, .val (.int sh), .val (.int (1 : Int32)), .val (.int ((own_by vs q) &&& (255 : Int32)))] [(.long (r ||| (((((own_by vs q) &&& (255 : Int32)) &&& (127 : Int32)).toInt64) <<< (sh &&& 0x3f).toInt64)))])) _
      refine XS.lstoreN X19.here hx rfl (hb hby d6_107) rfl (l' := #[.val (.ref a), .val (.int st0), .val (.long (r ||| (((((own_by vs q) &&& (255 : Int32)) &&& (127 : Int32)).toInt64) <<< (sh &&& 0x3f).toInt64))), .second, .val (.int sh), .val (.int (1 : Int32)), .val (.int ((own_by vs q) &&& (255 : Int32)))]) rfl ?_
      show Steps p.tables e below (T19.setTop (mkF m 108 #[.val (.ref a), .val (.int st0), .val (.long (r ||| (((((own_by vs q) &&& (255 : Int32)) &&& (127 : Int32)).toInt64) <<< (sh &&& 0x3f).toInt64))), .second, .val (.int sh), .val (.int (1 : Int32)), .val (.int ((own_by vs q) &&& (255 : Int32)))] [])) _
      refine XS.iload X19.here hx rfl (hb hby d6_108) rfl ?_
      show Steps p.tables e below (T19.setTop (mkF m 110 #[.val (.ref a), .val (.int st0), .val (.long (r ||| (((((own_by vs q) &&& (255 : Int32)) &&& (127 : Int32)).toInt64) <<< (sh &&& 0x3f).toInt64))), .second, .val (.int sh), .val (.int (1 : Int32)), .val (.int ((own_by vs q) &&& (255 : Int32)))] [(.int ((own_by vs q) &&& (255 : Int32)))])) _
      refine XS.sipush X19.here hx rfl (hb hby d6_110) ?_
      show Steps p.tables e below (T19.setTop (mkF m 113 #[.val (.ref a), .val (.int st0), .val (.long (r ||| (((((own_by vs q) &&& (255 : Int32)) &&& (127 : Int32)).toInt64) <<< (sh &&& 0x3f).toInt64))), .second, .val (.int sh), .val (.int (1 : Int32)), .val (.int ((own_by vs q) &&& (255 : Int32)))] [(.int (128 : Int32)), (.int ((own_by vs q) &&& (255 : Int32)))])) _
      refine XS.iand X19.here hx rfl (hb hby d6_113) rfl ?_
      show Steps p.tables e below (T19.setTop (mkF m 114 #[.val (.ref a), .val (.int st0), .val (.long (r ||| (((((own_by vs q) &&& (255 : Int32)) &&& (127 : Int32)).toInt64) <<< (sh &&& 0x3f).toInt64))), .second, .val (.int sh), .val (.int (1 : Int32)), .val (.int ((own_by vs q) &&& (255 : Int32)))] [(.int (((own_by vs q) &&& (255 : Int32)) &&& (128 : Int32)))])) _
      exact Steps.refl _)
    obtain ⟨v31_0, hv31_0, S31⟩ : ∃ (v31_0 : Int32), (if (((own_by vs q) &&& (255 : Int32)) &&& (128 : Int32)) = (0 : Int32) then (0 : Int32) else (1 : Int32)) = v31_0 ∧ Steps p.tables e below (T19.setTop (mkF m 114 #[.val (.ref a), .val (.int st0), .val (.long (r ||| (((((own_by vs q) &&& (255 : Int32)) &&& (127 : Int32)).toInt64) <<< (sh &&& 0x3f).toInt64))), .second, .val (.int sh), .val (.int (1 : Int32)), .val (.int ((own_by vs q) &&& (255 : Int32)))] [(.int (((own_by vs q) &&& (255 : Int32)) &&& (128 : Int32)))])) (T19.setTop (mkF m 122 #[.val (.ref a), .val (.int st0), .val (.long (r ||| (((((own_by vs q) &&& (255 : Int32)) &&& (127 : Int32)).toInt64) <<< (sh &&& 0x3f).toInt64))), .second, .val (.int sh), .val (.int (1 : Int32)), .val (.int ((own_by vs q) &&& (255 : Int32)))] [(.int v31_0)])) := by
      have R31 := Steps.refl (tb := p.tables) (e := e) (below := below) (T19.setTop (mkF m 114 #[.val (.ref a), .val (.int st0), .val (.long (r ||| (((((own_by vs q) &&& (255 : Int32)) &&& (127 : Int32)).toInt64) <<< (sh &&& 0x3f).toInt64))), .second, .val (.int sh), .val (.int (1 : Int32)), .val (.int ((own_by vs q) &&& (255 : Int32)))] [(.int (((own_by vs q) &&& (255 : Int32)) &&& (128 : Int32)))]))
      by_cases hc114 : (((own_by vs q) &&& (255 : Int32)) &&& (128 : Int32)) = (0 : Int32)
      · have K32 : Steps p.tables e below _ (T19.setTop (mkF m 122 #[.val (.ref a), .val (.int st0), .val (.long (r ||| (((((own_by vs q) &&& (255 : Int32)) &&& (127 : Int32)).toInt64) <<< (sh &&& 0x3f).toInt64))), .second, .val (.int sh), .val (.int (1 : Int32)), .val (.int ((own_by vs q) &&& (255 : Int32)))] [(.int (0 : Int32))])) := R31.trans (by
          show Steps p.tables e below (T19.setTop (mkF m 114 #[.val (.ref a), .val (.int st0), .val (.long (r ||| (((((own_by vs q) &&& (255 : Int32)) &&& (127 : Int32)).toInt64) <<< (sh &&& 0x3f).toInt64))), .second, .val (.int sh), .val (.int (1 : Int32)), .val (.int ((own_by vs q) &&& (255 : Int32)))] [(.int (((own_by vs q) &&& (255 : Int32)) &&& (128 : Int32)))])) _
          refine XS.ifYes X19.here hx rfl (pc0 := 114) (pc' := 121) rfl (hb hby d6_114) rfl ((if0 _ _).trans (teq hc114).1) (by decide) (by decide) ?_
          show Steps p.tables e below (T19.setTop (mkF m 121 #[.val (.ref a), .val (.int st0), .val (.long (r ||| (((((own_by vs q) &&& (255 : Int32)) &&& (127 : Int32)).toInt64) <<< (sh &&& 0x3f).toInt64))), .second, .val (.int sh), .val (.int (1 : Int32)), .val (.int ((own_by vs q) &&& (255 : Int32)))] [])) _
          refine XS.iconst X19.here hx rfl (hb hby d6_121) ?_
          show Steps p.tables e below (T19.setTop (mkF m 122 #[.val (.ref a), .val (.int st0), .val (.long (r ||| (((((own_by vs q) &&& (255 : Int32)) &&& (127 : Int32)).toInt64) <<< (sh &&& 0x3f).toInt64))), .second, .val (.int sh), .val (.int (1 : Int32)), .val (.int ((own_by vs q) &&& (255 : Int32)))] [(.int (0 : Int32))])) _
          exact Steps.refl _)
        exact ⟨(0 : Int32), (by rw [if_pos hc114]), K32⟩
      · have K33 : Steps p.tables e below _ (T19.setTop (mkF m 122 #[.val (.ref a), .val (.int st0), .val (.long (r ||| (((((own_by vs q) &&& (255 : Int32)) &&& (127 : Int32)).toInt64) <<< (sh &&& 0x3f).toInt64))), .second, .val (.int sh), .val (.int (1 : Int32)), .val (.int ((own_by vs q) &&& (255 : Int32)))] [(.int (1 : Int32))])) := R31.trans (by
          show Steps p.tables e below (T19.setTop (mkF m 114 #[.val (.ref a), .val (.int st0), .val (.long (r ||| (((((own_by vs q) &&& (255 : Int32)) &&& (127 : Int32)).toInt64) <<< (sh &&& 0x3f).toInt64))), .second, .val (.int sh), .val (.int (1 : Int32)), .val (.int ((own_by vs q) &&& (255 : Int32)))] [(.int (((own_by vs q) &&& (255 : Int32)) &&& (128 : Int32)))])) _
          refine XS.ifNo X19.here hx rfl (hb hby d6_114) rfl ((if0 _ _).trans (feq hc114).1) ?_
          show Steps p.tables e below (T19.setTop (mkF m 117 #[.val (.ref a), .val (.int st0), .val (.long (r ||| (((((own_by vs q) &&& (255 : Int32)) &&& (127 : Int32)).toInt64) <<< (sh &&& 0x3f).toInt64))), .second, .val (.int sh), .val (.int (1 : Int32)), .val (.int ((own_by vs q) &&& (255 : Int32)))] [])) _
          refine XS.iconst X19.here hx rfl (hb hby d6_117) ?_
          show Steps p.tables e below (T19.setTop (mkF m 118 #[.val (.ref a), .val (.int st0), .val (.long (r ||| (((((own_by vs q) &&& (255 : Int32)) &&& (127 : Int32)).toInt64) <<< (sh &&& 0x3f).toInt64))), .second, .val (.int sh), .val (.int (1 : Int32)), .val (.int ((own_by vs q) &&& (255 : Int32)))] [(.int (1 : Int32))])) _
          refine XS.goto X19.here hx rfl (pc0 := 118) (pc' := 122) rfl (hb hby d6_118) (by decide) (by decide) ?_
          show Steps p.tables e below (T19.setTop (mkF m 122 #[.val (.ref a), .val (.int st0), .val (.long (r ||| (((((own_by vs q) &&& (255 : Int32)) &&& (127 : Int32)).toInt64) <<< (sh &&& 0x3f).toInt64))), .second, .val (.int sh), .val (.int (1 : Int32)), .val (.int ((own_by vs q) &&& (255 : Int32)))] [(.int (1 : Int32))])) _
          exact Steps.refl _)
        exact ⟨(1 : Int32), (by rw [if_neg hc114]), K33⟩
    have K34 := K30.trans S31
    have K35 : Steps p.tables e below _ (T19.setTop (mkF m 13 #[.val (.ref a), .val (.int st0), .val (.long (r ||| (((((own_by vs q) &&& (255 : Int32)) &&& (127 : Int32)).toInt64) <<< (sh &&& 0x3f).toInt64))), .second, .val (.int (sh + (7 : Int32))), .val (.int v31_0), .val (.int ((own_by vs q) &&& (255 : Int32)))] [])) := K34.trans (by
      show Steps p.tables e below (T19.setTop (mkF m 122 #[.val (.ref a), .val (.int st0), .val (.long (r ||| (((((own_by vs q) &&& (255 : Int32)) &&& (127 : Int32)).toInt64) <<< (sh &&& 0x3f).toInt64))), .second, .val (.int sh), .val (.int (1 : Int32)), .val (.int ((own_by vs q) &&& (255 : Int32)))] [(.int v31_0)])) _
      refine XS.istore X19.here hx rfl (hb hby d6_122) rfl (l' := #[.val (.ref a), .val (.int st0), .val (.long (r ||| (((((own_by vs q) &&& (255 : Int32)) &&& (127 : Int32)).toInt64) <<< (sh &&& 0x3f).toInt64))), .second, .val (.int sh), .val (.int v31_0), .val (.int ((own_by vs q) &&& (255 : Int32)))]) rfl ?_
      show Steps p.tables e below (T19.setTop (mkF m 124 #[.val (.ref a), .val (.int st0), .val (.long (r ||| (((((own_by vs q) &&& (255 : Int32)) &&& (127 : Int32)).toInt64) <<< (sh &&& 0x3f).toInt64))), .second, .val (.int sh), .val (.int v31_0), .val (.int ((own_by vs q) &&& (255 : Int32)))] [])) _
      refine XS.iinc X19.here hx rfl (hb hby d6_124) rfl (l' := #[.val (.ref a), .val (.int st0), .val (.long (r ||| (((((own_by vs q) &&& (255 : Int32)) &&& (127 : Int32)).toInt64) <<< (sh &&& 0x3f).toInt64))), .second, .val (.int (sh + (7 : Int32))), .val (.int v31_0), .val (.int ((own_by vs q) &&& (255 : Int32)))]) rfl ?_
      show Steps p.tables e below (T19.setTop (mkF m 127 #[.val (.ref a), .val (.int st0), .val (.long (r ||| (((((own_by vs q) &&& (255 : Int32)) &&& (127 : Int32)).toInt64) <<< (sh &&& 0x3f).toInt64))), .second, .val (.int (sh + (7 : Int32))), .val (.int v31_0), .val (.int ((own_by vs q) &&& (255 : Int32)))] [])) _
      refine XS.goto X19.here hx rfl (pc0 := 127) (pc' := 13) rfl (hb hby d6_127) (by decide) (by decide) ?_
      show Steps p.tables e below (T19.setTop (mkF m 13 #[.val (.ref a), .val (.int st0), .val (.long (r ||| (((((own_by vs q) &&& (255 : Int32)) &&& (127 : Int32)).toInt64) <<< (sh &&& 0x3f).toInt64))), .second, .val (.int (sh + (7 : Int32))), .val (.int v31_0), .val (.int ((own_by vs q) &&& (255 : Int32)))] [])) _
      exact Steps.refl _)
    subst hv31_0
    have E_39 : Exa Z h19 a "com/example/thin_gateway/thingateway/avro/AvroDecoder" := (E0.wr W19)
    have F_40 : Fld Z h19 a "com/example/thin_gateway/thingateway/avro/AvroDecoder" "input" "[B" (.ref ia) := (FI.other W19 (Or.inr (slot_ne (Or.inr (hw _ (List.mem_of_getElem? (i := 33) rfl))) (Or.inl (hw _ (List.mem_of_getElem? (i := 40) rfl))) (by decide) (t := (.array .byte)) (t' := .int) (by decide) (by decide))))
    have V_41 : Arv Z h19 ia ka .byte z vs (.int (0 : Int32)) := (V0.other W19 (Ne.symm nea))
    exact ⟨T19, _, h19, X19, e19, N19, Keep.of_wr W19, E_39, F_40, Fw19, V_41, K35⟩
theorem rleave {p : Program} {l : Launch} {e : Env} {R : Room} {s : State} {m : MethodId} {args : Array Value} {below : List Frame} {meth : Method} {c : Code} {Z : State} {a0 : Array Value} {n0 : Nat} (hx : p.tables.exec = Jvm.exec) (hZ : Z.Warmed39 s.vm) (hw : ∀ d ∈ tables_1, d.before a0 Z = true) (hby : c.code = prog_1_method_4_code) (hml : c.maxLocals = 7) (hown : s.vm.findClass "com/example/thin_gateway/thingateway/avro/AvroDecoder" = some m.cls) {a : Addr} {st0 : Int32} (T0 : State) (locs : List Loc) (r : Int64) (sh : Int32) (s6 : Slot) (X0 : Stand p l e R s m args below meth c T0 locs 0 0) : Steps p.tables e below (T0.setTop (mkF m 13 #[.val (.ref a), .val (.int st0), .val (.long r), .second, .val (.int sh), .val (.int (0 : Int32)), s6] [])) (T0.setTop (mkF m 130 #[.val (.ref a), .val (.int st0), .val (.long r), .second, .val (.int sh), .val (.int (0 : Int32)), s6] [])) := by
  have K0 : Steps p.tables e below (T0.setTop (mkF m 13 #[.val (.ref a), .val (.int st0), .val (.long r), .second, .val (.int sh), .val (.int (0 : Int32)), s6] [])) (T0.setTop (mkF m 13 #[.val (.ref a), .val (.int st0), .val (.long r), .second, .val (.int sh), .val (.int (0 : Int32)), s6] [])) := Steps.refl _
  have K2 : Steps p.tables e below _ (T0.setTop (mkF m 15 #[.val (.ref a), .val (.int st0), .val (.long r), .second, .val (.int sh), .val (.int (0 : Int32)), s6] [(.int (0 : Int32))])) := K0.trans (by
    show Steps p.tables e below (T0.setTop (mkF m 13 #[.val (.ref a), .val (.int st0), .val (.long r), .second, .val (.int sh), .val (.int (0 : Int32)), s6] [])) _
    refine XS.iload X0.here hx rfl (hb hby d6_13) rfl ?_
    show Steps p.tables e below (T0.setTop (mkF m 15 #[.val (.ref a), .val (.int st0), .val (.long r), .second, .val (.int sh), .val (.int (0 : Int32)), s6] [(.int (0 : Int32))])) _
    exact Steps.refl _)
  have hc15_0 : (0 : Int32) = (0 : Int32) := rfl
  have K3 : Steps p.tables e below _ (T0.setTop (mkF m 130 #[.val (.ref a), .val (.int st0), .val (.long r), .second, .val (.int sh), .val (.int (0 : Int32)), s6] [])) := K2.trans (by
    show Steps p.tables e below (T0.setTop (mkF m 15 #[.val (.ref a), .val (.int st0), .val (.long r), .second, .val (.int sh), .val (.int (0 : Int32)), s6] [(.int (0 : Int32))])) _
    refine XS.ifYes X0.here hx rfl (pc0 := 15) (pc' := 130) rfl (hb hby d6_15) rfl ((if0 _ _).trans (teq hc15_0).1) (by decide) (by decide) ?_
    show Steps p.tables e below (T0.setTop (mkF m 130 #[.val (.ref a), .val (.int st0), .val (.long r), .second, .val (.int sh), .val (.int (0 : Int32)), s6] [])) _
    exact Steps.refl _)
  exact K3
set_option maxHeartbeats 4000000 in
theorem rloop {p : Program} {l : Launch} {e : Env} {R : Room} {s : State} {m : MethodId} {args : Array Value} {below : List Frame} {meth : Method} {c : Code} {Z : State} {a0 : Array Value} {n0 : Nat} (hx : p.tables.exec = Jvm.exec) (hZ : Z.Warmed39 s.vm) (hw : ∀ d ∈ tables_1, d.before a0 Z = true) (hby : c.code = prog_1_method_4_code) (hml : c.maxLocals = 7) (hown : s.vm.findClass "com/example/thin_gateway/thingateway/avro/AvroDecoder" = some m.cls) {a ia : Addr} {ka : ClassId} {z : Int32} {vs : List Value} {st0 : Int32} (ga : n0 ≤ a) (nea : a ≠ ia) : ∀ (k : Nat) (T0 : State) (locs : List Loc) (h0 : Heap) (q : Int32) (r : Int64) (sh : Int32) (s6 : Slot) (h6 : One s6) (X0 : Stand p l e R s m args below meth c T0 locs 0 0) (e0 : T0.heap = h0) (N0 : Fr n0 locs) (E0 : Exa Z h0 a "com/example/thin_gateway/thingateway/avro/AvroDecoder") (FI : Fld Z h0 a "com/example/thin_gateway/thingateway/avro/AvroDecoder" "input" "[B" (.ref ia)) (FP : Fld Z h0 a "com/example/thin_gateway/thingateway/avro/AvroDecoder" "position" "I" (.int q)) (V0 : Arv Z h0 ia ka .byte z vs (.int (0 : Int32))) (hk : rok k vs z q sh),
    ∃ (T' : State) (L' : List Loc) (h' : Heap) (sh' : Int32) (s' : Slot), Stand p l e R s m args below meth c T' L' 0 0 ∧ T'.heap = h' ∧ Fr n0 L' ∧ Keep h0 h' [a] ∧ Exa Z h' a "com/example/thin_gateway/thingateway/avro/AvroDecoder" ∧ Fld Z h' a "com/example/thin_gateway/thingateway/avro/AvroDecoder" "input" "[B" (.ref ia) ∧ Fld Z h' a "com/example/thin_gateway/thingateway/avro/AvroDecoder" "position" "I" (.int (rl k vs q r sh).2) ∧ Arv Z h' ia ka .byte z vs (.int (0 : Int32)) ∧ Steps p.tables e below (T0.setTop (mkF m 13 #[.val (.ref a), .val (.int st0), .val (.long r), .second, .val (.int sh), .val (.int (1 : Int32)), s6] [])) (T'.setTop (mkF m 130 #[.val (.ref a), .val (.int st0), .val (.long (rl k vs q r sh).1), .second, .val (.int sh'), .val (.int (0 : Int32)), s'] [])) := by
  intro k
  induction k with
  | zero => intro T0 locs h0 q r sh s6 h6 X0 e0 N0 E0 FI FP V0 hk; exact hk.elim
  | succ k ih =>
    intro T0 locs h0 q r sh s6 h6 X0 e0 N0 E0 FI FP V0 hk
    obtain ⟨hq, hat, h63, hnx⟩ := hk
    obtain ⟨T1, L1, h1, X1, e1, N1, Kp1, E1, FI1, FP1, V1, S1⟩ := rturn hx hZ hw hby hml hown ga nea T0 locs h0 q r sh s6 h6 X0 e0 N0 E0 FI FP V0 hq hat h63
    by_cases hc : (((own_by vs q) &&& (255 : Int32)) &&& (128 : Int32)) = (0 : Int32)
    · have z1 : rl (k + 1) vs q r sh = (own_res r (own_by vs q) sh, q + (1 : Int32)) := by simp only [rl]; rw [if_pos hc]
      rw [z1]
      rw [if_pos hc] at S1
      exact ⟨T1, L1, h1, _, _, X1, e1, N1, Kp1, E1, FI1, FP1, V1, S1.trans (rleave (n0 := n0) hx hZ hw hby hml hown T1 L1 _ _ _ X1)⟩
    · have z1 : rl (k + 1) vs q r sh = rl k vs (q + (1 : Int32)) (own_res r (own_by vs q) sh) (sh + (7 : Int32)) := by simp only [rl]; rw [if_neg hc]
      rw [z1]
      rw [if_neg hc] at S1
      obtain ⟨T2, L2, h2, sh2, s2, X2, e2, N2, Kp2, E2, FI2, FP2, V2, S2⟩ := ih T1 L1 h1 _ _ _ _ (One.val (w := .int ((own_by vs q) &&& (255 : Int32))) rfl) X1 e1 N1 E1 FI1 FP1 V1 (hnx.resolve_left hc)
      exact ⟨T2, L2, h2, sh2, s2, X2, e2, N2, Kp1.trans Kp2 (fun x hx => Or.inl hx), E2, FI2, FP2, V2, S1.trans S2⟩
theorem d6_0 : decode prog_1_method_4_code 0 = .ok (.aload_n 0, 1) := by decide +kernel
theorem d6_1 : decode prog_1_method_4_code 1 = .ok (.getfield 21, 3) := by decide +kernel
theorem d6_4 : decode prog_1_method_4_code 4 = .ok (.istore_n 1, 1) := by decide +kernel
theorem d6_5 : decode prog_1_method_4_code 5 = .ok (.lconst 0, 1) := by decide +kernel
theorem d6_6 : decode prog_1_method_4_code 6 = .ok (.lstore_n 2, 1) := by decide +kernel
theorem d6_7 : decode prog_1_method_4_code 7 = .ok (.iconst 0, 1) := by decide +kernel
theorem d6_8 : decode prog_1_method_4_code 8 = .ok (.istore 4, 2) := by decide +kernel
theorem d6_10 : decode prog_1_method_4_code 10 = .ok (.iconst 1, 1) := by decide +kernel
theorem d6_11 : decode prog_1_method_4_code 11 = .ok (.istore 5, 2) := by decide +kernel
theorem d6_130 : decode prog_1_method_4_code 130 = .ok (.lload_n 2, 1) := by decide +kernel
theorem d6_131 : decode prog_1_method_4_code 131 = .ok (.iconst 1, 1) := by decide +kernel
theorem d6_132 : decode prog_1_method_4_code 132 = .ok (.lushr, 1) := by decide +kernel
theorem d6_133 : decode prog_1_method_4_code 133 = .ok (.lload_n 2, 1) := by decide +kernel
theorem d6_134 : decode prog_1_method_4_code 134 = .ok (.lconst 1, 1) := by decide +kernel
theorem d6_135 : decode prog_1_method_4_code 135 = .ok (.land, 1) := by decide +kernel
theorem d6_136 : decode prog_1_method_4_code 136 = .ok (.lneg, 1) := by decide +kernel
theorem d6_137 : decode prog_1_method_4_code 137 = .ok (.lxor, 1) := by decide +kernel
def f_rm6 (vs : List Value) (n : Int32) : Int64 := ((((rl 10 vs n (0 : Int64) (0 : Int32)).1.toUInt64 >>> ((1 : Int32) &&& 0x3f).toInt64.toUInt64).toInt64) ^^^ (-((rl 10 vs n (0 : Int64) (0 : Int32)).1 &&& (1 : Int64))))
def Q_rm6 (Z : State) (o0 : Addr) (ia : Addr) (ka : ClassId) (z : Int32) (vs : List Value) (n : Int32) (h0 : Heap) (n0 : Nat) (v : Option Value) (h : Heap) (L : List Loc) : Prop := v = some (.long (f_rm6 vs n)) ∧ Fr n0 L ∧ Keep h0 h [o0] ∧ Exa Z h o0 "com/example/thin_gateway/thingateway/avro/AvroDecoder" ∧ Fld Z h o0 "com/example/thin_gateway/thingateway/avro/AvroDecoder" "input" "[B" (.ref ia) ∧ Fld Z h o0 "com/example/thin_gateway/thingateway/avro/AvroDecoder" "position" "I" (.int (rl 10 vs n (0 : Int64) (0 : Int32)).2)
theorem pn_6 : plainName "com/example/thin_gateway/thingateway/avro/AvroDecoder" = true := by first | (simp [plainName, overriddenIn]; done) | decide +kernel
theorem ef_6 (m : MethodId) (x0 : Addr) : entryFrame m #[(.ref x0)] 7 = mkF m 0 #[.val (.ref x0), .unset, .unset, .unset, .unset, .unset, .unset] [] := by first | (simp [entryFrame, mkF, argsToLocals, Value.category]; done) | rfl
theorem d6_138 : decode prog_1_method_4_code 138 = .ok (.lreturn, 1) := by decide +kernel
set_option maxRecDepth 65536 in
set_option maxHeartbeats 40000000 in
theorem rm6 (l : Launch) (Z : State) (a0 : Array Value) (hw : ∀ d ∈ tables_1, d.before a0 Z = true) (ws : List Jvm.Cond) (o0 : Addr) (ia : Addr) (ka : ClassId) (z : Int32) (vs : List Value) (n : Int32) (h0 : Heap) (n0 : Nat) (Z0 : n0 ≤ h0.size) (E_o0 : Exa Z h0 o0 "com/example/thin_gateway/thingateway/avro/AvroDecoder") (F_input_o0 : Fld Z h0 o0 "com/example/thin_gateway/thingateway/avro/AvroDecoder" "input" "[B" (.ref ia)) (F_position_o0 : Fld Z h0 o0 "com/example/thin_gateway/thingateway/avro/AvroDecoder" "position" "I" (.int n)) (V_ia : Arv Z h0 ia ka .byte z vs (.int (0 : Int32))) (ne_o0_ia : o0 ≠ ia) (g_o0 : n0 ≤ o0) (hok : rok 10 vs z n (0 : Int32)) :
    MetFree l (⟨"com/example/thin_gateway/thingateway/avro/AvroDecoder", "readLong", "()J"⟩ : MethodName) (head1 (Jvm.Cond.code (⟨"com/example/thin_gateway/thingateway/avro/AvroDecoder", "readLong", "()J"⟩ : MethodName) prog_1_method_4_code 7 (some .long) :: ws) ({ frames := 0, cells := 0, slots := 0, locals := 0 } : Room)) (fun a U => a = #[(.ref o0)] ∧ Z.Warmed39 U.vm ∧ U.heap = h0) (fun _ _ _ _ _ => True) (fun _ U o U' => ∃ v L, o = .returned v ∧ Q_rm6 Z o0 ia ka z vs n h0 n0 v U'.heap L ∧ FrameEnd U o U' L ({ frames := 0, cells := 0, slots := 0, locals := 0 } : Room).cells ({ frames := 0, cells := 0, slots := 0, locals := 0 } : Room).slots) := by
  refine MetFree.of_bodySF (plainFor_of_name pn_6) hisR ?_
  intro p e s m args below meth c s₁ Bd hml0 hP hK
  obtain ⟨rfl, hZ, hh⟩ := hP
  have hx := Bd.exec
  have hby := Bd.bytes
  have hml : c.maxLocals = 7 := hml0
  have hown : s.vm.findClass "com/example/thin_gateway/thingateway/avro/AvroDecoder" = some m.cls := findClass_of_methodNamed Bd.named
  have hnm := (name_of_methodNamed Bd.named Bd.method).1
  have X0 : Stand p l e ({ frames := 0, cells := 0, slots := 0, locals := 0 } : Room) s m #[(.ref o0)] below meth c s₁ [] 0 0 := Stand.of_body Bd
  have e0 : s₁.heap = h0 := by rw [← hh, Bd.state]; rfl
  have N0 := Fr.nil n0
  have Kp0 : Keep h0 h0 [o0] := Keep.refl _ _
  have K0 : Steps p.tables e below (s₁.setTop (entryFrame m #[(.ref o0)] 7)) (s₁.setTop (mkF m 0 #[.val (.ref o0), .unset, .unset, .unset, .unset, .unset, .unset] [])) := castTop (ef_6 m o0) (Steps.refl _)
  have K1 : Steps p.tables e below _ (s₁.setTop (mkF m 1 #[.val (.ref o0), .unset, .unset, .unset, .unset, .unset, .unset] [(.ref o0)])) := K0.trans (by
    show Steps p.tables e below (s₁.setTop (mkF m 0 #[.val (.ref o0), .unset, .unset, .unset, .unset, .unset, .unset] [])) _
    refine XS.aloadN X0.here hx rfl (hb hby d6_0) rfl rfl ?_
    show Steps p.tables e below (s₁.setTop (mkF m 1 #[.val (.ref o0), .unset, .unset, .unset, .unset, .unset, .unset] [(.ref o0)])) _
    exact Steps.refl _)
  obtain ⟨T2, X2, e2, st2⟩ := getF X0 hx hZ hown (host := "") (Or.inl (hw _ (List.mem_of_getElem? (i := 39) rfl))) Via.refl e0 F_position_o0 (g := (mkF m 1 #[.val (.ref o0), .unset, .unset, .unset, .unset, .unset, .unset] [(.ref o0)])) rfl rfl (hb hby d6_1)
  have K3 : Steps p.tables e below _ (T2.setTop (mkF m 4 #[.val (.ref o0), .unset, .unset, .unset, .unset, .unset, .unset] [(.int n)])) := K1.trans (st2 _ (Steps.refl _))
  have K4 : Steps p.tables e below _ (T2.setTop (mkF m 13 #[.val (.ref o0), .val (.int n), .val (.long (0 : Int64)), .second, .val (.int (0 : Int32)), .val (.int (1 : Int32)), .unset] [])) := K3.trans (by
    show Steps p.tables e below (T2.setTop (mkF m 4 #[.val (.ref o0), .unset, .unset, .unset, .unset, .unset, .unset] [(.int n)])) _
    refine XS.istoreN X2.here hx rfl (hb hby d6_4) rfl (l' := #[.val (.ref o0), .val (.int n), .unset, .unset, .unset, .unset, .unset]) rfl ?_
    show Steps p.tables e below (T2.setTop (mkF m 5 #[.val (.ref o0), .val (.int n), .unset, .unset, .unset, .unset, .unset] [])) _
    refine XS.lconst X2.here hx rfl (hb hby d6_5) ?_
    show Steps p.tables e below (T2.setTop (mkF m 6 #[.val (.ref o0), .val (.int n), .unset, .unset, .unset, .unset, .unset] [(.long (0 : Int64))])) _
    refine XS.lstoreN X2.here hx rfl (hb hby d6_6) rfl (l' := #[.val (.ref o0), .val (.int n), .val (.long (0 : Int64)), .second, .unset, .unset, .unset]) rfl ?_
    show Steps p.tables e below (T2.setTop (mkF m 7 #[.val (.ref o0), .val (.int n), .val (.long (0 : Int64)), .second, .unset, .unset, .unset] [])) _
    refine XS.iconst X2.here hx rfl (hb hby d6_7) ?_
    show Steps p.tables e below (T2.setTop (mkF m 8 #[.val (.ref o0), .val (.int n), .val (.long (0 : Int64)), .second, .unset, .unset, .unset] [(.int (0 : Int32))])) _
    refine XS.istore X2.here hx rfl (hb hby d6_8) rfl (l' := #[.val (.ref o0), .val (.int n), .val (.long (0 : Int64)), .second, .val (.int (0 : Int32)), .unset, .unset]) rfl ?_
    show Steps p.tables e below (T2.setTop (mkF m 10 #[.val (.ref o0), .val (.int n), .val (.long (0 : Int64)), .second, .val (.int (0 : Int32)), .unset, .unset] [])) _
    refine XS.iconst X2.here hx rfl (hb hby d6_10) ?_
    show Steps p.tables e below (T2.setTop (mkF m 11 #[.val (.ref o0), .val (.int n), .val (.long (0 : Int64)), .second, .val (.int (0 : Int32)), .unset, .unset] [(.int (1 : Int32))])) _
    refine XS.istore X2.here hx rfl (hb hby d6_11) rfl (l' := #[.val (.ref o0), .val (.int n), .val (.long (0 : Int64)), .second, .val (.int (0 : Int32)), .val (.int (1 : Int32)), .unset]) rfl ?_
    show Steps p.tables e below (T2.setTop (mkF m 13 #[.val (.ref o0), .val (.int n), .val (.long (0 : Int64)), .second, .val (.int (0 : Int32)), .val (.int (1 : Int32)), .unset] [])) _
    exact Steps.refl _)
  obtain ⟨T5, L5, h5, sh5, s5, X5, e5, N5, Kp5, E5, FI5, FP5, V5, S5⟩ := rloop hx hZ hw hby hml hown g_o0 ne_o0_ia 10 T2 _ _ n (0 : Int64) (0 : Int32) .unset One.u X2 e2 N0 E_o0 F_input_o0 F_position_o0 V_ia hok
  have K6 := K4.trans S5
  have K7 : Steps p.tables e below _ (T5.setTop (mkF m 138 #[.val (.ref o0), .val (.int n), .val (.long (rl 10 vs n (0 : Int64) (0 : Int32)).1), .second, .val (.int sh5), .val (.int (0 : Int32)), s5] [(.long ((((rl 10 vs n (0 : Int64) (0 : Int32)).1.toUInt64 >>> ((1 : Int32) &&& 0x3f).toInt64.toUInt64).toInt64) ^^^ (-((rl 10 vs n (0 : Int64) (0 : Int32)).1 &&& (1 : Int64)))))])) := K6.trans (by
    show Steps p.tables e below (T5.setTop (mkF m 130 #[.val (.ref o0), .val (.int n), .val (.long (rl 10 vs n (0 : Int64) (0 : Int32)).1), .second, .val (.int sh5), .val (.int (0 : Int32)), s5] [])) _
    refine XS.lloadN X5.here hx rfl (hb hby d6_130) rfl ?_
    show Steps p.tables e below (T5.setTop (mkF m 131 #[.val (.ref o0), .val (.int n), .val (.long (rl 10 vs n (0 : Int64) (0 : Int32)).1), .second, .val (.int sh5), .val (.int (0 : Int32)), s5] [(.long (rl 10 vs n (0 : Int64) (0 : Int32)).1)])) _
    refine XS.iconst X5.here hx rfl (hb hby d6_131) ?_
    show Steps p.tables e below (T5.setTop (mkF m 132 #[.val (.ref o0), .val (.int n), .val (.long (rl 10 vs n (0 : Int64) (0 : Int32)).1), .second, .val (.int sh5), .val (.int (0 : Int32)), s5] [(.int (1 : Int32)), (.long (rl 10 vs n (0 : Int64) (0 : Int32)).1)])) _
    refine XS.lushr X5.here hx rfl (hb hby d6_132) rfl ?_
    show Steps p.tables e below (T5.setTop (mkF m 133 #[.val (.ref o0), .val (.int n), .val (.long (rl 10 vs n (0 : Int64) (0 : Int32)).1), .second, .val (.int sh5), .val (.int (0 : Int32)), s5] [(.long (((rl 10 vs n (0 : Int64) (0 : Int32)).1.toUInt64 >>> ((1 : Int32) &&& 0x3f).toInt64.toUInt64).toInt64))])) _
    refine XS.lloadN X5.here hx rfl (hb hby d6_133) rfl ?_
    show Steps p.tables e below (T5.setTop (mkF m 134 #[.val (.ref o0), .val (.int n), .val (.long (rl 10 vs n (0 : Int64) (0 : Int32)).1), .second, .val (.int sh5), .val (.int (0 : Int32)), s5] [(.long (rl 10 vs n (0 : Int64) (0 : Int32)).1), (.long (((rl 10 vs n (0 : Int64) (0 : Int32)).1.toUInt64 >>> ((1 : Int32) &&& 0x3f).toInt64.toUInt64).toInt64))])) _
    refine XS.lconst X5.here hx rfl (hb hby d6_134) ?_
    show Steps p.tables e below (T5.setTop (mkF m 135 #[.val (.ref o0), .val (.int n), .val (.long (rl 10 vs n (0 : Int64) (0 : Int32)).1), .second, .val (.int sh5), .val (.int (0 : Int32)), s5] [(.long (1 : Int64)), (.long (rl 10 vs n (0 : Int64) (0 : Int32)).1), (.long (((rl 10 vs n (0 : Int64) (0 : Int32)).1.toUInt64 >>> ((1 : Int32) &&& 0x3f).toInt64.toUInt64).toInt64))])) _
    refine XS.land X5.here hx rfl (hb hby d6_135) rfl ?_
    show Steps p.tables e below (T5.setTop (mkF m 136 #[.val (.ref o0), .val (.int n), .val (.long (rl 10 vs n (0 : Int64) (0 : Int32)).1), .second, .val (.int sh5), .val (.int (0 : Int32)), s5] [(.long ((rl 10 vs n (0 : Int64) (0 : Int32)).1 &&& (1 : Int64))), (.long (((rl 10 vs n (0 : Int64) (0 : Int32)).1.toUInt64 >>> ((1 : Int32) &&& 0x3f).toInt64.toUInt64).toInt64))])) _
    refine XS.lneg X5.here hx rfl (hb hby d6_136) rfl ?_
    show Steps p.tables e below (T5.setTop (mkF m 137 #[.val (.ref o0), .val (.int n), .val (.long (rl 10 vs n (0 : Int64) (0 : Int32)).1), .second, .val (.int sh5), .val (.int (0 : Int32)), s5] [(.long (-((rl 10 vs n (0 : Int64) (0 : Int32)).1 &&& (1 : Int64)))), (.long (((rl 10 vs n (0 : Int64) (0 : Int32)).1.toUInt64 >>> ((1 : Int32) &&& 0x3f).toInt64.toUInt64).toInt64))])) _
    refine XS.lxor X5.here hx rfl (hb hby d6_137) rfl ?_
    show Steps p.tables e below (T5.setTop (mkF m 138 #[.val (.ref o0), .val (.int n), .val (.long (rl 10 vs n (0 : Int64) (0 : Int32)).1), .second, .val (.int sh5), .val (.int (0 : Int32)), s5] [(.long ((((rl 10 vs n (0 : Int64) (0 : Int32)).1.toUInt64 >>> ((1 : Int32) &&& 0x3f).toInt64.toUInt64).toInt64) ^^^ (-((rl 10 vs n (0 : Int64) (0 : Int32)).1 &&& (1 : Int64)))))])) _
    exact Steps.refl _)
  obtain ⟨fs, hr, hrun, hended, hW, hsame⟩ := X5.leave (v := some (.long ((((rl 10 vs n (0 : Int64) (0 : Int32)).1.toUInt64 >>> ((1 : Int32) &&& 0x3f).toInt64.toUInt64).toInt64) ^^^ (-((rl 10 vs n (0 : Int64) (0 : Int32)).1 &&& (1 : Int64)))))) (fun h => by rw [Bd.returns] at h; cases h)
  have K_8 : Keep h0 h5 [o0] := (Kp0.trans Kp5 (allS (Or.inl (List.mem_of_getElem? (i := 0) rfl)) all0))
  refine ⟨_, _, K7.trans (retOut X5 hx Bd.returns rfl (Or.inr (Or.inl ⟨rfl, rfl, _, rfl⟩)) (hb hby d6_138) hr), hrun, hended, _, _, rfl, ?_, ⟨_, rfl⟩, hW, hsame.mono (by decide) (by first | decide | omega)⟩
  show Q_rm6 Z o0 ia ka z vs n h0 n0 _ T5.heap _
  rw [e5]
  exact ⟨rfl, N5, K_8, E5, FI5, FP5⟩
theorem d1_0 : decode method_2_code 0 = .ok (.lload_n 0, 1) := by decide +kernel
theorem d1_1 : decode method_2_code 1 = .ok (.bipush 7, 2) := by decide +kernel
theorem d1_3 : decode method_2_code 3 = .ok (.lushr, 1) := by decide +kernel
theorem d1_4 : decode method_2_code 4 = .ok (.lconst 0, 1) := by decide +kernel
theorem d1_5 : decode method_2_code 5 = .ok (.lcmp, 1) := by decide +kernel
theorem d1_6 : decode method_2_code 6 = .ok (.ifCond .ne 5, 3) := by decide +kernel
theorem d1_9 : decode method_2_code 9 = .ok (.iconst 1, 1) := by decide +kernel
theorem d1_11 : decode method_2_code 11 = .ok (.lload_n 0, 1) := by decide +kernel
theorem d1_12 : decode method_2_code 12 = .ok (.bipush 14, 2) := by decide +kernel
theorem d1_14 : decode method_2_code 14 = .ok (.lushr, 1) := by decide +kernel
theorem d1_15 : decode method_2_code 15 = .ok (.lconst 0, 1) := by decide +kernel
theorem d1_16 : decode method_2_code 16 = .ok (.lcmp, 1) := by decide +kernel
theorem d1_17 : decode method_2_code 17 = .ok (.ifCond .ne 5, 3) := by decide +kernel
theorem d1_20 : decode method_2_code 20 = .ok (.iconst 2, 1) := by decide +kernel
theorem d1_22 : decode method_2_code 22 = .ok (.lload_n 0, 1) := by decide +kernel
theorem d1_23 : decode method_2_code 23 = .ok (.bipush 21, 2) := by decide +kernel
theorem d1_25 : decode method_2_code 25 = .ok (.lushr, 1) := by decide +kernel
theorem d1_26 : decode method_2_code 26 = .ok (.lconst 0, 1) := by decide +kernel
theorem d1_27 : decode method_2_code 27 = .ok (.lcmp, 1) := by decide +kernel
theorem d1_28 : decode method_2_code 28 = .ok (.ifCond .ne 5, 3) := by decide +kernel
theorem d1_31 : decode method_2_code 31 = .ok (.iconst 3, 1) := by decide +kernel
theorem d1_33 : decode method_2_code 33 = .ok (.lload_n 0, 1) := by decide +kernel
theorem d1_34 : decode method_2_code 34 = .ok (.bipush 28, 2) := by decide +kernel
theorem d1_36 : decode method_2_code 36 = .ok (.lushr, 1) := by decide +kernel
theorem d1_37 : decode method_2_code 37 = .ok (.lconst 0, 1) := by decide +kernel
theorem d1_38 : decode method_2_code 38 = .ok (.lcmp, 1) := by decide +kernel
theorem d1_39 : decode method_2_code 39 = .ok (.ifCond .ne 5, 3) := by decide +kernel
theorem d1_42 : decode method_2_code 42 = .ok (.iconst 4, 1) := by decide +kernel
theorem d1_44 : decode method_2_code 44 = .ok (.lload_n 0, 1) := by decide +kernel
theorem d1_45 : decode method_2_code 45 = .ok (.bipush 35, 2) := by decide +kernel
theorem d1_47 : decode method_2_code 47 = .ok (.lushr, 1) := by decide +kernel
theorem d1_48 : decode method_2_code 48 = .ok (.lconst 0, 1) := by decide +kernel
theorem d1_49 : decode method_2_code 49 = .ok (.lcmp, 1) := by decide +kernel
theorem d1_50 : decode method_2_code 50 = .ok (.ifCond .ne 5, 3) := by decide +kernel
theorem d1_53 : decode method_2_code 53 = .ok (.iconst 5, 1) := by decide +kernel
theorem d1_55 : decode method_2_code 55 = .ok (.lload_n 0, 1) := by decide +kernel
theorem d1_56 : decode method_2_code 56 = .ok (.bipush 42, 2) := by decide +kernel
theorem d1_58 : decode method_2_code 58 = .ok (.lushr, 1) := by decide +kernel
theorem d1_59 : decode method_2_code 59 = .ok (.lconst 0, 1) := by decide +kernel
theorem d1_60 : decode method_2_code 60 = .ok (.lcmp, 1) := by decide +kernel
theorem d1_61 : decode method_2_code 61 = .ok (.ifCond .ne 6, 3) := by decide +kernel
theorem d1_64 : decode method_2_code 64 = .ok (.bipush 6, 2) := by decide +kernel
theorem d1_67 : decode method_2_code 67 = .ok (.lload_n 0, 1) := by decide +kernel
theorem d1_68 : decode method_2_code 68 = .ok (.bipush 49, 2) := by decide +kernel
theorem d1_70 : decode method_2_code 70 = .ok (.lushr, 1) := by decide +kernel
theorem d1_71 : decode method_2_code 71 = .ok (.lconst 0, 1) := by decide +kernel
theorem d1_72 : decode method_2_code 72 = .ok (.lcmp, 1) := by decide +kernel
theorem d1_73 : decode method_2_code 73 = .ok (.ifCond .ne 6, 3) := by decide +kernel
theorem d1_76 : decode method_2_code 76 = .ok (.bipush 7, 2) := by decide +kernel
theorem d1_79 : decode method_2_code 79 = .ok (.lload_n 0, 1) := by decide +kernel
theorem d1_80 : decode method_2_code 80 = .ok (.bipush 56, 2) := by decide +kernel
theorem d1_82 : decode method_2_code 82 = .ok (.lushr, 1) := by decide +kernel
theorem d1_83 : decode method_2_code 83 = .ok (.lconst 0, 1) := by decide +kernel
theorem d1_84 : decode method_2_code 84 = .ok (.lcmp, 1) := by decide +kernel
theorem d1_85 : decode method_2_code 85 = .ok (.ifCond .ne 6, 3) := by decide +kernel
theorem d1_88 : decode method_2_code 88 = .ok (.bipush 8, 2) := by decide +kernel
theorem d1_91 : decode method_2_code 91 = .ok (.lload_n 0, 1) := by decide +kernel
theorem d1_92 : decode method_2_code 92 = .ok (.bipush 63, 2) := by decide +kernel
theorem d1_94 : decode method_2_code 94 = .ok (.lushr, 1) := by decide +kernel
theorem d1_95 : decode method_2_code 95 = .ok (.lconst 0, 1) := by decide +kernel
theorem d1_96 : decode method_2_code 96 = .ok (.lcmp, 1) := by decide +kernel
theorem d1_97 : decode method_2_code 97 = .ok (.ifCond .ne 6, 3) := by decide +kernel
theorem d1_100 : decode method_2_code 100 = .ok (.bipush 9, 2) := by decide +kernel
theorem d1_103 : decode method_2_code 103 = .ok (.bipush 10, 2) := by decide +kernel
def f_rm1 (q0 : Int64) : Int32 := (if ((q0.toUInt64 >>> ((7 : Int32) &&& 0x3f).toInt64.toUInt64).toInt64) = (0 : Int64) then (1 : Int32) else (if ((q0.toUInt64 >>> ((14 : Int32) &&& 0x3f).toInt64.toUInt64).toInt64) = (0 : Int64) then (2 : Int32) else (if ((q0.toUInt64 >>> ((21 : Int32) &&& 0x3f).toInt64.toUInt64).toInt64) = (0 : Int64) then (3 : Int32) else (if ((q0.toUInt64 >>> ((28 : Int32) &&& 0x3f).toInt64.toUInt64).toInt64) = (0 : Int64) then (4 : Int32) else (if ((q0.toUInt64 >>> ((35 : Int32) &&& 0x3f).toInt64.toUInt64).toInt64) = (0 : Int64) then (5 : Int32) else (if ((q0.toUInt64 >>> ((42 : Int32) &&& 0x3f).toInt64.toUInt64).toInt64) = (0 : Int64) then (6 : Int32) else (if ((q0.toUInt64 >>> ((49 : Int32) &&& 0x3f).toInt64.toUInt64).toInt64) = (0 : Int64) then (7 : Int32) else (if ((q0.toUInt64 >>> ((56 : Int32) &&& 0x3f).toInt64.toUInt64).toInt64) = (0 : Int64) then (8 : Int32) else (if ((q0.toUInt64 >>> ((63 : Int32) &&& 0x3f).toInt64.toUInt64).toInt64) = (0 : Int64) then (9 : Int32) else (10 : Int32))))))))))
def Q_rm1 (Z : State) (q0 : Int64) (h0 : Heap) (n0 : Nat) (v : Option Value) (h : Heap) (L : List Loc) : Prop := v = some (.int (f_rm1 q0)) ∧ Fr n0 L ∧ h = h0
theorem pn_1 : plainName "com/example/thin_gateway/thingateway/avro/AvroDecoderReadLongPinLaw" = true := by first | (simp [plainName, overriddenIn]; done) | decide +kernel
theorem ef_1 (m : MethodId) (x0 : Int64) : entryFrame m #[(.long x0)] 2 = mkF m 0 #[.val (.long x0), .second] [] := by first | (simp [entryFrame, mkF, argsToLocals, Value.category]; done) | rfl
theorem d1_10 : decode method_2_code 10 = .ok (.ireturn, 1) := by decide +kernel
theorem d1_21 : decode method_2_code 21 = .ok (.ireturn, 1) := by decide +kernel
theorem d1_32 : decode method_2_code 32 = .ok (.ireturn, 1) := by decide +kernel
theorem d1_43 : decode method_2_code 43 = .ok (.ireturn, 1) := by decide +kernel
theorem d1_54 : decode method_2_code 54 = .ok (.ireturn, 1) := by decide +kernel
theorem d1_66 : decode method_2_code 66 = .ok (.ireturn, 1) := by decide +kernel
theorem d1_78 : decode method_2_code 78 = .ok (.ireturn, 1) := by decide +kernel
theorem d1_90 : decode method_2_code 90 = .ok (.ireturn, 1) := by decide +kernel
theorem d1_102 : decode method_2_code 102 = .ok (.ireturn, 1) := by decide +kernel
theorem d1_105 : decode method_2_code 105 = .ok (.ireturn, 1) := by decide +kernel
set_option maxRecDepth 65536 in
set_option maxHeartbeats 40000000 in
theorem rm1 (l : Launch) (Z : State) (a0 : Array Value) (hw : ∀ d ∈ tables_1, d.before a0 Z = true) (ws : List Jvm.Cond) (q0 : Int64) (h0 : Heap) (n0 : Nat) (Z0 : n0 ≤ h0.size) :
    MetFree l (⟨"com/example/thin_gateway/thingateway/avro/AvroDecoderReadLongPinLaw", "canonicalLength", "(J)I"⟩ : MethodName) (head1 (Jvm.Cond.code (⟨"com/example/thin_gateway/thingateway/avro/AvroDecoderReadLongPinLaw", "canonicalLength", "(J)I"⟩ : MethodName) method_2_code 2 (some .int) :: ws) ({ frames := 0, cells := 0, slots := 0, locals := 0 } : Room)) (fun a U => a = #[(.long q0)] ∧ Z.Warmed39 U.vm ∧ U.heap = h0) (fun _ _ _ _ _ => True) (fun _ U o U' => ∃ v L, o = .returned v ∧ Q_rm1 Z q0 h0 n0 v U'.heap L ∧ FrameEnd U o U' L ({ frames := 0, cells := 0, slots := 0, locals := 0 } : Room).cells ({ frames := 0, cells := 0, slots := 0, locals := 0 } : Room).slots) := by
  refine MetFree.of_bodySF (plainFor_of_name pn_1) hisR ?_
  intro p e s m args below meth c s₁ Bd hml0 hP hK
  obtain ⟨rfl, hZ, hh⟩ := hP
  have hx := Bd.exec
  have hby := Bd.bytes
  have hml : c.maxLocals = 2 := hml0
  have hown : s.vm.findClass "com/example/thin_gateway/thingateway/avro/AvroDecoderReadLongPinLaw" = some m.cls := findClass_of_methodNamed Bd.named
  have hnm := (name_of_methodNamed Bd.named Bd.method).1
  have X0 : Stand p l e ({ frames := 0, cells := 0, slots := 0, locals := 0 } : Room) s m #[(.long q0)] below meth c s₁ [] 0 0 := Stand.of_body Bd
  have e0 : s₁.heap = h0 := by rw [← hh, Bd.state]; rfl
  have N0 := Fr.nil n0
  have Kp0 : Keep h0 h0 [] := Keep.refl _ _
  have K0 : Steps p.tables e below (s₁.setTop (entryFrame m #[(.long q0)] 2)) (s₁.setTop (mkF m 0 #[.val (.long q0), .second] [])) := castTop (ef_1 m q0) (Steps.refl _)
  have K1 : Steps p.tables e below _ (s₁.setTop (mkF m 6 #[.val (.long q0), .second] [(.int (lcmpW ((q0.toUInt64 >>> ((7 : Int32) &&& 0x3f).toInt64.toUInt64).toInt64) (0 : Int64)))])) := K0.trans (by
    show Steps p.tables e below (s₁.setTop (mkF m 0 #[.val (.long q0), .second] [])) _
    refine XS.lloadN X0.here hx rfl (hb hby d1_0) rfl ?_
    show Steps p.tables e below (s₁.setTop (mkF m 1 #[.val (.long q0), .second] [(.long q0)])) _
    refine XS.bipush X0.here hx rfl (hb hby d1_1) ?_
    show Steps p.tables e below (s₁.setTop (mkF m 3 #[.val (.long q0), .second] [(.int (7 : Int32)), (.long q0)])) _
    refine XS.lushr X0.here hx rfl (hb hby d1_3) rfl ?_
    show Steps p.tables e below (s₁.setTop (mkF m 4 #[.val (.long q0), .second] [(.long ((q0.toUInt64 >>> ((7 : Int32) &&& 0x3f).toInt64.toUInt64).toInt64))])) _
    refine XS.lconst X0.here hx rfl (hb hby d1_4) ?_
    show Steps p.tables e below (s₁.setTop (mkF m 5 #[.val (.long q0), .second] [(.long (0 : Int64)), (.long ((q0.toUInt64 >>> ((7 : Int32) &&& 0x3f).toInt64.toUInt64).toInt64))])) _
    refine XS.lcmp X0.here hx rfl (hb hby d1_5) rfl ?_
    show Steps p.tables e below (s₁.setTop (mkF m 6 #[.val (.long q0), .second] [(.int (lcmpW ((q0.toUInt64 >>> ((7 : Int32) &&& 0x3f).toInt64.toUInt64).toInt64) (0 : Int64)))])) _
    exact Steps.refl _)
  by_cases hc6 : ((q0.toUInt64 >>> ((7 : Int32) &&& 0x3f).toInt64.toUInt64).toInt64) = (0 : Int64)
  · have K2 : Steps p.tables e below _ (s₁.setTop (mkF m 10 #[.val (.long q0), .second] [(.int (1 : Int32))])) := K1.trans (by
      show Steps p.tables e below (s₁.setTop (mkF m 6 #[.val (.long q0), .second] [(.int (lcmpW ((q0.toUInt64 >>> ((7 : Int32) &&& 0x3f).toInt64.toUInt64).toInt64) (0 : Int64)))])) _
      refine XS.ifNo X0.here hx rfl (hb hby d1_6) rfl ((if0 _ _).trans (teq ((lw_eq ((q0.toUInt64 >>> ((7 : Int32) &&& 0x3f).toInt64.toUInt64).toInt64) (0 : Int64)).mpr hc6)).2) ?_
      show Steps p.tables e below (s₁.setTop (mkF m 9 #[.val (.long q0), .second] [])) _
      refine XS.iconst X0.here hx rfl (hb hby d1_9) ?_
      show Steps p.tables e below (s₁.setTop (mkF m 10 #[.val (.long q0), .second] [(.int (1 : Int32))])) _
      exact Steps.refl _)
    obtain ⟨fs, hr, hrun, hended, hW, hsame⟩ := X0.leave (v := some (.int (1 : Int32))) (fun h => by rw [Bd.returns] at h; cases h)
    refine ⟨_, _, K2.trans (retOut X0 hx Bd.returns rfl (Or.inl ⟨rfl, Or.inl rfl, _, rfl⟩) (hb hby d1_10) hr), hrun, hended, _, _, rfl, ?_, ⟨_, rfl⟩, hW, hsame.mono (by decide) (by first | decide | omega)⟩
    show Q_rm1 Z q0 h0 n0 _ s₁.heap _
    rw [e0]
    exact ⟨(by unfold f_rm1; rw [if_pos hc6]), N0, rfl⟩
  · have K3 : Steps p.tables e below _ (s₁.setTop (mkF m 17 #[.val (.long q0), .second] [(.int (lcmpW ((q0.toUInt64 >>> ((14 : Int32) &&& 0x3f).toInt64.toUInt64).toInt64) (0 : Int64)))])) := K1.trans (by
      show Steps p.tables e below (s₁.setTop (mkF m 6 #[.val (.long q0), .second] [(.int (lcmpW ((q0.toUInt64 >>> ((7 : Int32) &&& 0x3f).toInt64.toUInt64).toInt64) (0 : Int64)))])) _
      refine XS.ifYes X0.here hx rfl (pc0 := 6) (pc' := 11) rfl (hb hby d1_6) rfl ((if0 _ _).trans (feq (fun z => hc6 ((lw_eq ((q0.toUInt64 >>> ((7 : Int32) &&& 0x3f).toInt64.toUInt64).toInt64) (0 : Int64)).mp z))).2) (by decide) (by decide) ?_
      show Steps p.tables e below (s₁.setTop (mkF m 11 #[.val (.long q0), .second] [])) _
      refine XS.lloadN X0.here hx rfl (hb hby d1_11) rfl ?_
      show Steps p.tables e below (s₁.setTop (mkF m 12 #[.val (.long q0), .second] [(.long q0)])) _
      refine XS.bipush X0.here hx rfl (hb hby d1_12) ?_
      show Steps p.tables e below (s₁.setTop (mkF m 14 #[.val (.long q0), .second] [(.int (14 : Int32)), (.long q0)])) _
      refine XS.lushr X0.here hx rfl (hb hby d1_14) rfl ?_
      show Steps p.tables e below (s₁.setTop (mkF m 15 #[.val (.long q0), .second] [(.long ((q0.toUInt64 >>> ((14 : Int32) &&& 0x3f).toInt64.toUInt64).toInt64))])) _
      refine XS.lconst X0.here hx rfl (hb hby d1_15) ?_
      show Steps p.tables e below (s₁.setTop (mkF m 16 #[.val (.long q0), .second] [(.long (0 : Int64)), (.long ((q0.toUInt64 >>> ((14 : Int32) &&& 0x3f).toInt64.toUInt64).toInt64))])) _
      refine XS.lcmp X0.here hx rfl (hb hby d1_16) rfl ?_
      show Steps p.tables e below (s₁.setTop (mkF m 17 #[.val (.long q0), .second] [(.int (lcmpW ((q0.toUInt64 >>> ((14 : Int32) &&& 0x3f).toInt64.toUInt64).toInt64) (0 : Int64)))])) _
      exact Steps.refl _)
    by_cases hc17 : ((q0.toUInt64 >>> ((14 : Int32) &&& 0x3f).toInt64.toUInt64).toInt64) = (0 : Int64)
    · have K4 : Steps p.tables e below _ (s₁.setTop (mkF m 21 #[.val (.long q0), .second] [(.int (2 : Int32))])) := K3.trans (by
        show Steps p.tables e below (s₁.setTop (mkF m 17 #[.val (.long q0), .second] [(.int (lcmpW ((q0.toUInt64 >>> ((14 : Int32) &&& 0x3f).toInt64.toUInt64).toInt64) (0 : Int64)))])) _
        refine XS.ifNo X0.here hx rfl (hb hby d1_17) rfl ((if0 _ _).trans (teq ((lw_eq ((q0.toUInt64 >>> ((14 : Int32) &&& 0x3f).toInt64.toUInt64).toInt64) (0 : Int64)).mpr hc17)).2) ?_
        show Steps p.tables e below (s₁.setTop (mkF m 20 #[.val (.long q0), .second] [])) _
        refine XS.iconst X0.here hx rfl (hb hby d1_20) ?_
        show Steps p.tables e below (s₁.setTop (mkF m 21 #[.val (.long q0), .second] [(.int (2 : Int32))])) _
        exact Steps.refl _)
      obtain ⟨fs, hr, hrun, hended, hW, hsame⟩ := X0.leave (v := some (.int (2 : Int32))) (fun h => by rw [Bd.returns] at h; cases h)
      refine ⟨_, _, K4.trans (retOut X0 hx Bd.returns rfl (Or.inl ⟨rfl, Or.inl rfl, _, rfl⟩) (hb hby d1_21) hr), hrun, hended, _, _, rfl, ?_, ⟨_, rfl⟩, hW, hsame.mono (by decide) (by first | decide | omega)⟩
      show Q_rm1 Z q0 h0 n0 _ s₁.heap _
      rw [e0]
      exact ⟨(by unfold f_rm1; rw [if_neg hc6, if_pos hc17]), N0, rfl⟩
    · have K5 : Steps p.tables e below _ (s₁.setTop (mkF m 28 #[.val (.long q0), .second] [(.int (lcmpW ((q0.toUInt64 >>> ((21 : Int32) &&& 0x3f).toInt64.toUInt64).toInt64) (0 : Int64)))])) := K3.trans (by
        show Steps p.tables e below (s₁.setTop (mkF m 17 #[.val (.long q0), .second] [(.int (lcmpW ((q0.toUInt64 >>> ((14 : Int32) &&& 0x3f).toInt64.toUInt64).toInt64) (0 : Int64)))])) _
        refine XS.ifYes X0.here hx rfl (pc0 := 17) (pc' := 22) rfl (hb hby d1_17) rfl ((if0 _ _).trans (feq (fun z => hc17 ((lw_eq ((q0.toUInt64 >>> ((14 : Int32) &&& 0x3f).toInt64.toUInt64).toInt64) (0 : Int64)).mp z))).2) (by decide) (by decide) ?_
        show Steps p.tables e below (s₁.setTop (mkF m 22 #[.val (.long q0), .second] [])) _
        refine XS.lloadN X0.here hx rfl (hb hby d1_22) rfl ?_
        show Steps p.tables e below (s₁.setTop (mkF m 23 #[.val (.long q0), .second] [(.long q0)])) _
        refine XS.bipush X0.here hx rfl (hb hby d1_23) ?_
        show Steps p.tables e below (s₁.setTop (mkF m 25 #[.val (.long q0), .second] [(.int (21 : Int32)), (.long q0)])) _
        refine XS.lushr X0.here hx rfl (hb hby d1_25) rfl ?_
        show Steps p.tables e below (s₁.setTop (mkF m 26 #[.val (.long q0), .second] [(.long ((q0.toUInt64 >>> ((21 : Int32) &&& 0x3f).toInt64.toUInt64).toInt64))])) _
        refine XS.lconst X0.here hx rfl (hb hby d1_26) ?_
        show Steps p.tables e below (s₁.setTop (mkF m 27 #[.val (.long q0), .second] [(.long (0 : Int64)), (.long ((q0.toUInt64 >>> ((21 : Int32) &&& 0x3f).toInt64.toUInt64).toInt64))])) _
        refine XS.lcmp X0.here hx rfl (hb hby d1_27) rfl ?_
        show Steps p.tables e below (s₁.setTop (mkF m 28 #[.val (.long q0), .second] [(.int (lcmpW ((q0.toUInt64 >>> ((21 : Int32) &&& 0x3f).toInt64.toUInt64).toInt64) (0 : Int64)))])) _
        exact Steps.refl _)
      by_cases hc28 : ((q0.toUInt64 >>> ((21 : Int32) &&& 0x3f).toInt64.toUInt64).toInt64) = (0 : Int64)
      · have K6 : Steps p.tables e below _ (s₁.setTop (mkF m 32 #[.val (.long q0), .second] [(.int (3 : Int32))])) := K5.trans (by
          show Steps p.tables e below (s₁.setTop (mkF m 28 #[.val (.long q0), .second] [(.int (lcmpW ((q0.toUInt64 >>> ((21 : Int32) &&& 0x3f).toInt64.toUInt64).toInt64) (0 : Int64)))])) _
          refine XS.ifNo X0.here hx rfl (hb hby d1_28) rfl ((if0 _ _).trans (teq ((lw_eq ((q0.toUInt64 >>> ((21 : Int32) &&& 0x3f).toInt64.toUInt64).toInt64) (0 : Int64)).mpr hc28)).2) ?_
          show Steps p.tables e below (s₁.setTop (mkF m 31 #[.val (.long q0), .second] [])) _
          refine XS.iconst X0.here hx rfl (hb hby d1_31) ?_
          show Steps p.tables e below (s₁.setTop (mkF m 32 #[.val (.long q0), .second] [(.int (3 : Int32))])) _
          exact Steps.refl _)
        obtain ⟨fs, hr, hrun, hended, hW, hsame⟩ := X0.leave (v := some (.int (3 : Int32))) (fun h => by rw [Bd.returns] at h; cases h)
        refine ⟨_, _, K6.trans (retOut X0 hx Bd.returns rfl (Or.inl ⟨rfl, Or.inl rfl, _, rfl⟩) (hb hby d1_32) hr), hrun, hended, _, _, rfl, ?_, ⟨_, rfl⟩, hW, hsame.mono (by decide) (by first | decide | omega)⟩
        show Q_rm1 Z q0 h0 n0 _ s₁.heap _
        rw [e0]
        exact ⟨(by unfold f_rm1; rw [if_neg hc6, if_neg hc17, if_pos hc28]), N0, rfl⟩
      · have K7 : Steps p.tables e below _ (s₁.setTop (mkF m 39 #[.val (.long q0), .second] [(.int (lcmpW ((q0.toUInt64 >>> ((28 : Int32) &&& 0x3f).toInt64.toUInt64).toInt64) (0 : Int64)))])) := K5.trans (by
          show Steps p.tables e below (s₁.setTop (mkF m 28 #[.val (.long q0), .second] [(.int (lcmpW ((q0.toUInt64 >>> ((21 : Int32) &&& 0x3f).toInt64.toUInt64).toInt64) (0 : Int64)))])) _
          refine XS.ifYes X0.here hx rfl (pc0 := 28) (pc' := 33) rfl (hb hby d1_28) rfl ((if0 _ _).trans (feq (fun z => hc28 ((lw_eq ((q0.toUInt64 >>> ((21 : Int32) &&& 0x3f).toInt64.toUInt64).toInt64) (0 : Int64)).mp z))).2) (by decide) (by decide) ?_
          show Steps p.tables e below (s₁.setTop (mkF m 33 #[.val (.long q0), .second] [])) _
          refine XS.lloadN X0.here hx rfl (hb hby d1_33) rfl ?_
          show Steps p.tables e below (s₁.setTop (mkF m 34 #[.val (.long q0), .second] [(.long q0)])) _
          refine XS.bipush X0.here hx rfl (hb hby d1_34) ?_
          show Steps p.tables e below (s₁.setTop (mkF m 36 #[.val (.long q0), .second] [(.int (28 : Int32)), (.long q0)])) _
          refine XS.lushr X0.here hx rfl (hb hby d1_36) rfl ?_
          show Steps p.tables e below (s₁.setTop (mkF m 37 #[.val (.long q0), .second] [(.long ((q0.toUInt64 >>> ((28 : Int32) &&& 0x3f).toInt64.toUInt64).toInt64))])) _
          refine XS.lconst X0.here hx rfl (hb hby d1_37) ?_
          show Steps p.tables e below (s₁.setTop (mkF m 38 #[.val (.long q0), .second] [(.long (0 : Int64)), (.long ((q0.toUInt64 >>> ((28 : Int32) &&& 0x3f).toInt64.toUInt64).toInt64))])) _
          refine XS.lcmp X0.here hx rfl (hb hby d1_38) rfl ?_
          show Steps p.tables e below (s₁.setTop (mkF m 39 #[.val (.long q0), .second] [(.int (lcmpW ((q0.toUInt64 >>> ((28 : Int32) &&& 0x3f).toInt64.toUInt64).toInt64) (0 : Int64)))])) _
          exact Steps.refl _)
        by_cases hc39 : ((q0.toUInt64 >>> ((28 : Int32) &&& 0x3f).toInt64.toUInt64).toInt64) = (0 : Int64)
        · have K8 : Steps p.tables e below _ (s₁.setTop (mkF m 43 #[.val (.long q0), .second] [(.int (4 : Int32))])) := K7.trans (by
            show Steps p.tables e below (s₁.setTop (mkF m 39 #[.val (.long q0), .second] [(.int (lcmpW ((q0.toUInt64 >>> ((28 : Int32) &&& 0x3f).toInt64.toUInt64).toInt64) (0 : Int64)))])) _
            refine XS.ifNo X0.here hx rfl (hb hby d1_39) rfl ((if0 _ _).trans (teq ((lw_eq ((q0.toUInt64 >>> ((28 : Int32) &&& 0x3f).toInt64.toUInt64).toInt64) (0 : Int64)).mpr hc39)).2) ?_
            show Steps p.tables e below (s₁.setTop (mkF m 42 #[.val (.long q0), .second] [])) _
            refine XS.iconst X0.here hx rfl (hb hby d1_42) ?_
            show Steps p.tables e below (s₁.setTop (mkF m 43 #[.val (.long q0), .second] [(.int (4 : Int32))])) _
            exact Steps.refl _)
          obtain ⟨fs, hr, hrun, hended, hW, hsame⟩ := X0.leave (v := some (.int (4 : Int32))) (fun h => by rw [Bd.returns] at h; cases h)
          refine ⟨_, _, K8.trans (retOut X0 hx Bd.returns rfl (Or.inl ⟨rfl, Or.inl rfl, _, rfl⟩) (hb hby d1_43) hr), hrun, hended, _, _, rfl, ?_, ⟨_, rfl⟩, hW, hsame.mono (by decide) (by first | decide | omega)⟩
          show Q_rm1 Z q0 h0 n0 _ s₁.heap _
          rw [e0]
          exact ⟨(by unfold f_rm1; rw [if_neg hc6, if_neg hc17, if_neg hc28, if_pos hc39]), N0, rfl⟩
        · have K9 : Steps p.tables e below _ (s₁.setTop (mkF m 50 #[.val (.long q0), .second] [(.int (lcmpW ((q0.toUInt64 >>> ((35 : Int32) &&& 0x3f).toInt64.toUInt64).toInt64) (0 : Int64)))])) := K7.trans (by
            show Steps p.tables e below (s₁.setTop (mkF m 39 #[.val (.long q0), .second] [(.int (lcmpW ((q0.toUInt64 >>> ((28 : Int32) &&& 0x3f).toInt64.toUInt64).toInt64) (0 : Int64)))])) _
            refine XS.ifYes X0.here hx rfl (pc0 := 39) (pc' := 44) rfl (hb hby d1_39) rfl ((if0 _ _).trans (feq (fun z => hc39 ((lw_eq ((q0.toUInt64 >>> ((28 : Int32) &&& 0x3f).toInt64.toUInt64).toInt64) (0 : Int64)).mp z))).2) (by decide) (by decide) ?_
            show Steps p.tables e below (s₁.setTop (mkF m 44 #[.val (.long q0), .second] [])) _
            refine XS.lloadN X0.here hx rfl (hb hby d1_44) rfl ?_
            show Steps p.tables e below (s₁.setTop (mkF m 45 #[.val (.long q0), .second] [(.long q0)])) _
            refine XS.bipush X0.here hx rfl (hb hby d1_45) ?_
            show Steps p.tables e below (s₁.setTop (mkF m 47 #[.val (.long q0), .second] [(.int (35 : Int32)), (.long q0)])) _
            refine XS.lushr X0.here hx rfl (hb hby d1_47) rfl ?_
            show Steps p.tables e below (s₁.setTop (mkF m 48 #[.val (.long q0), .second] [(.long ((q0.toUInt64 >>> ((35 : Int32) &&& 0x3f).toInt64.toUInt64).toInt64))])) _
            refine XS.lconst X0.here hx rfl (hb hby d1_48) ?_
            show Steps p.tables e below (s₁.setTop (mkF m 49 #[.val (.long q0), .second] [(.long (0 : Int64)), (.long ((q0.toUInt64 >>> ((35 : Int32) &&& 0x3f).toInt64.toUInt64).toInt64))])) _
            refine XS.lcmp X0.here hx rfl (hb hby d1_49) rfl ?_
            show Steps p.tables e below (s₁.setTop (mkF m 50 #[.val (.long q0), .second] [(.int (lcmpW ((q0.toUInt64 >>> ((35 : Int32) &&& 0x3f).toInt64.toUInt64).toInt64) (0 : Int64)))])) _
            exact Steps.refl _)
          by_cases hc50 : ((q0.toUInt64 >>> ((35 : Int32) &&& 0x3f).toInt64.toUInt64).toInt64) = (0 : Int64)
          · have K10 : Steps p.tables e below _ (s₁.setTop (mkF m 54 #[.val (.long q0), .second] [(.int (5 : Int32))])) := K9.trans (by
              show Steps p.tables e below (s₁.setTop (mkF m 50 #[.val (.long q0), .second] [(.int (lcmpW ((q0.toUInt64 >>> ((35 : Int32) &&& 0x3f).toInt64.toUInt64).toInt64) (0 : Int64)))])) _
              refine XS.ifNo X0.here hx rfl (hb hby d1_50) rfl ((if0 _ _).trans (teq ((lw_eq ((q0.toUInt64 >>> ((35 : Int32) &&& 0x3f).toInt64.toUInt64).toInt64) (0 : Int64)).mpr hc50)).2) ?_
              show Steps p.tables e below (s₁.setTop (mkF m 53 #[.val (.long q0), .second] [])) _
              refine XS.iconst X0.here hx rfl (hb hby d1_53) ?_
              show Steps p.tables e below (s₁.setTop (mkF m 54 #[.val (.long q0), .second] [(.int (5 : Int32))])) _
              exact Steps.refl _)
            obtain ⟨fs, hr, hrun, hended, hW, hsame⟩ := X0.leave (v := some (.int (5 : Int32))) (fun h => by rw [Bd.returns] at h; cases h)
            refine ⟨_, _, K10.trans (retOut X0 hx Bd.returns rfl (Or.inl ⟨rfl, Or.inl rfl, _, rfl⟩) (hb hby d1_54) hr), hrun, hended, _, _, rfl, ?_, ⟨_, rfl⟩, hW, hsame.mono (by decide) (by first | decide | omega)⟩
            show Q_rm1 Z q0 h0 n0 _ s₁.heap _
            rw [e0]
            exact ⟨(by unfold f_rm1; rw [if_neg hc6, if_neg hc17, if_neg hc28, if_neg hc39, if_pos hc50]), N0, rfl⟩
          · have K11 : Steps p.tables e below _ (s₁.setTop (mkF m 61 #[.val (.long q0), .second] [(.int (lcmpW ((q0.toUInt64 >>> ((42 : Int32) &&& 0x3f).toInt64.toUInt64).toInt64) (0 : Int64)))])) := K9.trans (by
              show Steps p.tables e below (s₁.setTop (mkF m 50 #[.val (.long q0), .second] [(.int (lcmpW ((q0.toUInt64 >>> ((35 : Int32) &&& 0x3f).toInt64.toUInt64).toInt64) (0 : Int64)))])) _
              refine XS.ifYes X0.here hx rfl (pc0 := 50) (pc' := 55) rfl (hb hby d1_50) rfl ((if0 _ _).trans (feq (fun z => hc50 ((lw_eq ((q0.toUInt64 >>> ((35 : Int32) &&& 0x3f).toInt64.toUInt64).toInt64) (0 : Int64)).mp z))).2) (by decide) (by decide) ?_
              show Steps p.tables e below (s₁.setTop (mkF m 55 #[.val (.long q0), .second] [])) _
              refine XS.lloadN X0.here hx rfl (hb hby d1_55) rfl ?_
              show Steps p.tables e below (s₁.setTop (mkF m 56 #[.val (.long q0), .second] [(.long q0)])) _
              refine XS.bipush X0.here hx rfl (hb hby d1_56) ?_
              show Steps p.tables e below (s₁.setTop (mkF m 58 #[.val (.long q0), .second] [(.int (42 : Int32)), (.long q0)])) _
              refine XS.lushr X0.here hx rfl (hb hby d1_58) rfl ?_
              show Steps p.tables e below (s₁.setTop (mkF m 59 #[.val (.long q0), .second] [(.long ((q0.toUInt64 >>> ((42 : Int32) &&& 0x3f).toInt64.toUInt64).toInt64))])) _
              refine XS.lconst X0.here hx rfl (hb hby d1_59) ?_
              show Steps p.tables e below (s₁.setTop (mkF m 60 #[.val (.long q0), .second] [(.long (0 : Int64)), (.long ((q0.toUInt64 >>> ((42 : Int32) &&& 0x3f).toInt64.toUInt64).toInt64))])) _
              refine XS.lcmp X0.here hx rfl (hb hby d1_60) rfl ?_
              show Steps p.tables e below (s₁.setTop (mkF m 61 #[.val (.long q0), .second] [(.int (lcmpW ((q0.toUInt64 >>> ((42 : Int32) &&& 0x3f).toInt64.toUInt64).toInt64) (0 : Int64)))])) _
              exact Steps.refl _)
            by_cases hc61 : ((q0.toUInt64 >>> ((42 : Int32) &&& 0x3f).toInt64.toUInt64).toInt64) = (0 : Int64)
            · have K12 : Steps p.tables e below _ (s₁.setTop (mkF m 66 #[.val (.long q0), .second] [(.int (6 : Int32))])) := K11.trans (by
                show Steps p.tables e below (s₁.setTop (mkF m 61 #[.val (.long q0), .second] [(.int (lcmpW ((q0.toUInt64 >>> ((42 : Int32) &&& 0x3f).toInt64.toUInt64).toInt64) (0 : Int64)))])) _
                refine XS.ifNo X0.here hx rfl (hb hby d1_61) rfl ((if0 _ _).trans (teq ((lw_eq ((q0.toUInt64 >>> ((42 : Int32) &&& 0x3f).toInt64.toUInt64).toInt64) (0 : Int64)).mpr hc61)).2) ?_
                show Steps p.tables e below (s₁.setTop (mkF m 64 #[.val (.long q0), .second] [])) _
                refine XS.bipush X0.here hx rfl (hb hby d1_64) ?_
                show Steps p.tables e below (s₁.setTop (mkF m 66 #[.val (.long q0), .second] [(.int (6 : Int32))])) _
                exact Steps.refl _)
              obtain ⟨fs, hr, hrun, hended, hW, hsame⟩ := X0.leave (v := some (.int (6 : Int32))) (fun h => by rw [Bd.returns] at h; cases h)
              refine ⟨_, _, K12.trans (retOut X0 hx Bd.returns rfl (Or.inl ⟨rfl, Or.inl rfl, _, rfl⟩) (hb hby d1_66) hr), hrun, hended, _, _, rfl, ?_, ⟨_, rfl⟩, hW, hsame.mono (by decide) (by first | decide | omega)⟩
              show Q_rm1 Z q0 h0 n0 _ s₁.heap _
              rw [e0]
              exact ⟨(by unfold f_rm1; rw [if_neg hc6, if_neg hc17, if_neg hc28, if_neg hc39, if_neg hc50, if_pos hc61]), N0, rfl⟩
            · have K13 : Steps p.tables e below _ (s₁.setTop (mkF m 73 #[.val (.long q0), .second] [(.int (lcmpW ((q0.toUInt64 >>> ((49 : Int32) &&& 0x3f).toInt64.toUInt64).toInt64) (0 : Int64)))])) := K11.trans (by
                show Steps p.tables e below (s₁.setTop (mkF m 61 #[.val (.long q0), .second] [(.int (lcmpW ((q0.toUInt64 >>> ((42 : Int32) &&& 0x3f).toInt64.toUInt64).toInt64) (0 : Int64)))])) _
                refine XS.ifYes X0.here hx rfl (pc0 := 61) (pc' := 67) rfl (hb hby d1_61) rfl ((if0 _ _).trans (feq (fun z => hc61 ((lw_eq ((q0.toUInt64 >>> ((42 : Int32) &&& 0x3f).toInt64.toUInt64).toInt64) (0 : Int64)).mp z))).2) (by decide) (by decide) ?_
                show Steps p.tables e below (s₁.setTop (mkF m 67 #[.val (.long q0), .second] [])) _
                refine XS.lloadN X0.here hx rfl (hb hby d1_67) rfl ?_
                show Steps p.tables e below (s₁.setTop (mkF m 68 #[.val (.long q0), .second] [(.long q0)])) _
                refine XS.bipush X0.here hx rfl (hb hby d1_68) ?_
                show Steps p.tables e below (s₁.setTop (mkF m 70 #[.val (.long q0), .second] [(.int (49 : Int32)), (.long q0)])) _
                refine XS.lushr X0.here hx rfl (hb hby d1_70) rfl ?_
                show Steps p.tables e below (s₁.setTop (mkF m 71 #[.val (.long q0), .second] [(.long ((q0.toUInt64 >>> ((49 : Int32) &&& 0x3f).toInt64.toUInt64).toInt64))])) _
                refine XS.lconst X0.here hx rfl (hb hby d1_71) ?_
                show Steps p.tables e below (s₁.setTop (mkF m 72 #[.val (.long q0), .second] [(.long (0 : Int64)), (.long ((q0.toUInt64 >>> ((49 : Int32) &&& 0x3f).toInt64.toUInt64).toInt64))])) _
                refine XS.lcmp X0.here hx rfl (hb hby d1_72) rfl ?_
                show Steps p.tables e below (s₁.setTop (mkF m 73 #[.val (.long q0), .second] [(.int (lcmpW ((q0.toUInt64 >>> ((49 : Int32) &&& 0x3f).toInt64.toUInt64).toInt64) (0 : Int64)))])) _
                exact Steps.refl _)
              by_cases hc73 : ((q0.toUInt64 >>> ((49 : Int32) &&& 0x3f).toInt64.toUInt64).toInt64) = (0 : Int64)
              · have K14 : Steps p.tables e below _ (s₁.setTop (mkF m 78 #[.val (.long q0), .second] [(.int (7 : Int32))])) := K13.trans (by
                  show Steps p.tables e below (s₁.setTop (mkF m 73 #[.val (.long q0), .second] [(.int (lcmpW ((q0.toUInt64 >>> ((49 : Int32) &&& 0x3f).toInt64.toUInt64).toInt64) (0 : Int64)))])) _
                  refine XS.ifNo X0.here hx rfl (hb hby d1_73) rfl ((if0 _ _).trans (teq ((lw_eq ((q0.toUInt64 >>> ((49 : Int32) &&& 0x3f).toInt64.toUInt64).toInt64) (0 : Int64)).mpr hc73)).2) ?_
                  show Steps p.tables e below (s₁.setTop (mkF m 76 #[.val (.long q0), .second] [])) _
                  refine XS.bipush X0.here hx rfl (hb hby d1_76) ?_
                  show Steps p.tables e below (s₁.setTop (mkF m 78 #[.val (.long q0), .second] [(.int (7 : Int32))])) _
                  exact Steps.refl _)
                obtain ⟨fs, hr, hrun, hended, hW, hsame⟩ := X0.leave (v := some (.int (7 : Int32))) (fun h => by rw [Bd.returns] at h; cases h)
                refine ⟨_, _, K14.trans (retOut X0 hx Bd.returns rfl (Or.inl ⟨rfl, Or.inl rfl, _, rfl⟩) (hb hby d1_78) hr), hrun, hended, _, _, rfl, ?_, ⟨_, rfl⟩, hW, hsame.mono (by decide) (by first | decide | omega)⟩
                show Q_rm1 Z q0 h0 n0 _ s₁.heap _
                rw [e0]
                exact ⟨(by unfold f_rm1; rw [if_neg hc6, if_neg hc17, if_neg hc28, if_neg hc39, if_neg hc50, if_neg hc61, if_pos hc73]), N0, rfl⟩
              · have K15 : Steps p.tables e below _ (s₁.setTop (mkF m 85 #[.val (.long q0), .second] [(.int (lcmpW ((q0.toUInt64 >>> ((56 : Int32) &&& 0x3f).toInt64.toUInt64).toInt64) (0 : Int64)))])) := K13.trans (by
                  show Steps p.tables e below (s₁.setTop (mkF m 73 #[.val (.long q0), .second] [(.int (lcmpW ((q0.toUInt64 >>> ((49 : Int32) &&& 0x3f).toInt64.toUInt64).toInt64) (0 : Int64)))])) _
                  refine XS.ifYes X0.here hx rfl (pc0 := 73) (pc' := 79) rfl (hb hby d1_73) rfl ((if0 _ _).trans (feq (fun z => hc73 ((lw_eq ((q0.toUInt64 >>> ((49 : Int32) &&& 0x3f).toInt64.toUInt64).toInt64) (0 : Int64)).mp z))).2) (by decide) (by decide) ?_
                  show Steps p.tables e below (s₁.setTop (mkF m 79 #[.val (.long q0), .second] [])) _
                  refine XS.lloadN X0.here hx rfl (hb hby d1_79) rfl ?_
                  show Steps p.tables e below (s₁.setTop (mkF m 80 #[.val (.long q0), .second] [(.long q0)])) _
                  refine XS.bipush X0.here hx rfl (hb hby d1_80) ?_
                  show Steps p.tables e below (s₁.setTop (mkF m 82 #[.val (.long q0), .second] [(.int (56 : Int32)), (.long q0)])) _
                  refine XS.lushr X0.here hx rfl (hb hby d1_82) rfl ?_
                  show Steps p.tables e below (s₁.setTop (mkF m 83 #[.val (.long q0), .second] [(.long ((q0.toUInt64 >>> ((56 : Int32) &&& 0x3f).toInt64.toUInt64).toInt64))])) _
                  refine XS.lconst X0.here hx rfl (hb hby d1_83) ?_
                  show Steps p.tables e below (s₁.setTop (mkF m 84 #[.val (.long q0), .second] [(.long (0 : Int64)), (.long ((q0.toUInt64 >>> ((56 : Int32) &&& 0x3f).toInt64.toUInt64).toInt64))])) _
                  refine XS.lcmp X0.here hx rfl (hb hby d1_84) rfl ?_
                  show Steps p.tables e below (s₁.setTop (mkF m 85 #[.val (.long q0), .second] [(.int (lcmpW ((q0.toUInt64 >>> ((56 : Int32) &&& 0x3f).toInt64.toUInt64).toInt64) (0 : Int64)))])) _
                  exact Steps.refl _)
                by_cases hc85 : ((q0.toUInt64 >>> ((56 : Int32) &&& 0x3f).toInt64.toUInt64).toInt64) = (0 : Int64)
                · have K16 : Steps p.tables e below _ (s₁.setTop (mkF m 90 #[.val (.long q0), .second] [(.int (8 : Int32))])) := K15.trans (by
                    show Steps p.tables e below (s₁.setTop (mkF m 85 #[.val (.long q0), .second] [(.int (lcmpW ((q0.toUInt64 >>> ((56 : Int32) &&& 0x3f).toInt64.toUInt64).toInt64) (0 : Int64)))])) _
                    refine XS.ifNo X0.here hx rfl (hb hby d1_85) rfl ((if0 _ _).trans (teq ((lw_eq ((q0.toUInt64 >>> ((56 : Int32) &&& 0x3f).toInt64.toUInt64).toInt64) (0 : Int64)).mpr hc85)).2) ?_
                    show Steps p.tables e below (s₁.setTop (mkF m 88 #[.val (.long q0), .second] [])) _
                    refine XS.bipush X0.here hx rfl (hb hby d1_88) ?_
                    show Steps p.tables e below (s₁.setTop (mkF m 90 #[.val (.long q0), .second] [(.int (8 : Int32))])) _
                    exact Steps.refl _)
                  obtain ⟨fs, hr, hrun, hended, hW, hsame⟩ := X0.leave (v := some (.int (8 : Int32))) (fun h => by rw [Bd.returns] at h; cases h)
                  refine ⟨_, _, K16.trans (retOut X0 hx Bd.returns rfl (Or.inl ⟨rfl, Or.inl rfl, _, rfl⟩) (hb hby d1_90) hr), hrun, hended, _, _, rfl, ?_, ⟨_, rfl⟩, hW, hsame.mono (by decide) (by first | decide | omega)⟩
                  show Q_rm1 Z q0 h0 n0 _ s₁.heap _
                  rw [e0]
                  exact ⟨(by unfold f_rm1; rw [if_neg hc6, if_neg hc17, if_neg hc28, if_neg hc39, if_neg hc50, if_neg hc61, if_neg hc73, if_pos hc85]), N0, rfl⟩
                · have K17 : Steps p.tables e below _ (s₁.setTop (mkF m 97 #[.val (.long q0), .second] [(.int (lcmpW ((q0.toUInt64 >>> ((63 : Int32) &&& 0x3f).toInt64.toUInt64).toInt64) (0 : Int64)))])) := K15.trans (by
                    show Steps p.tables e below (s₁.setTop (mkF m 85 #[.val (.long q0), .second] [(.int (lcmpW ((q0.toUInt64 >>> ((56 : Int32) &&& 0x3f).toInt64.toUInt64).toInt64) (0 : Int64)))])) _
                    refine XS.ifYes X0.here hx rfl (pc0 := 85) (pc' := 91) rfl (hb hby d1_85) rfl ((if0 _ _).trans (feq (fun z => hc85 ((lw_eq ((q0.toUInt64 >>> ((56 : Int32) &&& 0x3f).toInt64.toUInt64).toInt64) (0 : Int64)).mp z))).2) (by decide) (by decide) ?_
                    show Steps p.tables e below (s₁.setTop (mkF m 91 #[.val (.long q0), .second] [])) _
                    refine XS.lloadN X0.here hx rfl (hb hby d1_91) rfl ?_
                    show Steps p.tables e below (s₁.setTop (mkF m 92 #[.val (.long q0), .second] [(.long q0)])) _
                    refine XS.bipush X0.here hx rfl (hb hby d1_92) ?_
                    show Steps p.tables e below (s₁.setTop (mkF m 94 #[.val (.long q0), .second] [(.int (63 : Int32)), (.long q0)])) _
                    refine XS.lushr X0.here hx rfl (hb hby d1_94) rfl ?_
                    show Steps p.tables e below (s₁.setTop (mkF m 95 #[.val (.long q0), .second] [(.long ((q0.toUInt64 >>> ((63 : Int32) &&& 0x3f).toInt64.toUInt64).toInt64))])) _
                    refine XS.lconst X0.here hx rfl (hb hby d1_95) ?_
                    show Steps p.tables e below (s₁.setTop (mkF m 96 #[.val (.long q0), .second] [(.long (0 : Int64)), (.long ((q0.toUInt64 >>> ((63 : Int32) &&& 0x3f).toInt64.toUInt64).toInt64))])) _
                    refine XS.lcmp X0.here hx rfl (hb hby d1_96) rfl ?_
                    show Steps p.tables e below (s₁.setTop (mkF m 97 #[.val (.long q0), .second] [(.int (lcmpW ((q0.toUInt64 >>> ((63 : Int32) &&& 0x3f).toInt64.toUInt64).toInt64) (0 : Int64)))])) _
                    exact Steps.refl _)
                  by_cases hc97 : ((q0.toUInt64 >>> ((63 : Int32) &&& 0x3f).toInt64.toUInt64).toInt64) = (0 : Int64)
                  · have K18 : Steps p.tables e below _ (s₁.setTop (mkF m 102 #[.val (.long q0), .second] [(.int (9 : Int32))])) := K17.trans (by
                      show Steps p.tables e below (s₁.setTop (mkF m 97 #[.val (.long q0), .second] [(.int (lcmpW ((q0.toUInt64 >>> ((63 : Int32) &&& 0x3f).toInt64.toUInt64).toInt64) (0 : Int64)))])) _
                      refine XS.ifNo X0.here hx rfl (hb hby d1_97) rfl ((if0 _ _).trans (teq ((lw_eq ((q0.toUInt64 >>> ((63 : Int32) &&& 0x3f).toInt64.toUInt64).toInt64) (0 : Int64)).mpr hc97)).2) ?_
                      show Steps p.tables e below (s₁.setTop (mkF m 100 #[.val (.long q0), .second] [])) _
                      refine XS.bipush X0.here hx rfl (hb hby d1_100) ?_
                      show Steps p.tables e below (s₁.setTop (mkF m 102 #[.val (.long q0), .second] [(.int (9 : Int32))])) _
                      exact Steps.refl _)
                    obtain ⟨fs, hr, hrun, hended, hW, hsame⟩ := X0.leave (v := some (.int (9 : Int32))) (fun h => by rw [Bd.returns] at h; cases h)
                    refine ⟨_, _, K18.trans (retOut X0 hx Bd.returns rfl (Or.inl ⟨rfl, Or.inl rfl, _, rfl⟩) (hb hby d1_102) hr), hrun, hended, _, _, rfl, ?_, ⟨_, rfl⟩, hW, hsame.mono (by decide) (by first | decide | omega)⟩
                    show Q_rm1 Z q0 h0 n0 _ s₁.heap _
                    rw [e0]
                    exact ⟨(by unfold f_rm1; rw [if_neg hc6, if_neg hc17, if_neg hc28, if_neg hc39, if_neg hc50, if_neg hc61, if_neg hc73, if_neg hc85, if_pos hc97]), N0, rfl⟩
                  · have K19 : Steps p.tables e below _ (s₁.setTop (mkF m 105 #[.val (.long q0), .second] [(.int (10 : Int32))])) := K17.trans (by
                      show Steps p.tables e below (s₁.setTop (mkF m 97 #[.val (.long q0), .second] [(.int (lcmpW ((q0.toUInt64 >>> ((63 : Int32) &&& 0x3f).toInt64.toUInt64).toInt64) (0 : Int64)))])) _
                      refine XS.ifYes X0.here hx rfl (pc0 := 97) (pc' := 103) rfl (hb hby d1_97) rfl ((if0 _ _).trans (feq (fun z => hc97 ((lw_eq ((q0.toUInt64 >>> ((63 : Int32) &&& 0x3f).toInt64.toUInt64).toInt64) (0 : Int64)).mp z))).2) (by decide) (by decide) ?_
                      show Steps p.tables e below (s₁.setTop (mkF m 103 #[.val (.long q0), .second] [])) _
                      refine XS.bipush X0.here hx rfl (hb hby d1_103) ?_
                      show Steps p.tables e below (s₁.setTop (mkF m 105 #[.val (.long q0), .second] [(.int (10 : Int32))])) _
                      exact Steps.refl _)
                    obtain ⟨fs, hr, hrun, hended, hW, hsame⟩ := X0.leave (v := some (.int (10 : Int32))) (fun h => by rw [Bd.returns] at h; cases h)
                    refine ⟨_, _, K19.trans (retOut X0 hx Bd.returns rfl (Or.inl ⟨rfl, Or.inl rfl, _, rfl⟩) (hb hby d1_105) hr), hrun, hended, _, _, rfl, ?_, ⟨_, rfl⟩, hW, hsame.mono (by decide) (by first | decide | omega)⟩
                    show Q_rm1 Z q0 h0 n0 _ s₁.heap _
                    rw [e0]
                    exact ⟨(by unfold f_rm1; rw [if_neg hc6, if_neg hc17, if_neg hc28, if_neg hc39, if_neg hc50, if_neg hc61, if_neg hc73, if_neg hc85, if_neg hc97]), N0, rfl⟩
theorem d2_0 : decode method_3_code 0 = .ok (.iload_n 2, 1) := by decide +kernel
theorem d2_1 : decode method_3_code 1 = .ok (.iload_n 3, 1) := by decide +kernel
theorem d2_2 : decode method_3_code 2 = .ok (.if_icmp .le 9, 3) := by decide +kernel
theorem d2_5 : decode method_3_code 5 = .ok (.iload 4, 2) := by decide +kernel
theorem d2_7 : decode method_3_code 7 = .ok (.iconst 1, 1) := by decide +kernel
theorem d2_8 : decode method_3_code 8 = .ok (.ixor, 1) := by decide +kernel
theorem d2_9 : decode method_3_code 9 = .ok (.i2b, 1) := by decide +kernel
theorem d2_11 : decode method_3_code 11 = .ok (.iload_n 2, 1) := by decide +kernel
theorem d2_12 : decode method_3_code 12 = .ok (.iload_n 3, 1) := by decide +kernel
theorem d2_13 : decode method_3_code 13 = .ok (.if_icmp .ne 7, 3) := by decide +kernel
theorem d2_16 : decode method_3_code 16 = .ok (.iload 4, 2) := by decide +kernel
theorem d2_18 : decode method_3_code 18 = .ok (.i2b, 1) := by decide +kernel
theorem d2_20 : decode method_3_code 20 = .ok (.lload_n 0, 1) := by decide +kernel
theorem d2_21 : decode method_3_code 21 = .ok (.bipush 7, 2) := by decide +kernel
theorem d2_23 : decode method_3_code 23 = .ok (.iload_n 2, 1) := by decide +kernel
theorem d2_24 : decode method_3_code 24 = .ok (.imul, 1) := by decide +kernel
theorem d2_25 : decode method_3_code 25 = .ok (.lushr, 1) := by decide +kernel
theorem d2_26 : decode method_3_code 26 = .ok (.ldc2_w 7, 3) := by decide +kernel
theorem d2_29 : decode method_3_code 29 = .ok (.land, 1) := by decide +kernel
theorem d2_30 : decode method_3_code 30 = .ok (.l2i, 1) := by decide +kernel
theorem d2_31 : decode method_3_code 31 = .ok (.istore 5, 2) := by decide +kernel
theorem d2_33 : decode method_3_code 33 = .ok (.iload_n 2, 1) := by decide +kernel
theorem d2_34 : decode method_3_code 34 = .ok (.iload_n 3, 1) := by decide +kernel
theorem d2_35 : decode method_3_code 35 = .ok (.iconst 1, 1) := by decide +kernel
theorem d2_36 : decode method_3_code 36 = .ok (.isub, 1) := by decide +kernel
theorem d2_37 : decode method_3_code 37 = .ok (.if_icmp .ge 11, 3) := by decide +kernel
theorem d2_40 : decode method_3_code 40 = .ok (.iload 5, 2) := by decide +kernel
theorem d2_42 : decode method_3_code 42 = .ok (.sipush 128, 3) := by decide +kernel
theorem d2_45 : decode method_3_code 45 = .ok (.ior, 1) := by decide +kernel
theorem d2_46 : decode method_3_code 46 = .ok (.istore 5, 2) := by decide +kernel
theorem d2_48 : decode method_3_code 48 = .ok (.iload 5, 2) := by decide +kernel
theorem d2_50 : decode method_3_code 50 = .ok (.i2b, 1) := by decide +kernel
def f_rm2 (q0 : Int64) (p1 : Int32) (p2 : Int32) (p3 : Int32) : Int32 := (if p2 < p1 then (((p3 ^^^ (1 : Int32)).toInt8.toInt32).toInt8.toInt32) else (if p1 = p2 then ((p3.toInt8.toInt32).toInt8.toInt32) else (((if p1 < (p2 - (1 : Int32)) then (((((q0.toUInt64 >>> (((7 : Int32) * p1) &&& 0x3f).toInt64.toUInt64).toInt64) &&& (127 : Int64)).toInt32) ||| (128 : Int32)) else ((((q0.toUInt64 >>> (((7 : Int32) * p1) &&& 0x3f).toInt64.toUInt64).toInt64) &&& (127 : Int64)).toInt32)).toInt8.toInt32).toInt8.toInt32)))
def Q_rm2 (Z : State) (q0 : Int64) (p1 : Int32) (p2 : Int32) (p3 : Int32) (h0 : Heap) (n0 : Nat) (v : Option Value) (h : Heap) (L : List Loc) : Prop := v = some (.int (f_rm2 q0 p1 p2 p3)) ∧ Fr n0 L ∧ h = h0
theorem pn_2 : plainName "com/example/thin_gateway/thingateway/avro/AvroDecoderReadLongPinLaw" = true := by first | (simp [plainName, overriddenIn]; done) | decide +kernel
theorem ef_2 (m : MethodId) (x0 : Int64) (x1 : Int32) (x2 : Int32) (x3 : Int32) : entryFrame m #[(.long x0), (.int x1), (.int x2), (.int x3)] 6 = mkF m 0 #[.val (.long x0), .second, .val (.int x1), .val (.int x2), .val (.int x3), .unset] [] := by first | (simp [entryFrame, mkF, argsToLocals, Value.category]; done) | rfl
theorem d2_10 : decode method_3_code 10 = .ok (.ireturn, 1) := by decide +kernel
theorem d2_19 : decode method_3_code 19 = .ok (.ireturn, 1) := by decide +kernel
theorem d2_51 : decode method_3_code 51 = .ok (.ireturn, 1) := by decide +kernel
set_option maxRecDepth 65536 in
set_option maxHeartbeats 40000000 in
theorem rm2 (l : Launch) (Z : State) (a0 : Array Value) (hw : ∀ d ∈ tables_1, d.before a0 Z = true) (ws : List Jvm.Cond) (q0 : Int64) (p1 : Int32) (p2 : Int32) (p3 : Int32) (h0 : Heap) (n0 : Nat) (Z0 : n0 ≤ h0.size) :
    MetFree l (⟨"com/example/thin_gateway/thingateway/avro/AvroDecoderReadLongPinLaw", "at", "(JIII)B"⟩ : MethodName) (head1 (Jvm.Cond.code (⟨"com/example/thin_gateway/thingateway/avro/AvroDecoderReadLongPinLaw", "at", "(JIII)B"⟩ : MethodName) method_3_code 6 (some .byte) :: ws) ({ frames := 0, cells := 0, slots := 0, locals := 0 } : Room)) (fun a U => a = #[(.long q0), (.int p1), (.int p2), (.int p3)] ∧ Z.Warmed39 U.vm ∧ U.heap = h0) (fun _ _ _ _ _ => True) (fun _ U o U' => ∃ v L, o = .returned v ∧ Q_rm2 Z q0 p1 p2 p3 h0 n0 v U'.heap L ∧ FrameEnd U o U' L ({ frames := 0, cells := 0, slots := 0, locals := 0 } : Room).cells ({ frames := 0, cells := 0, slots := 0, locals := 0 } : Room).slots) := by
  refine MetFree.of_bodySF (plainFor_of_name pn_2) hisR ?_
  intro p e s m args below meth c s₁ Bd hml0 hP hK
  obtain ⟨rfl, hZ, hh⟩ := hP
  have hx := Bd.exec
  have hby := Bd.bytes
  have hml : c.maxLocals = 6 := hml0
  have hown : s.vm.findClass "com/example/thin_gateway/thingateway/avro/AvroDecoderReadLongPinLaw" = some m.cls := findClass_of_methodNamed Bd.named
  have hnm := (name_of_methodNamed Bd.named Bd.method).1
  have X0 : Stand p l e ({ frames := 0, cells := 0, slots := 0, locals := 0 } : Room) s m #[(.long q0), (.int p1), (.int p2), (.int p3)] below meth c s₁ [] 0 0 := Stand.of_body Bd
  have e0 : s₁.heap = h0 := by rw [← hh, Bd.state]; rfl
  have N0 := Fr.nil n0
  have Kp0 : Keep h0 h0 [] := Keep.refl _ _
  have K0 : Steps p.tables e below (s₁.setTop (entryFrame m #[(.long q0), (.int p1), (.int p2), (.int p3)] 6)) (s₁.setTop (mkF m 0 #[.val (.long q0), .second, .val (.int p1), .val (.int p2), .val (.int p3), .unset] [])) := castTop (ef_2 m q0 p1 p2 p3) (Steps.refl _)
  have K1 : Steps p.tables e below _ (s₁.setTop (mkF m 2 #[.val (.long q0), .second, .val (.int p1), .val (.int p2), .val (.int p3), .unset] [(.int p2), (.int p1)])) := K0.trans (by
    show Steps p.tables e below (s₁.setTop (mkF m 0 #[.val (.long q0), .second, .val (.int p1), .val (.int p2), .val (.int p3), .unset] [])) _
    refine XS.iloadN X0.here hx rfl (hb hby d2_0) rfl ?_
    show Steps p.tables e below (s₁.setTop (mkF m 1 #[.val (.long q0), .second, .val (.int p1), .val (.int p2), .val (.int p3), .unset] [(.int p1)])) _
    refine XS.iloadN X0.here hx rfl (hb hby d2_1) rfl ?_
    show Steps p.tables e below (s₁.setTop (mkF m 2 #[.val (.long q0), .second, .val (.int p1), .val (.int p2), .val (.int p3), .unset] [(.int p2), (.int p1)])) _
    exact Steps.refl _)
  by_cases hc2 : p2 < p1
  · have K2 : Steps p.tables e below _ (s₁.setTop (mkF m 10 #[.val (.long q0), .second, .val (.int p1), .val (.int p2), .val (.int p3), .unset] [(.int ((p3 ^^^ (1 : Int32)).toInt8.toInt32))])) := K1.trans (by
      show Steps p.tables e below (s₁.setTop (mkF m 2 #[.val (.long q0), .second, .val (.int p1), .val (.int p2), .val (.int p3), .unset] [(.int p2), (.int p1)])) _
      refine XS.icmpNo X0.here hx rfl (hb hby d2_2) rfl (tlt hc2).2.2.2 ?_
      show Steps p.tables e below (s₁.setTop (mkF m 5 #[.val (.long q0), .second, .val (.int p1), .val (.int p2), .val (.int p3), .unset] [])) _
      refine XS.iload X0.here hx rfl (hb hby d2_5) rfl ?_
      show Steps p.tables e below (s₁.setTop (mkF m 7 #[.val (.long q0), .second, .val (.int p1), .val (.int p2), .val (.int p3), .unset] [(.int p3)])) _
      refine XS.iconst X0.here hx rfl (hb hby d2_7) ?_
      show Steps p.tables e below (s₁.setTop (mkF m 8 #[.val (.long q0), .second, .val (.int p1), .val (.int p2), .val (.int p3), .unset] [(.int (1 : Int32)), (.int p3)])) _
      refine XS.ixor X0.here hx rfl (hb hby d2_8) rfl ?_
      show Steps p.tables e below (s₁.setTop (mkF m 9 #[.val (.long q0), .second, .val (.int p1), .val (.int p2), .val (.int p3), .unset] [(.int (p3 ^^^ (1 : Int32)))])) _
      refine XS.i2b X0.here hx rfl (hb hby d2_9) rfl ?_
      show Steps p.tables e below (s₁.setTop (mkF m 10 #[.val (.long q0), .second, .val (.int p1), .val (.int p2), .val (.int p3), .unset] [(.int ((p3 ^^^ (1 : Int32)).toInt8.toInt32))])) _
      exact Steps.refl _)
    obtain ⟨fs, hr, hrun, hended, hW, hsame⟩ := X0.leave (v := some (.int (((p3 ^^^ (1 : Int32)).toInt8.toInt32).toInt8.toInt32))) (fun h => by rw [Bd.returns] at h; cases h)
    refine ⟨_, _, K2.trans (retN X0 hx (t := .byte) Bd.returns (by simp) (hb hby d2_10) hr), hrun, hended, _, _, rfl, ?_, ⟨_, rfl⟩, hW, hsame.mono (by decide) (by first | decide | omega)⟩
    show Q_rm2 Z q0 p1 p2 p3 h0 n0 _ s₁.heap _
    rw [e0]
    exact ⟨(by unfold f_rm2; rw [if_pos hc2]), N0, rfl⟩
  · have K3 : Steps p.tables e below _ (s₁.setTop (mkF m 13 #[.val (.long q0), .second, .val (.int p1), .val (.int p2), .val (.int p3), .unset] [(.int p2), (.int p1)])) := K1.trans (by
      show Steps p.tables e below (s₁.setTop (mkF m 2 #[.val (.long q0), .second, .val (.int p1), .val (.int p2), .val (.int p3), .unset] [(.int p2), (.int p1)])) _
      refine XS.icmpYes X0.here hx rfl (pc0 := 2) (pc' := 11) rfl (hb hby d2_2) rfl (flt hc2).2.2.2 (by decide) (by decide) ?_
      show Steps p.tables e below (s₁.setTop (mkF m 11 #[.val (.long q0), .second, .val (.int p1), .val (.int p2), .val (.int p3), .unset] [])) _
      refine XS.iloadN X0.here hx rfl (hb hby d2_11) rfl ?_
      show Steps p.tables e below (s₁.setTop (mkF m 12 #[.val (.long q0), .second, .val (.int p1), .val (.int p2), .val (.int p3), .unset] [(.int p1)])) _
      refine XS.iloadN X0.here hx rfl (hb hby d2_12) rfl ?_
      show Steps p.tables e below (s₁.setTop (mkF m 13 #[.val (.long q0), .second, .val (.int p1), .val (.int p2), .val (.int p3), .unset] [(.int p2), (.int p1)])) _
      exact Steps.refl _)
    by_cases hc13 : p1 = p2
    · have K4 : Steps p.tables e below _ (s₁.setTop (mkF m 19 #[.val (.long q0), .second, .val (.int p1), .val (.int p2), .val (.int p3), .unset] [(.int (p3.toInt8.toInt32))])) := K3.trans (by
        show Steps p.tables e below (s₁.setTop (mkF m 13 #[.val (.long q0), .second, .val (.int p1), .val (.int p2), .val (.int p3), .unset] [(.int p2), (.int p1)])) _
        refine XS.icmpNo X0.here hx rfl (hb hby d2_13) rfl (teq hc13).2 ?_
        show Steps p.tables e below (s₁.setTop (mkF m 16 #[.val (.long q0), .second, .val (.int p1), .val (.int p2), .val (.int p3), .unset] [])) _
        refine XS.iload X0.here hx rfl (hb hby d2_16) rfl ?_
        show Steps p.tables e below (s₁.setTop (mkF m 18 #[.val (.long q0), .second, .val (.int p1), .val (.int p2), .val (.int p3), .unset] [(.int p3)])) _
        refine XS.i2b X0.here hx rfl (hb hby d2_18) rfl ?_
        show Steps p.tables e below (s₁.setTop (mkF m 19 #[.val (.long q0), .second, .val (.int p1), .val (.int p2), .val (.int p3), .unset] [(.int (p3.toInt8.toInt32))])) _
        exact Steps.refl _)
      obtain ⟨fs, hr, hrun, hended, hW, hsame⟩ := X0.leave (v := some (.int ((p3.toInt8.toInt32).toInt8.toInt32))) (fun h => by rw [Bd.returns] at h; cases h)
      refine ⟨_, _, K4.trans (retN X0 hx (t := .byte) Bd.returns (by simp) (hb hby d2_19) hr), hrun, hended, _, _, rfl, ?_, ⟨_, rfl⟩, hW, hsame.mono (by decide) (by first | decide | omega)⟩
      show Q_rm2 Z q0 p1 p2 p3 h0 n0 _ s₁.heap _
      rw [e0]
      exact ⟨(by unfold f_rm2; rw [if_neg hc2, if_pos hc13]), N0, rfl⟩
    · have K5 : Steps p.tables e below _ (s₁.setTop (mkF m 37 #[.val (.long q0), .second, .val (.int p1), .val (.int p2), .val (.int p3), .val (.int ((((q0.toUInt64 >>> (((7 : Int32) * p1) &&& 0x3f).toInt64.toUInt64).toInt64) &&& (127 : Int64)).toInt32))] [(.int (p2 - (1 : Int32))), (.int p1)])) := K3.trans (by
        show Steps p.tables e below (s₁.setTop (mkF m 13 #[.val (.long q0), .second, .val (.int p1), .val (.int p2), .val (.int p3), .unset] [(.int p2), (.int p1)])) _
        refine XS.icmpYes X0.here hx rfl (pc0 := 13) (pc' := 20) rfl (hb hby d2_13) rfl (feq hc13).2 (by decide) (by decide) ?_
        show Steps p.tables e below (s₁.setTop (mkF m 20 #[.val (.long q0), .second, .val (.int p1), .val (.int p2), .val (.int p3), .unset] [])) _
        refine XS.lloadN X0.here hx rfl (hb hby d2_20) rfl ?_
        show Steps p.tables e below (s₁.setTop (mkF m 21 #[.val (.long q0), .second, .val (.int p1), .val (.int p2), .val (.int p3), .unset] [(.long q0)])) _
        refine XS.bipush X0.here hx rfl (hb hby d2_21) ?_
        show Steps p.tables e below (s₁.setTop (mkF m 23 #[.val (.long q0), .second, .val (.int p1), .val (.int p2), .val (.int p3), .unset] [(.int (7 : Int32)), (.long q0)])) _
        refine XS.iloadN X0.here hx rfl (hb hby d2_23) rfl ?_
        show Steps p.tables e below (s₁.setTop (mkF m 24 #[.val (.long q0), .second, .val (.int p1), .val (.int p2), .val (.int p3), .unset] [(.int p1), (.int (7 : Int32)), (.long q0)])) _
        refine XS.imul X0.here hx rfl (hb hby d2_24) rfl ?_
        show Steps p.tables e below (s₁.setTop (mkF m 25 #[.val (.long q0), .second, .val (.int p1), .val (.int p2), .val (.int p3), .unset] [(.int ((7 : Int32) * p1)), (.long q0)])) _
        refine XS.lushr X0.here hx rfl (hb hby d2_25) rfl ?_
        show Steps p.tables e below (s₁.setTop (mkF m 26 #[.val (.long q0), .second, .val (.int p1), .val (.int p2), .val (.int p3), .unset] [(.long ((q0.toUInt64 >>> (((7 : Int32) * p1) &&& 0x3f).toInt64.toUInt64).toInt64))])) _
        refine X0.ldc2Long hx hown (mvT hZ (hw _ (List.mem_of_getElem? (i := 9) rfl))) (g := (mkF m 26 #[.val (.long q0), .second, .val (.int p1), .val (.int p2), .val (.int p3), .unset] [(.long ((q0.toUInt64 >>> (((7 : Int32) * p1) &&& 0x3f).toInt64.toUInt64).toInt64))])) rfl (hb hby d2_26) _ ?_
        show Steps p.tables e below (s₁.setTop (mkF m 29 #[.val (.long q0), .second, .val (.int p1), .val (.int p2), .val (.int p3), .unset] [(.long (127 : Int64)), (.long ((q0.toUInt64 >>> (((7 : Int32) * p1) &&& 0x3f).toInt64.toUInt64).toInt64))])) _
        refine XS.land X0.here hx rfl (hb hby d2_29) rfl ?_
        show Steps p.tables e below (s₁.setTop (mkF m 30 #[.val (.long q0), .second, .val (.int p1), .val (.int p2), .val (.int p3), .unset] [(.long (((q0.toUInt64 >>> (((7 : Int32) * p1) &&& 0x3f).toInt64.toUInt64).toInt64) &&& (127 : Int64)))])) _
        refine XS.l2i X0.here hx rfl (hb hby d2_30) rfl ?_
        show Steps p.tables e below (s₁.setTop (mkF m 31 #[.val (.long q0), .second, .val (.int p1), .val (.int p2), .val (.int p3), .unset] [(.int ((((q0.toUInt64 >>> (((7 : Int32) * p1) &&& 0x3f).toInt64.toUInt64).toInt64) &&& (127 : Int64)).toInt32))])) _
        refine XS.istore X0.here hx rfl (hb hby d2_31) rfl (l' := #[.val (.long q0), .second, .val (.int p1), .val (.int p2), .val (.int p3), .val (.int ((((q0.toUInt64 >>> (((7 : Int32) * p1) &&& 0x3f).toInt64.toUInt64).toInt64) &&& (127 : Int64)).toInt32))]) rfl ?_
        show Steps p.tables e below (s₁.setTop (mkF m 33 #[.val (.long q0), .second, .val (.int p1), .val (.int p2), .val (.int p3), .val (.int ((((q0.toUInt64 >>> (((7 : Int32) * p1) &&& 0x3f).toInt64.toUInt64).toInt64) &&& (127 : Int64)).toInt32))] [])) _
        refine XS.iloadN X0.here hx rfl (hb hby d2_33) rfl ?_
        show Steps p.tables e below (s₁.setTop (mkF m 34 #[.val (.long q0), .second, .val (.int p1), .val (.int p2), .val (.int p3), .val (.int ((((q0.toUInt64 >>> (((7 : Int32) * p1) &&& 0x3f).toInt64.toUInt64).toInt64) &&& (127 : Int64)).toInt32))] [(.int p1)])) _
        refine XS.iloadN X0.here hx rfl (hb hby d2_34) rfl ?_
        show Steps p.tables e below (s₁.setTop (mkF m 35 #[.val (.long q0), .second, .val (.int p1), .val (.int p2), .val (.int p3), .val (.int ((((q0.toUInt64 >>> (((7 : Int32) * p1) &&& 0x3f).toInt64.toUInt64).toInt64) &&& (127 : Int64)).toInt32))] [(.int p2), (.int p1)])) _
        refine XS.iconst X0.here hx rfl (hb hby d2_35) ?_
        show Steps p.tables e below (s₁.setTop (mkF m 36 #[.val (.long q0), .second, .val (.int p1), .val (.int p2), .val (.int p3), .val (.int ((((q0.toUInt64 >>> (((7 : Int32) * p1) &&& 0x3f).toInt64.toUInt64).toInt64) &&& (127 : Int64)).toInt32))] [(.int (1 : Int32)), (.int p2), (.int p1)])) _
        refine XS.isub X0.here hx rfl (hb hby d2_36) rfl ?_
        show Steps p.tables e below (s₁.setTop (mkF m 37 #[.val (.long q0), .second, .val (.int p1), .val (.int p2), .val (.int p3), .val (.int ((((q0.toUInt64 >>> (((7 : Int32) * p1) &&& 0x3f).toInt64.toUInt64).toInt64) &&& (127 : Int64)).toInt32))] [(.int (p2 - (1 : Int32))), (.int p1)])) _
        exact Steps.refl _)
      obtain ⟨v6_0, hv6_0, S6⟩ : ∃ (v6_0 : Int32), (if p1 < (p2 - (1 : Int32)) then (((((q0.toUInt64 >>> (((7 : Int32) * p1) &&& 0x3f).toInt64.toUInt64).toInt64) &&& (127 : Int64)).toInt32) ||| (128 : Int32)) else ((((q0.toUInt64 >>> (((7 : Int32) * p1) &&& 0x3f).toInt64.toUInt64).toInt64) &&& (127 : Int64)).toInt32)) = v6_0 ∧ Steps p.tables e below (s₁.setTop (mkF m 37 #[.val (.long q0), .second, .val (.int p1), .val (.int p2), .val (.int p3), .val (.int ((((q0.toUInt64 >>> (((7 : Int32) * p1) &&& 0x3f).toInt64.toUInt64).toInt64) &&& (127 : Int64)).toInt32))] [(.int (p2 - (1 : Int32))), (.int p1)])) (s₁.setTop (mkF m 48 #[.val (.long q0), .second, .val (.int p1), .val (.int p2), .val (.int p3), .val (.int v6_0)] [])) := by
        have R6 := Steps.refl (tb := p.tables) (e := e) (below := below) (s₁.setTop (mkF m 37 #[.val (.long q0), .second, .val (.int p1), .val (.int p2), .val (.int p3), .val (.int ((((q0.toUInt64 >>> (((7 : Int32) * p1) &&& 0x3f).toInt64.toUInt64).toInt64) &&& (127 : Int64)).toInt32))] [(.int (p2 - (1 : Int32))), (.int p1)]))
        by_cases hc37 : p1 < (p2 - (1 : Int32))
        · have K7 : Steps p.tables e below _ (s₁.setTop (mkF m 48 #[.val (.long q0), .second, .val (.int p1), .val (.int p2), .val (.int p3), .val (.int (((((q0.toUInt64 >>> (((7 : Int32) * p1) &&& 0x3f).toInt64.toUInt64).toInt64) &&& (127 : Int64)).toInt32) ||| (128 : Int32)))] [])) := R6.trans (by
            show Steps p.tables e below (s₁.setTop (mkF m 37 #[.val (.long q0), .second, .val (.int p1), .val (.int p2), .val (.int p3), .val (.int ((((q0.toUInt64 >>> (((7 : Int32) * p1) &&& 0x3f).toInt64.toUInt64).toInt64) &&& (127 : Int64)).toInt32))] [(.int (p2 - (1 : Int32))), (.int p1)])) _
            refine XS.icmpNo X0.here hx rfl (hb hby d2_37) rfl (tlt hc37).2.1 ?_
            show Steps p.tables e below (s₁.setTop (mkF m 40 #[.val (.long q0), .second, .val (.int p1), .val (.int p2), .val (.int p3), .val (.int ((((q0.toUInt64 >>> (((7 : Int32) * p1) &&& 0x3f).toInt64.toUInt64).toInt64) &&& (127 : Int64)).toInt32))] [])) _
            refine XS.iload X0.here hx rfl (hb hby d2_40) rfl ?_
            show Steps p.tables e below (s₁.setTop (mkF m 42 #[.val (.long q0), .second, .val (.int p1), .val (.int p2), .val (.int p3), .val (.int ((((q0.toUInt64 >>> (((7 : Int32) * p1) &&& 0x3f).toInt64.toUInt64).toInt64) &&& (127 : Int64)).toInt32))] [(.int ((((q0.toUInt64 >>> (((7 : Int32) * p1) &&& 0x3f).toInt64.toUInt64).toInt64) &&& (127 : Int64)).toInt32))])) _
            refine XS.sipush X0.here hx rfl (hb hby d2_42) ?_
            show Steps p.tables e below (s₁.setTop (mkF m 45 #[.val (.long q0), .second, .val (.int p1), .val (.int p2), .val (.int p3), .val (.int ((((q0.toUInt64 >>> (((7 : Int32) * p1) &&& 0x3f).toInt64.toUInt64).toInt64) &&& (127 : Int64)).toInt32))] [(.int (128 : Int32)), (.int ((((q0.toUInt64 >>> (((7 : Int32) * p1) &&& 0x3f).toInt64.toUInt64).toInt64) &&& (127 : Int64)).toInt32))])) _
            refine XS.ior X0.here hx rfl (hb hby d2_45) rfl ?_
            show Steps p.tables e below (s₁.setTop (mkF m 46 #[.val (.long q0), .second, .val (.int p1), .val (.int p2), .val (.int p3), .val (.int ((((q0.toUInt64 >>> (((7 : Int32) * p1) &&& 0x3f).toInt64.toUInt64).toInt64) &&& (127 : Int64)).toInt32))] [(.int (((((q0.toUInt64 >>> (((7 : Int32) * p1) &&& 0x3f).toInt64.toUInt64).toInt64) &&& (127 : Int64)).toInt32) ||| (128 : Int32)))])) _
            refine XS.istore X0.here hx rfl (hb hby d2_46) rfl (l' := #[.val (.long q0), .second, .val (.int p1), .val (.int p2), .val (.int p3), .val (.int (((((q0.toUInt64 >>> (((7 : Int32) * p1) &&& 0x3f).toInt64.toUInt64).toInt64) &&& (127 : Int64)).toInt32) ||| (128 : Int32)))]) rfl ?_
            show Steps p.tables e below (s₁.setTop (mkF m 48 #[.val (.long q0), .second, .val (.int p1), .val (.int p2), .val (.int p3), .val (.int (((((q0.toUInt64 >>> (((7 : Int32) * p1) &&& 0x3f).toInt64.toUInt64).toInt64) &&& (127 : Int64)).toInt32) ||| (128 : Int32)))] [])) _
            exact Steps.refl _)
          exact ⟨(((((q0.toUInt64 >>> (((7 : Int32) * p1) &&& 0x3f).toInt64.toUInt64).toInt64) &&& (127 : Int64)).toInt32) ||| (128 : Int32)), (by rw [if_pos hc37]), K7⟩
        · have K8 : Steps p.tables e below _ (s₁.setTop (mkF m 48 #[.val (.long q0), .second, .val (.int p1), .val (.int p2), .val (.int p3), .val (.int ((((q0.toUInt64 >>> (((7 : Int32) * p1) &&& 0x3f).toInt64.toUInt64).toInt64) &&& (127 : Int64)).toInt32))] [])) := R6.trans (by
            show Steps p.tables e below (s₁.setTop (mkF m 37 #[.val (.long q0), .second, .val (.int p1), .val (.int p2), .val (.int p3), .val (.int ((((q0.toUInt64 >>> (((7 : Int32) * p1) &&& 0x3f).toInt64.toUInt64).toInt64) &&& (127 : Int64)).toInt32))] [(.int (p2 - (1 : Int32))), (.int p1)])) _
            refine XS.icmpYes X0.here hx rfl (pc0 := 37) (pc' := 48) rfl (hb hby d2_37) rfl (flt hc37).2.1 (by decide) (by decide) ?_
            show Steps p.tables e below (s₁.setTop (mkF m 48 #[.val (.long q0), .second, .val (.int p1), .val (.int p2), .val (.int p3), .val (.int ((((q0.toUInt64 >>> (((7 : Int32) * p1) &&& 0x3f).toInt64.toUInt64).toInt64) &&& (127 : Int64)).toInt32))] [])) _
            exact Steps.refl _)
          exact ⟨((((q0.toUInt64 >>> (((7 : Int32) * p1) &&& 0x3f).toInt64.toUInt64).toInt64) &&& (127 : Int64)).toInt32), (by rw [if_neg hc37]), K8⟩
      have K9 := K5.trans S6
      have K10 : Steps p.tables e below _ (s₁.setTop (mkF m 51 #[.val (.long q0), .second, .val (.int p1), .val (.int p2), .val (.int p3), .val (.int v6_0)] [(.int (v6_0.toInt8.toInt32))])) := K9.trans (by
        show Steps p.tables e below (s₁.setTop (mkF m 48 #[.val (.long q0), .second, .val (.int p1), .val (.int p2), .val (.int p3), .val (.int v6_0)] [])) _
        refine XS.iload X0.here hx rfl (hb hby d2_48) rfl ?_
        show Steps p.tables e below (s₁.setTop (mkF m 50 #[.val (.long q0), .second, .val (.int p1), .val (.int p2), .val (.int p3), .val (.int v6_0)] [(.int v6_0)])) _
        refine XS.i2b X0.here hx rfl (hb hby d2_50) rfl ?_
        show Steps p.tables e below (s₁.setTop (mkF m 51 #[.val (.long q0), .second, .val (.int p1), .val (.int p2), .val (.int p3), .val (.int v6_0)] [(.int (v6_0.toInt8.toInt32))])) _
        exact Steps.refl _)
      subst hv6_0
      obtain ⟨fs, hr, hrun, hended, hW, hsame⟩ := X0.leave (v := some (.int (((if p1 < (p2 - (1 : Int32)) then (((((q0.toUInt64 >>> (((7 : Int32) * p1) &&& 0x3f).toInt64.toUInt64).toInt64) &&& (127 : Int64)).toInt32) ||| (128 : Int32)) else ((((q0.toUInt64 >>> (((7 : Int32) * p1) &&& 0x3f).toInt64.toUInt64).toInt64) &&& (127 : Int64)).toInt32)).toInt8.toInt32).toInt8.toInt32))) (fun h => by rw [Bd.returns] at h; cases h)
      refine ⟨_, _, K10.trans (retN X0 hx (t := .byte) Bd.returns (by simp) (hb hby d2_51) hr), hrun, hended, _, _, rfl, ?_, ⟨_, rfl⟩, hW, hsame.mono (by decide) (by first | decide | omega)⟩
      show Q_rm2 Z q0 p1 p2 p3 h0 n0 _ s₁.heap _
      rw [e0]
      exact ⟨(by unfold f_rm2; rw [if_neg hc2, if_neg hc13]), N0, rfl⟩
theorem own_nm {zz : Int64} {k : Int32} (h : f_rm1 zz = k) : (1 ≤ k.toInt ∧ k.toInt ≤ 10) ∧ zz.toInt % 18446744073709551616 < 2 ^ (7 * k.toInt.toNat) := by
  unfold f_rm1 at h
  by_cases c1 : ((zz.toUInt64 >>> ((7 : Int32) &&& 0x3f).toInt64.toUInt64).toInt64) = (0 : Int64)
  · rw [if_pos c1] at h
    subst h
    have t := Jvm.RoadKit.c_lushr zz (7 : Int32) 7 (by decide) (by decide)
    rw [c1, own_l0] at t
    refine ⟨by decide, ?_⟩
    show zz.toInt % 18446744073709551616 < (2 : Int) ^ 7
    omega
  rw [if_neg c1] at h
  by_cases c2 : ((zz.toUInt64 >>> ((14 : Int32) &&& 0x3f).toInt64.toUInt64).toInt64) = (0 : Int64)
  · rw [if_pos c2] at h
    subst h
    have t := Jvm.RoadKit.c_lushr zz (14 : Int32) 14 (by decide) (by decide)
    rw [c2, own_l0] at t
    refine ⟨by decide, ?_⟩
    show zz.toInt % 18446744073709551616 < (2 : Int) ^ 14
    omega
  rw [if_neg c2] at h
  by_cases c3 : ((zz.toUInt64 >>> ((21 : Int32) &&& 0x3f).toInt64.toUInt64).toInt64) = (0 : Int64)
  · rw [if_pos c3] at h
    subst h
    have t := Jvm.RoadKit.c_lushr zz (21 : Int32) 21 (by decide) (by decide)
    rw [c3, own_l0] at t
    refine ⟨by decide, ?_⟩
    show zz.toInt % 18446744073709551616 < (2 : Int) ^ 21
    omega
  rw [if_neg c3] at h
  by_cases c4 : ((zz.toUInt64 >>> ((28 : Int32) &&& 0x3f).toInt64.toUInt64).toInt64) = (0 : Int64)
  · rw [if_pos c4] at h
    subst h
    have t := Jvm.RoadKit.c_lushr zz (28 : Int32) 28 (by decide) (by decide)
    rw [c4, own_l0] at t
    refine ⟨by decide, ?_⟩
    show zz.toInt % 18446744073709551616 < (2 : Int) ^ 28
    omega
  rw [if_neg c4] at h
  by_cases c5 : ((zz.toUInt64 >>> ((35 : Int32) &&& 0x3f).toInt64.toUInt64).toInt64) = (0 : Int64)
  · rw [if_pos c5] at h
    subst h
    have t := Jvm.RoadKit.c_lushr zz (35 : Int32) 35 (by decide) (by decide)
    rw [c5, own_l0] at t
    refine ⟨by decide, ?_⟩
    show zz.toInt % 18446744073709551616 < (2 : Int) ^ 35
    omega
  rw [if_neg c5] at h
  by_cases c6 : ((zz.toUInt64 >>> ((42 : Int32) &&& 0x3f).toInt64.toUInt64).toInt64) = (0 : Int64)
  · rw [if_pos c6] at h
    subst h
    have t := Jvm.RoadKit.c_lushr zz (42 : Int32) 42 (by decide) (by decide)
    rw [c6, own_l0] at t
    refine ⟨by decide, ?_⟩
    show zz.toInt % 18446744073709551616 < (2 : Int) ^ 42
    omega
  rw [if_neg c6] at h
  by_cases c7 : ((zz.toUInt64 >>> ((49 : Int32) &&& 0x3f).toInt64.toUInt64).toInt64) = (0 : Int64)
  · rw [if_pos c7] at h
    subst h
    have t := Jvm.RoadKit.c_lushr zz (49 : Int32) 49 (by decide) (by decide)
    rw [c7, own_l0] at t
    refine ⟨by decide, ?_⟩
    show zz.toInt % 18446744073709551616 < (2 : Int) ^ 49
    omega
  rw [if_neg c7] at h
  by_cases c8 : ((zz.toUInt64 >>> ((56 : Int32) &&& 0x3f).toInt64.toUInt64).toInt64) = (0 : Int64)
  · rw [if_pos c8] at h
    subst h
    have t := Jvm.RoadKit.c_lushr zz (56 : Int32) 56 (by decide) (by decide)
    rw [c8, own_l0] at t
    refine ⟨by decide, ?_⟩
    show zz.toInt % 18446744073709551616 < (2 : Int) ^ 56
    omega
  rw [if_neg c8] at h
  by_cases c9 : ((zz.toUInt64 >>> ((63 : Int32) &&& 0x3f).toInt64.toUInt64).toInt64) = (0 : Int64)
  · rw [if_pos c9] at h
    subst h
    have t := Jvm.RoadKit.c_lushr zz (63 : Int32) 63 (by decide) (by decide)
    rw [c9, own_l0] at t
    refine ⟨by decide, ?_⟩
    show zz.toInt % 18446744073709551616 < (2 : Int) ^ 63
    omega
  rw [if_neg c9] at h
  subst h
  refine ⟨by decide, ?_⟩
  show zz.toInt % 18446744073709551616 < (2 : Int) ^ 70
  omega
theorem own_el2 {zz : Int64} {m tl r11 r18 r25 r32 r39 r46 r53 r60 r67 r74 r81 : Int32} {vs : List Value} (hr11 : (f_rm2 zz (0 : Int32) m tl) = r11) (hr18 : (f_rm2 zz (1 : Int32) m tl) = r18) (hr25 : (f_rm2 zz (2 : Int32) m tl) = r25) (hr32 : (f_rm2 zz (3 : Int32) m tl) = r32) (hr39 : (f_rm2 zz (4 : Int32) m tl) = r39) (hr46 : (f_rm2 zz (5 : Int32) m tl) = r46) (hr53 : (f_rm2 zz (6 : Int32) m tl) = r53) (hr60 : (f_rm2 zz (7 : Int32) m tl) = r60) (hr67 : (f_rm2 zz (8 : Int32) m tl) = r67) (hr74 : (f_rm2 zz (9 : Int32) m tl) = r74) (hr81 : (f_rm2 zz (10 : Int32) m tl) = r81) (hvs : [(.int (r11.toInt8.toInt32)), (.int (r18.toInt8.toInt32)), (.int (r25.toInt8.toInt32)), (.int (r32.toInt8.toInt32)), (.int (r39.toInt8.toInt32)), (.int (r46.toInt8.toInt32)), (.int (r53.toInt8.toInt32)), (.int (r60.toInt8.toInt32)), (.int (r67.toInt8.toInt32)), (.int (r74.toInt8.toInt32)), (.int (r81.toInt8.toInt32))] = vs) : ∀ q : Int32, 0 ≤ q.toInt → q.toInt < 11 → vs.getD q.toNatClampNeg (.int (0 : Int32)) = .int (own_by vs q) ∧ own_by vs q = (f_rm2 zz q m tl).toInt8.toInt32 := by
  intro q h1 h2
  have hc : q = 0 ∨ q = 1 ∨ q = 2 ∨ q = 3 ∨ q = 4 ∨ q = 5 ∨ q = 6 ∨ q = 7 ∨ q = 8 ∨ q = 9 ∨ q = 10 := by
    simp only [← Int32.toInt_inj]
    show q.toInt = 0 ∨ q.toInt = 1 ∨ q.toInt = 2 ∨ q.toInt = 3 ∨ q.toInt = 4 ∨ q.toInt = 5 ∨ q.toInt = 6 ∨ q.toInt = 7 ∨ q.toInt = 8 ∨ q.toInt = 9 ∨ q.toInt = 10
    omega
  subst hvs
  rcases hc with e | e | e | e | e | e | e | e | e | e | e
  · subst e; rw [hr11]; exact own_e _ (0 : Int32) 0 (r11.toInt8.toInt32) (by decide) rfl
  · subst e; rw [hr18]; exact own_e _ (1 : Int32) 1 (r18.toInt8.toInt32) (by decide) rfl
  · subst e; rw [hr25]; exact own_e _ (2 : Int32) 2 (r25.toInt8.toInt32) (by decide) rfl
  · subst e; rw [hr32]; exact own_e _ (3 : Int32) 3 (r32.toInt8.toInt32) (by decide) rfl
  · subst e; rw [hr39]; exact own_e _ (4 : Int32) 4 (r39.toInt8.toInt32) (by decide) rfl
  · subst e; rw [hr46]; exact own_e _ (5 : Int32) 5 (r46.toInt8.toInt32) (by decide) rfl
  · subst e; rw [hr53]; exact own_e _ (6 : Int32) 6 (r53.toInt8.toInt32) (by decide) rfl
  · subst e; rw [hr60]; exact own_e _ (7 : Int32) 7 (r60.toInt8.toInt32) (by decide) rfl
  · subst e; rw [hr67]; exact own_e _ (8 : Int32) 8 (r67.toInt8.toInt32) (by decide) rfl
  · subst e; rw [hr74]; exact own_e _ (9 : Int32) 9 (r74.toInt8.toInt32) (by decide) rfl
  · subst e; rw [hr81]; exact own_e _ (10 : Int32) 10 (r81.toInt8.toInt32) (by decide) rfl
theorem own_ok2 {zz : Int64} {m tl : Int32} {vs : List Value} (El : ∀ q : Int32, 0 ≤ q.toInt → q.toInt < 11 → vs.getD q.toNatClampNeg (.int (0 : Int32)) = .int (own_by vs q) ∧ own_by vs q = (f_rm2 zz q m tl).toInt8.toInt32) (hm : 1 ≤ m.toInt ∧ m.toInt ≤ 10) : own_okb vs 0 m.toInt (zz.toInt % 18446744073709551616) := by
  intro i q hi hq
  obtain ⟨a, b⟩ := El q (by omega) (by omega)
  refine ⟨a, ?_⟩
  have e1 := own_z1
  have s := Jvm.RoadKit.c_isub m (1 : Int32)
  have s' := Jvm.RoadKit.rng32 (m - (1 : Int32))
  have n1 : ¬ (m < q) := by rw [own_lt32]; omega
  have n2 : ¬ (q = m) := by intro c; rw [c] at hq; omega
  have ei : q.toInt.toNat = i := by omega
  rw [b]
  unfold f_rm2
  rw [if_neg n1, if_neg n2]
  by_cases c : q < (m - (1 : Int32))
  · have c' := own_lt32.mp c
    rw [if_pos c]
    simp only [own_bb]
    rw [own_bytehi zz q (by omega), ei, if_pos (by omega)]
  · have c' : ¬ q.toInt < (m - (1 : Int32)).toInt := fun h => c (own_lt32.mpr h)
    rw [if_neg c]
    simp only [own_bb]
    rw [own_bytelo zz q (by omega), ei, if_neg (by omega), Int.add_zero]
theorem own_ok2b {zz : Int64} {m tl : Int32} {vs : List Value} (El : ∀ q : Int32, 0 ≤ q.toInt → q.toInt < 11 → vs.getD q.toNatClampNeg (.int (0 : Int32)) = .int (own_by vs q) ∧ own_by vs q = (f_rm2 zz q m tl).toInt8.toInt32) (hm : 1 ≤ m.toInt ∧ m.toInt ≤ 10) (ht : 0 ≤ tl.toInt ∧ tl.toInt < 128) : own_okb vs m.toInt 1 tl.toInt := by
  intro i q hi hq
  have i0 : i = 0 := by omega
  subst i0
  have eq : q = m := Int32.toInt_inj.mp (by omega)
  subst eq
  obtain ⟨a, b⟩ := El q (by omega) (by omega)
  refine ⟨a, ?_⟩
  rw [b]
  unfold f_rm2
  rw [if_neg Int32.lt_irrefl, if_pos rfl]
  simp only [own_bb]
  rw [own_b255, if_neg (by omega)]
  rw [own_p0]
  omega
def own_V (tl : Int32) : Int64 := (if (tl % (2 : Int32)) = (0 : Int32) then ((tl / (2 : Int32)).toInt64) else (-(((tl + (1 : Int32)) / (2 : Int32)).toInt64)))
theorem own_Vi (tl : Int32) (ht : 0 ≤ tl.toInt ∧ tl.toInt < 128) : (own_V tl).toInt = (if tl.toInt % 2 = 0 then tl.toInt / 2 else -(tl.toInt / 2) - 1) := by
  have e1 := own_z1
  have e2 := own_z2
  have r := (Jvm.RoadKit.c_irem tl (2 : Int32) 2 rfl).1 ht.1
  unfold own_V
  by_cases c : tl.toInt % 2 = 0
  · have c' : (tl % (2 : Int32)) = (0 : Int32) := Int32.toInt_inj.mp (by rw [r, own_z0]; exact c)
    have d := (Jvm.RoadKit.c_idiv tl (2 : Int32) 2 rfl (by decide)).1 ht.1
    rw [if_pos c', if_pos c, Jvm.RoadKit.c_i2l, d]
  · have c' : ¬ (tl % (2 : Int32)) = (0 : Int32) := by intro h; rw [h, own_z0] at r; omega
    have a := Jvm.RoadKit.c_iadd tl (1 : Int32)
    have a' := Jvm.RoadKit.rng32 (tl + (1 : Int32))
    have d := (Jvm.RoadKit.c_idiv (tl + (1 : Int32)) (2 : Int32) 2 rfl (by decide)).1 (by omega)
    have i := Jvm.RoadKit.c_i2l ((tl + (1 : Int32)) / (2 : Int32))
    have n := Jvm.RoadKit.c_lneg ((tl + (1 : Int32)) / (2 : Int32)).toInt64
    have n' := Jvm.RoadKit.rng64 (-((tl + (1 : Int32)) / (2 : Int32)).toInt64)
    rw [if_neg c', if_neg c]
    omega
theorem own_main2 {v zz : Int64} {k p1 p2 m tl : Int32} {vs : List Value} (hzz : ((v <<< ((1 : Int32) &&& 0x3f).toInt64) ^^^ (v >>> ((63 : Int32) &&& 0x3f).toInt64)) = zz) (hk : f_rm1 zz = k) (hm : (k + ((p1 &&& (2147483647 : Int32)) % ((11 : Int32) - k))) = m) (ht : (p2 &&& (127 : Int32)) = tl) (El : ∀ q : Int32, 0 ≤ q.toInt → q.toInt < 11 → vs.getD q.toNatClampNeg (.int (0 : Int32)) = .int (own_by vs q) ∧ own_by vs q = (f_rm2 zz q m tl).toInt8.toInt32) :
    rok 10 vs (11 : Int32) (0 : Int32) (0 : Int32) ∧ (rl 10 vs (0 : Int32) (0 : Int64) (0 : Int32)).2 = m ∧ f_rm6 vs (0 : Int32) = v ∧ rok 10 vs (11 : Int32) m (0 : Int32) ∧ (rl 10 vs m (0 : Int64) (0 : Int32)).2 = m + (1 : Int32) ∧ f_rm6 vs m = own_V tl ∧ (1 ≤ m.toInt ∧ m.toInt ≤ 10) := by
  obtain ⟨k1, k2⟩ := own_nm hk
  have mr := own_mr k p1 m k1 hm
  have m1 : 1 ≤ m.toInt ∧ m.toInt ≤ 10 := by omega
  have t1 := Jvm.RoadKit.c_mask p2 (127 : Int32) 7 (by decide) (by decide)
  rw [ht] at t1
  have t2 : 0 ≤ tl.toInt ∧ tl.toInt < 128 := by rw [t1]; omega
  have e1 := own_z1
  have e11 := own_z11
  have uz := own_zzl v
  rw [hzz] at uz
  have gv := Jvm.RoadKit.rng64 v
  obtain ⟨a1, a2, a3⟩ := own_rd0 vs (11 : Int32) (0 : Int32) 0 m.toInt (zz.toInt % 18446744073709551616) (by omega) (by omega) (by omega) (by omega) (by omega) (own_ok2 El m1) rfl
  obtain ⟨b1, b2, b3⟩ := own_rd0 vs (11 : Int32) m m.toInt 1 tl.toInt (by omega) (by omega) (by omega) (by omega) (by omega) (own_ok2b El m1 t2) rfl
  have w1 := own_uz (rl 10 vs (0 : Int32) (0 : Int64) (0 : Int32)).1
  have w2 := own_uz (rl 10 vs m (0 : Int64) (0 : Int32)).1
  have pm := own_pm (zz.toInt % 18446744073709551616) k.toInt.toNat m.toInt.toNat (by omega) k2
  rw [Int.emod_eq_of_lt (by omega) pm] at a3
  have b3' : (rl 10 vs m (0 : Int64) (0 : Int32)).1.toInt % 18446744073709551616 = tl.toInt := by
    rw [b3, own_p1']; omega
  have ga := Jvm.RoadKit.c_iadd m (1 : Int32)
  have gb := Jvm.RoadKit.rng32 (m + (1 : Int32))
  refine ⟨a1, Int32.toInt_inj.mp (by omega), ?_, b1, Int32.toInt_inj.mp (by omega), ?_, m1⟩
  · apply Int64.toInt_inj.mp
    unfold f_rm6
    rw [w1]
    by_cases c : 0 ≤ v.toInt
    · rw [if_pos c] at uz
      rw [if_pos (by omega)]; omega
    · rw [if_neg c] at uz
      rw [if_neg (by omega)]; omega
  · apply Int64.toInt_inj.mp
    unfold f_rm6
    rw [w2, own_Vi tl t2]
    by_cases c : tl.toInt % 2 = 0
    · rw [if_pos c, if_pos (by omega)]; omega
    · rw [if_neg c, if_neg (by omega)]; omega

theorem pd_1 : parseMethodDescriptor "(J)I" = some ⟨[.long], some .int⟩ := by decide +kernel
theorem pd_2 : parseMethodDescriptor "(JIII)B" = some ⟨[.long, .int, .int, .int], some .byte⟩ := by decide +kernel
theorem pd_3 : parseMethodDescriptor "([B)V" = some ⟨[(.array .byte)], none⟩ := by decide +kernel
theorem pd_4 : parseMethodDescriptor "()J" = some ⟨[], some .long⟩ := by decide +kernel
theorem pd_5 : parseMethodDescriptor "()Z" = some ⟨[], some .boolean⟩ := by decide +kernel
def Q_rm0 (n0 : Nat) (v : Option Value) (L : List Loc) : Prop := v = some (.int 1) ∧ Fr n0 L
theorem pn_0 : plainName "com/example/thin_gateway/thingateway/avro/AvroDecoderReadLongPinLaw" = true := by first | (simp [plainName, overriddenIn]; done) | decide +kernel
theorem ef_0 (m : MethodId) (x0 : Int64) (x1 : Int32) (x2 : Int32) : entryFrame m #[(.long x0), (.int x1), (.int x2)] maxLocals = mkF m 0 #[.val (.long x0), .second, .val (.int x1), .val (.int x2), .unset, .unset, .unset, .unset, .unset, .unset, .unset, .unset, .unset, .unset, .unset, .unset, .unset] [] := by first | (simp [entryFrame, mkF, argsToLocals, Value.category, maxLocals]; done) | rfl
set_option maxRecDepth 65536 in
set_option maxHeartbeats 4000000 in
theorem own_law_0 (q0 : Int64) (p1 : Int32) (p2 : Int32) (zz : Int64) (r4 : Int32) (mm : Int32) (tl : Int32) (r14 : Int32) (r21 : Int32) (r28 : Int32) (r35 : Int32) (r42 : Int32) (r49 : Int32) (r56 : Int32) (r63 : Int32) (r70 : Int32) (r77 : Int32) (r84 : Int32) (vsb : List Value) (r100 : Int64) (r106 : Int64) (v109_0 : Int64) (v114_0 : Int32) (hzz : ((q0 <<< ((1 : Int32) &&& 0x3f).toInt64) ^^^ (q0 >>> ((63 : Int32) &&& 0x3f).toInt64)) = zz) (hr4 : (f_rm1 zz) = r4) (hmm : (r4 + ((p1 &&& (2147483647 : Int32)) % ((11 : Int32) - r4))) = mm) (htl : (p2 &&& (127 : Int32)) = tl) (hr14 : (f_rm2 zz (0 : Int32) mm tl) = r14) (hr21 : (f_rm2 zz (1 : Int32) mm tl) = r21) (hr28 : (f_rm2 zz (2 : Int32) mm tl) = r28) (hr35 : (f_rm2 zz (3 : Int32) mm tl) = r35) (hr42 : (f_rm2 zz (4 : Int32) mm tl) = r42) (hr49 : (f_rm2 zz (5 : Int32) mm tl) = r49) (hr56 : (f_rm2 zz (6 : Int32) mm tl) = r56) (hr63 : (f_rm2 zz (7 : Int32) mm tl) = r63) (hr70 : (f_rm2 zz (8 : Int32) mm tl) = r70) (hr77 : (f_rm2 zz (9 : Int32) mm tl) = r77) (hr84 : (f_rm2 zz (10 : Int32) mm tl) = r84) (hvsb : [(.int (r14.toInt8.toInt32)), (.int (r21.toInt8.toInt32)), (.int (r28.toInt8.toInt32)), (.int (r35.toInt8.toInt32)), (.int (r42.toInt8.toInt32)), (.int (r49.toInt8.toInt32)), (.int (r56.toInt8.toInt32)), (.int (r63.toInt8.toInt32)), (.int (r70.toInt8.toInt32)), (.int (r77.toInt8.toInt32)), (.int (r84.toInt8.toInt32))] = vsb) (hr100 : (f_rm6 vsb (0 : Int32)) = r100) (hr106 : (f_rm6 vsb mm) = r106) (hv109_0 : (if (tl % (2 : Int32)) = (0 : Int32) then ((tl / (2 : Int32)).toInt64) else (-(((tl + (1 : Int32)) / (2 : Int32)).toInt64))) = v109_0) (hv114_0 : (if r100 = q0 then (if r106 = v109_0 then (if ((if (mm + (1 : Int32)) = (11 : Int32) then (1 : Int32) else (0 : Int32)) &&& 1) = (if mm = (10 : Int32) then (1 : Int32) else (0 : Int32)) then (1 : Int32) else (0 : Int32)) else (0 : Int32)) else (0 : Int32)) = v114_0) : (v114_0 &&& 1) = (1 : Int32) := by
  have hM := own_main2 hzz hr4 hmm htl (own_el2 hr14 hr21 hr28 hr35 hr42 hr49 hr56 hr63 hr70 hr77 hr84 hvsb)
  have e1 : r100 = q0 := hr100.symm.trans hM.2.2.1
  have e2 : r106 = v109_0 := (hr106.symm.trans hM.2.2.2.2.2.1).trans hv109_0
  rw [if_pos e1, if_pos e2] at hv114_0
  have m1 := hM.2.2.2.2.2.2
  have ga := Jvm.RoadKit.c_iadd mm (1 : Int32)
  have gb := Jvm.RoadKit.rng32 (mm + (1 : Int32))
  have z1 := own_z1
  have z10 := own_z10
  have z11 := own_z11
  subst hv114_0
  by_cases c : mm = (10 : Int32)
  · rw [if_pos c]
    have d : (mm + (1 : Int32)) = (11 : Int32) := by rw [c] <;> rfl
    rw [if_pos d] <;> rfl
  · rw [if_neg c]
    have d : ¬ (mm + (1 : Int32)) = (11 : Int32) := by
      intro h; apply c; apply Int32.toInt_inj.mp; rw [h] at ga; omega
    rw [if_neg d] <;> rfl
set_option maxRecDepth 65536 in
set_option maxHeartbeats 40000000 in
theorem rm0 (l : Launch) (Z : State) (a0 : Array Value) (hw : ∀ d ∈ tables_1, d.before a0 Z = true) (ws : List Jvm.Cond) (q0 : Int64) (p1 : Int32) (p2 : Int32) (h0 : Heap) (n0 : Nat) (Z0 : n0 ≤ h0.size) :
    MetFree l x (head1 (Jvm.Cond.code x code maxLocals ret :: ws) room_1) (fun a U => a = #[(.long q0), (.int p1), (.int p2)] ∧ Z.Warmed39 U.vm ∧ U.heap = h0) (fun _ _ _ _ _ => True) (fun _ U o U' => ∃ v L, o = .returned v ∧ Q_rm0 n0 v L ∧ ReturnedEndW U o U' L 4 37) := by
  refine MetFree.of_bodySF (plainFor_of_name pn_0) hisR ?_
  intro p e s m args below meth c s₁ Bd hml0 hP hK
  obtain ⟨rfl, hZ, hh⟩ := hP
  have hx := Bd.exec
  have hby := Bd.bytes
  have hml : c.maxLocals = 17 := hml0
  have hown : s.vm.findClass "com/example/thin_gateway/thingateway/avro/AvroDecoderReadLongPinLaw" = some m.cls := findClass_of_methodNamed Bd.named
  have hnm := (name_of_methodNamed Bd.named Bd.method).1
  have X0 : Stand p l e room_1 s m #[(.long q0), (.int p1), (.int p2)] below meth c s₁ [] 0 0 := Stand.of_body Bd
  have e0 : s₁.heap = h0 := by rw [← hh, Bd.state]; rfl
  have N0 := Fr.nil n0
  have K0 : Steps p.tables e below (s₁.setTop (entryFrame m #[(.long q0), (.int p1), (.int p2)] maxLocals)) (s₁.setTop (mkF m 0 #[.val (.long q0), .second, .val (.int p1), .val (.int p2), .unset, .unset, .unset, .unset, .unset, .unset, .unset, .unset, .unset, .unset, .unset, .unset, .unset] [])) := castTop (ef_0 m q0 p1 p2) (Steps.refl _)
  have K1 : Steps p.tables e below _ (s₁.setTop (mkF m 8 #[.val (.long q0), .second, .val (.int p1), .val (.int p2), .unset, .unset, .unset, .unset, .unset, .unset, .unset, .unset, .unset, .unset, .unset, .unset, .unset] [(.long ((q0 <<< ((1 : Int32) &&& 0x3f).toInt64) ^^^ (q0 >>> ((63 : Int32) &&& 0x3f).toInt64)))])) := K0.trans (by
    refine XS.lloadN X0.here hx rfl (hb hby at_0) rfl ?_
    refine XS.iconst X0.here hx rfl (hb hby at_1) ?_
    refine XS.lshl X0.here hx rfl (hb hby at_2) rfl ?_
    refine XS.lloadN X0.here hx rfl (hb hby at_3) rfl ?_
    refine XS.bipush X0.here hx rfl (hb hby at_4) ?_
    show Steps p.tables e below (s₁.setTop (mkF m 6 #[.val (.long q0), .second, .val (.int p1), .val (.int p2), .unset, .unset, .unset, .unset, .unset, .unset, .unset, .unset, .unset, .unset, .unset, .unset, .unset] [(.int (63 : Int32)), (.long q0), (.long (q0 <<< ((1 : Int32) &&& 0x3f).toInt64))])) _
    refine XS.lshr X0.here hx rfl (hb hby at_6) rfl ?_
    refine XS.lxor X0.here hx rfl (hb hby at_7) rfl ?_
    exact Steps.refl _)
  obtain ⟨zz, hzz⟩ : ∃ z : Int64, ((q0 <<< ((1 : Int32) &&& 0x3f).toInt64) ^^^ (q0 >>> ((63 : Int32) &&& 0x3f).toInt64)) = z := ⟨_, rfl⟩
  rw [hzz] at K1
  have K2 : Steps p.tables e below _ (s₁.setTop (mkF m 12 #[.val (.long q0), .second, .val (.int p1), .val (.int p2), .val (.long zz), .second, .unset, .unset, .unset, .unset, .unset, .unset, .unset, .unset, .unset, .unset, .unset] [(.long zz)])) := K1.trans (by
    refine XS.lstore X0.here hx rfl (hb hby at_8) rfl (l' := #[.val (.long q0), .second, .val (.int p1), .val (.int p2), .val (.long zz), .second, .unset, .unset, .unset, .unset, .unset, .unset, .unset, .unset, .unset, .unset, .unset]) rfl ?_
    refine XS.lload X0.here hx rfl (hb hby at_10) rfl ?_
    exact Steps.refl _)
  obtain ⟨_, _, ⟨T3, L3, k3, n3⟩, -, X3, ⟨Lc3, hQ3, l3, y3, z3⟩, st3⟩ := Jvm.LawKit.callS X0 hx (y := (⟨"com/example/thin_gateway/thingateway/avro/AvroDecoderReadLongPinLaw", "canonicalLength", "(J)I"⟩ : MethodName)) hown (mvT hZ (hw _ (List.mem_of_getElem? (i := 0) rfl))) (mvT hZ (hw _ (List.mem_of_getElem? (i := 1) rfl))) (mvT hZ (hw _ (List.mem_of_getElem? (i := 2) rfl))) (mvT hZ (hw _ (List.mem_of_getElem? (i := 3) rfl))) (by decide) (backOf (W := 0) (rm1 l Z a0 hw [] zz h0 n0 Z0 ) hZ (hw _ (List.mem_of_getElem? (i := 3) rfl)) (hw _ (List.mem_of_getElem? (i := 2) rfl)) (by decide) (by decide)) (g := (mkF m 12 #[.val (.long q0), .second, .val (.int p1), .val (.int p2), .val (.long zz), .second, .unset, .unset, .unset, .unset, .unset, .unset, .unset, .unset, .unset, .unset, .unset] [(.long zz)])) rfl (by rw [hml]; rfl) (argsL := [(.long zz)]) (rest := []) (lenOf pd_1 rfl) rfl (by show 2 * 0 + _ ≤ _; exact Nat.le_of_eq rfl) (hb hby at_12) (fun _ _ => ⟨rfl, e0, (by decide : 0 + 0 ≤ _), (by decide : 0 + 0 ≤ _)⟩)
  dsimp only [Pt.U, Pt.locs, Pt.cells, Pt.slots] at X3 l3 y3 z3 st3 hQ3
  subst l3 y3 z3
  obtain ⟨rfl, N3, eh3⟩ := hQ3
  have N3' := Fr.app N0 N3
  obtain ⟨Lg3, Xg3, Ng3⟩ : ∃ Lg, Stand p l e room_1 s m #[(.long q0), (.int p1), (.int p2)] below meth c T3 Lg 0 0 ∧ Fr n0 Lg := ⟨_, X3, N3'⟩
  have K5 : Steps p.tables e below _ (T3.setTop (mkF m 15 #[.val (.long q0), .second, .val (.int p1), .val (.int p2), .val (.long zz), .second, .unset, .unset, .unset, .unset, .unset, .unset, .unset, .unset, .unset, .unset, .unset] [(.int (f_rm1 zz))])) := K2.trans (st3 _ (Steps.refl _))
  obtain ⟨r4, hr4⟩ : ∃ z : Int32, (f_rm1 zz) = z := ⟨_, rfl⟩
  rw [hr4] at K5
  have K6 : Steps p.tables e below _ (T3.setTop (mkF m 30 #[.val (.long q0), .second, .val (.int p1), .val (.int p2), .val (.long zz), .second, .val (.int r4), .unset, .unset, .unset, .unset, .unset, .unset, .unset, .unset, .unset, .unset] [(.int (r4 + ((p1 &&& (2147483647 : Int32)) % ((11 : Int32) - r4))))])) := K5.trans (by
    refine XS.istore Xg3.here hx rfl (hb hby at_15) rfl (l' := #[.val (.long q0), .second, .val (.int p1), .val (.int p2), .val (.long zz), .second, .val (.int r4), .unset, .unset, .unset, .unset, .unset, .unset, .unset, .unset, .unset, .unset]) rfl ?_
    refine XS.iload Xg3.here hx rfl (hb hby at_17) rfl ?_
    refine XS.iloadN Xg3.here hx rfl (hb hby at_19) rfl ?_
    refine Xg3.ldcInt hx hown (mvT hZ (hw _ (List.mem_of_getElem? (i := 4) rfl))) (g := (mkF m 20 #[.val (.long q0), .second, .val (.int p1), .val (.int p2), .val (.long zz), .second, .val (.int r4), .unset, .unset, .unset, .unset, .unset, .unset, .unset, .unset, .unset, .unset] [(.int p1), (.int r4)])) rfl (hb hby at_20) _ ?_
    refine XS.iand Xg3.here hx rfl (hb hby at_22) rfl ?_
    show Steps p.tables e below (T3.setTop (mkF m 23 #[.val (.long q0), .second, .val (.int p1), .val (.int p2), .val (.long zz), .second, .val (.int r4), .unset, .unset, .unset, .unset, .unset, .unset, .unset, .unset, .unset, .unset] [(.int (p1 &&& (2147483647 : Int32))), (.int r4)])) _
    refine XS.bipush Xg3.here hx rfl (hb hby at_23) ?_
    refine XS.iload Xg3.here hx rfl (hb hby at_25) rfl ?_
    refine XS.isub Xg3.here hx rfl (hb hby at_27) rfl ?_
    refine iremM Xg3 hx rfl (hb hby at_28) rfl (own_nz _ (own_nm hr4).1) ?_
    refine XS.iadd Xg3.here hx rfl (hb hby at_29) rfl ?_
    show Steps p.tables e below (T3.setTop (mkF m 30 #[.val (.long q0), .second, .val (.int p1), .val (.int p2), .val (.long zz), .second, .val (.int r4), .unset, .unset, .unset, .unset, .unset, .unset, .unset, .unset, .unset, .unset] [(.int (r4 + ((p1 &&& (2147483647 : Int32)) % ((11 : Int32) - r4))))])) _
    exact Steps.refl _)
  obtain ⟨mm, hmm⟩ : ∃ z : Int32, (r4 + ((p1 &&& (2147483647 : Int32)) % ((11 : Int32) - r4))) = z := ⟨_, rfl⟩
  rw [hmm] at K6
  have K7 : Steps p.tables e below _ (T3.setTop (mkF m 36 #[.val (.long q0), .second, .val (.int p1), .val (.int p2), .val (.long zz), .second, .val (.int r4), .val (.int mm), .unset, .unset, .unset, .unset, .unset, .unset, .unset, .unset, .unset] [(.int (p2 &&& (127 : Int32)))])) := K6.trans (by
    refine XS.istore Xg3.here hx rfl (hb hby at_30) rfl (l' := #[.val (.long q0), .second, .val (.int p1), .val (.int p2), .val (.long zz), .second, .val (.int r4), .val (.int mm), .unset, .unset, .unset, .unset, .unset, .unset, .unset, .unset, .unset]) rfl ?_
    refine XS.iloadN Xg3.here hx rfl (hb hby at_32) rfl ?_
    refine XS.bipush Xg3.here hx rfl (hb hby at_33) ?_
    refine XS.iand Xg3.here hx rfl (hb hby at_35) rfl ?_
    exact Steps.refl _)
  obtain ⟨tl, htl⟩ : ∃ z : Int32, (p2 &&& (127 : Int32)) = z := ⟨_, rfl⟩
  rw [htl] at K7
  have K8 : Steps p.tables e below _ (T3.setTop (mkF m 40 #[.val (.long q0), .second, .val (.int p1), .val (.int p2), .val (.long zz), .second, .val (.int r4), .val (.int mm), .val (.int tl), .unset, .unset, .unset, .unset, .unset, .unset, .unset, .unset] [(.int (11 : Int32))])) := K7.trans (by
    refine XS.istore Xg3.here hx rfl (hb hby at_36) rfl (l' := #[.val (.long q0), .second, .val (.int p1), .val (.int p2), .val (.long zz), .second, .val (.int r4), .val (.int mm), .val (.int tl), .unset, .unset, .unset, .unset, .unset, .unset, .unset, .unset]) rfl ?_
    refine XS.bipush Xg3.here hx rfl (hb hby at_38) ?_
    exact Steps.refl _)
  obtain ⟨T9, h9, k9, b9, X9, e9, E9, g9, V9, A9, st9⟩ := own_newB Xg3 hx hZ (hw _ (List.mem_of_getElem? (i := 5) rfl)) eh3 (g := (mkF m 40 #[.val (.long q0), .second, .val (.int p1), .val (.int p2), .val (.long zz), .second, .val (.int r4), .val (.int mm), .val (.int tl), .unset, .unset, .unset, .unset, .unset, .unset, .unset, .unset] [(.int (11 : Int32))])) rfl (hb hby at_40) rfl (by decide) 11 (by decide) (by decide) (by decide) (by decide)
  have ge_b9 : n0 ≤ b9 := Nat.le_trans Z0 (Nat.le_of_eq g9.symm)
  have K10 : Steps p.tables e below _ (T9.setTop (mkF m 42 #[.val (.long q0), .second, .val (.int p1), .val (.int p2), .val (.long zz), .second, .val (.int r4), .val (.int mm), .val (.int tl), .unset, .unset, .unset, .unset, .unset, .unset, .unset, .unset] [(.ref b9)])) := K8.trans st9
  have Vn9 : Arv Z h9 b9 k9 .byte (11 : Int32) [(.int (0 : Int32)), (.int (0 : Int32)), (.int (0 : Int32)), (.int (0 : Int32)), (.int (0 : Int32)), (.int (0 : Int32)), (.int (0 : Int32)), (.int (0 : Int32)), (.int (0 : Int32)), (.int (0 : Int32)), (.int (0 : Int32))] (.int (0 : Int32)) := V9
  have K11 : Steps p.tables e below _ (T9.setTop (mkF m 54 #[.val (.long q0), .second, .val (.int p1), .val (.int p2), .val (.long zz), .second, .val (.int r4), .val (.int mm), .val (.int tl), .val (.ref b9), .unset, .unset, .unset, .unset, .unset, .unset, .unset] [(.int tl), (.int mm), (.int (0 : Int32)), (.long zz), (.int (0 : Int32)), (.ref b9)])) := K10.trans (by
    refine XS.astore X9.here hx rfl (hb hby at_42) rfl rfl (l' := #[.val (.long q0), .second, .val (.int p1), .val (.int p2), .val (.long zz), .second, .val (.int r4), .val (.int mm), .val (.int tl), .val (.ref b9), .unset, .unset, .unset, .unset, .unset, .unset, .unset]) rfl ?_
    refine XS.aload X9.here hx rfl (hb hby at_44) rfl rfl ?_
    refine XS.iconst X9.here hx rfl (hb hby at_46) ?_
    refine XS.lload X9.here hx rfl (hb hby at_47) rfl ?_
    refine XS.iconst X9.here hx rfl (hb hby at_49) ?_
    show Steps p.tables e below (T9.setTop (mkF m 50 #[.val (.long q0), .second, .val (.int p1), .val (.int p2), .val (.long zz), .second, .val (.int r4), .val (.int mm), .val (.int tl), .val (.ref b9), .unset, .unset, .unset, .unset, .unset, .unset, .unset] [(.int (0 : Int32)), (.long zz), (.int (0 : Int32)), (.ref b9)])) _
    refine XS.iload X9.here hx rfl (hb hby at_50) rfl ?_
    refine XS.iload X9.here hx rfl (hb hby at_52) rfl ?_
    exact Steps.refl _)
  have Z_12 : n0 ≤ h9.size := (Nat.le_trans Z0 E9.1)
  obtain ⟨_, _, ⟨T13, L13, k13, n13⟩, -, X13, ⟨Lc13, hQ13, l13, y13, z13⟩, st13⟩ := Jvm.LawKit.callS X9 hx (y := (⟨"com/example/thin_gateway/thingateway/avro/AvroDecoderReadLongPinLaw", "at", "(JIII)B"⟩ : MethodName)) hown (mvT hZ (hw _ (List.mem_of_getElem? (i := 6) rfl))) (mvT hZ (hw _ (List.mem_of_getElem? (i := 7) rfl))) (mvT hZ (hw _ (List.mem_of_getElem? (i := 2) rfl))) (mvT hZ (hw _ (List.mem_of_getElem? (i := 8) rfl))) (by decide) (backOf (W := 2) (rm2 l Z a0 hw [] zz (0 : Int32) mm tl h9 n0 Z_12 ) hZ (hw _ (List.mem_of_getElem? (i := 8) rfl)) (hw _ (List.mem_of_getElem? (i := 2) rfl)) (by decide) (by decide)) (g := (mkF m 54 #[.val (.long q0), .second, .val (.int p1), .val (.int p2), .val (.long zz), .second, .val (.int r4), .val (.int mm), .val (.int tl), .val (.ref b9), .unset, .unset, .unset, .unset, .unset, .unset, .unset] [(.int tl), (.int mm), (.int (0 : Int32)), (.long zz), (.int (0 : Int32)), (.ref b9)])) rfl (by rw [hml]; rfl) (argsL := [(.long zz), (.int (0 : Int32)), (.int mm), (.int tl)]) (rest := [(.int (0 : Int32)), (.ref b9)]) (lenOf pd_2 rfl) rfl (by show 2 * 0 + _ ≤ _; exact Nat.le_of_eq rfl) (hb hby at_54) (fun _ _ => ⟨rfl, e9, (by decide : 1 + 0 ≤ _), (by decide : 11 + 0 ≤ _)⟩)
  dsimp only [Pt.U, Pt.locs, Pt.cells, Pt.slots] at X13 l13 y13 z13 st13 hQ13
  subst l13 y13 z13
  obtain ⟨rfl, N13, eh13⟩ := hQ13
  have N13' := Fr.app Ng3 N13
  obtain ⟨Lg13, Xg13, Ng13⟩ : ∃ Lg, Stand p l e room_1 s m #[(.long q0), (.int p1), (.int p2)] below meth c T13 Lg 1 11 ∧ Fr n0 Lg := ⟨_, X13, N13'⟩
  have K15 : Steps p.tables e below _ (T13.setTop (mkF m 57 #[.val (.long q0), .second, .val (.int p1), .val (.int p2), .val (.long zz), .second, .val (.int r4), .val (.int mm), .val (.int tl), .val (.ref b9), .unset, .unset, .unset, .unset, .unset, .unset, .unset] [(.int (f_rm2 zz (0 : Int32) mm tl)), (.int (0 : Int32)), (.ref b9)])) := K11.trans (st13 _ (Steps.refl _))
  obtain ⟨r14, hr14⟩ : ∃ z : Int32, (f_rm2 zz (0 : Int32) mm tl) = z := ⟨_, rfl⟩
  rw [hr14] at K15
  obtain ⟨T16, h16, X16, e16, W16, V16, st16⟩ := own_stB Xg13 hx hZ eh13 Vn9 (j := (0 : Int32)) ⟨by decide, by decide⟩ 0 rfl (Nat.le_of_ble_eq_true rfl) (g := (mkF m 57 #[.val (.long q0), .second, .val (.int p1), .val (.int p2), .val (.long zz), .second, .val (.int r4), .val (.int mm), .val (.int tl), .val (.ref b9), .unset, .unset, .unset, .unset, .unset, .unset, .unset] [(.int r14), (.int (0 : Int32)), (.ref b9)])) rfl rfl (hb hby at_57)
  have K17 : Steps p.tables e below _ (T16.setTop (mkF m 58 #[.val (.long q0), .second, .val (.int p1), .val (.int p2), .val (.long zz), .second, .val (.int r4), .val (.int mm), .val (.int tl), .val (.ref b9), .unset, .unset, .unset, .unset, .unset, .unset, .unset] [])) := K15.trans st16
  have Vw16 : Arv Z h16 b9 k9 .byte (11 : Int32) [(.int (r14.toInt8.toInt32)), (.int (0 : Int32)), (.int (0 : Int32)), (.int (0 : Int32)), (.int (0 : Int32)), (.int (0 : Int32)), (.int (0 : Int32)), (.int (0 : Int32)), (.int (0 : Int32)), (.int (0 : Int32)), (.int (0 : Int32))] (.int (0 : Int32)) := V16
  have N16 := Fr.snoc X16 Ng13 ge_b9
  obtain ⟨Lg16, Xg16, Ng16⟩ : ∃ Lg, Stand p l e room_1 s m #[(.long q0), (.int p1), (.int p2)] below meth c T16 Lg 1 11 ∧ Fr n0 Lg := ⟨_, X16, N16⟩
  have K18 : Steps p.tables e below _ (T16.setTop (mkF m 68 #[.val (.long q0), .second, .val (.int p1), .val (.int p2), .val (.long zz), .second, .val (.int r4), .val (.int mm), .val (.int tl), .val (.ref b9), .unset, .unset, .unset, .unset, .unset, .unset, .unset] [(.int tl), (.int mm), (.int (1 : Int32)), (.long zz), (.int (1 : Int32)), (.ref b9)])) := K17.trans (by
    refine XS.aload Xg16.here hx rfl (hb hby at_58) rfl rfl ?_
    refine XS.iconst Xg16.here hx rfl (hb hby at_60) ?_
    refine XS.lload Xg16.here hx rfl (hb hby at_61) rfl ?_
    refine XS.iconst Xg16.here hx rfl (hb hby at_63) ?_
    refine XS.iload Xg16.here hx rfl (hb hby at_64) rfl ?_
    show Steps p.tables e below (T16.setTop (mkF m 66 #[.val (.long q0), .second, .val (.int p1), .val (.int p2), .val (.long zz), .second, .val (.int r4), .val (.int mm), .val (.int tl), .val (.ref b9), .unset, .unset, .unset, .unset, .unset, .unset, .unset] [(.int mm), (.int (1 : Int32)), (.long zz), (.int (1 : Int32)), (.ref b9)])) _
    refine XS.iload Xg16.here hx rfl (hb hby at_66) rfl ?_
    exact Steps.refl _)
  have Z_19 : n0 ≤ h16.size := (Nat.le_trans Z_12 (Keep.of_wr W16).1)
  obtain ⟨_, _, ⟨T20, L20, k20, n20⟩, -, X20, ⟨Lc20, hQ20, l20, y20, z20⟩, st20⟩ := Jvm.LawKit.callS Xg16 hx (y := (⟨"com/example/thin_gateway/thingateway/avro/AvroDecoderReadLongPinLaw", "at", "(JIII)B"⟩ : MethodName)) hown (mvT hZ (hw _ (List.mem_of_getElem? (i := 6) rfl))) (mvT hZ (hw _ (List.mem_of_getElem? (i := 7) rfl))) (mvT hZ (hw _ (List.mem_of_getElem? (i := 2) rfl))) (mvT hZ (hw _ (List.mem_of_getElem? (i := 8) rfl))) (by decide) (backOf (W := 2) (rm2 l Z a0 hw [] zz (1 : Int32) mm tl h16 n0 Z_19 ) hZ (hw _ (List.mem_of_getElem? (i := 8) rfl)) (hw _ (List.mem_of_getElem? (i := 2) rfl)) (by decide) (by decide)) (g := (mkF m 68 #[.val (.long q0), .second, .val (.int p1), .val (.int p2), .val (.long zz), .second, .val (.int r4), .val (.int mm), .val (.int tl), .val (.ref b9), .unset, .unset, .unset, .unset, .unset, .unset, .unset] [(.int tl), (.int mm), (.int (1 : Int32)), (.long zz), (.int (1 : Int32)), (.ref b9)])) rfl (by rw [hml]; rfl) (argsL := [(.long zz), (.int (1 : Int32)), (.int mm), (.int tl)]) (rest := [(.int (1 : Int32)), (.ref b9)]) (lenOf pd_2 rfl) rfl (by show 2 * 0 + _ ≤ _; exact Nat.le_of_eq rfl) (hb hby at_68) (fun _ _ => ⟨rfl, e16, (by decide : 1 + 0 ≤ _), (by decide : 11 + 0 ≤ _)⟩)
  dsimp only [Pt.U, Pt.locs, Pt.cells, Pt.slots] at X20 l20 y20 z20 st20 hQ20
  subst l20 y20 z20
  obtain ⟨rfl, N20, eh20⟩ := hQ20
  have N20' := Fr.app Ng16 N20
  obtain ⟨Lg20, Xg20, Ng20⟩ : ∃ Lg, Stand p l e room_1 s m #[(.long q0), (.int p1), (.int p2)] below meth c T20 Lg 1 11 ∧ Fr n0 Lg := ⟨_, X20, N20'⟩
  have K22 : Steps p.tables e below _ (T20.setTop (mkF m 71 #[.val (.long q0), .second, .val (.int p1), .val (.int p2), .val (.long zz), .second, .val (.int r4), .val (.int mm), .val (.int tl), .val (.ref b9), .unset, .unset, .unset, .unset, .unset, .unset, .unset] [(.int (f_rm2 zz (1 : Int32) mm tl)), (.int (1 : Int32)), (.ref b9)])) := K18.trans (st20 _ (Steps.refl _))
  obtain ⟨r21, hr21⟩ : ∃ z : Int32, (f_rm2 zz (1 : Int32) mm tl) = z := ⟨_, rfl⟩
  rw [hr21] at K22
  obtain ⟨T23, h23, X23, e23, W23, V23, st23⟩ := own_stB Xg20 hx hZ eh20 Vw16 (j := (1 : Int32)) ⟨by decide, by decide⟩ 1 rfl (Nat.le_of_ble_eq_true rfl) (g := (mkF m 71 #[.val (.long q0), .second, .val (.int p1), .val (.int p2), .val (.long zz), .second, .val (.int r4), .val (.int mm), .val (.int tl), .val (.ref b9), .unset, .unset, .unset, .unset, .unset, .unset, .unset] [(.int r21), (.int (1 : Int32)), (.ref b9)])) rfl rfl (hb hby at_71)
  have K24 : Steps p.tables e below _ (T23.setTop (mkF m 72 #[.val (.long q0), .second, .val (.int p1), .val (.int p2), .val (.long zz), .second, .val (.int r4), .val (.int mm), .val (.int tl), .val (.ref b9), .unset, .unset, .unset, .unset, .unset, .unset, .unset] [])) := K22.trans st23
  have Vw23 : Arv Z h23 b9 k9 .byte (11 : Int32) [(.int (r14.toInt8.toInt32)), (.int (r21.toInt8.toInt32)), (.int (0 : Int32)), (.int (0 : Int32)), (.int (0 : Int32)), (.int (0 : Int32)), (.int (0 : Int32)), (.int (0 : Int32)), (.int (0 : Int32)), (.int (0 : Int32)), (.int (0 : Int32))] (.int (0 : Int32)) := V23
  have N23 := Fr.snoc X23 Ng20 ge_b9
  obtain ⟨Lg23, Xg23, Ng23⟩ : ∃ Lg, Stand p l e room_1 s m #[(.long q0), (.int p1), (.int p2)] below meth c T23 Lg 1 11 ∧ Fr n0 Lg := ⟨_, X23, N23⟩
  have K25 : Steps p.tables e below _ (T23.setTop (mkF m 82 #[.val (.long q0), .second, .val (.int p1), .val (.int p2), .val (.long zz), .second, .val (.int r4), .val (.int mm), .val (.int tl), .val (.ref b9), .unset, .unset, .unset, .unset, .unset, .unset, .unset] [(.int tl), (.int mm), (.int (2 : Int32)), (.long zz), (.int (2 : Int32)), (.ref b9)])) := K24.trans (by
    refine XS.aload Xg23.here hx rfl (hb hby at_72) rfl rfl ?_
    refine XS.iconst Xg23.here hx rfl (hb hby at_74) ?_
    refine XS.lload Xg23.here hx rfl (hb hby at_75) rfl ?_
    refine XS.iconst Xg23.here hx rfl (hb hby at_77) ?_
    refine XS.iload Xg23.here hx rfl (hb hby at_78) rfl ?_
    show Steps p.tables e below (T23.setTop (mkF m 80 #[.val (.long q0), .second, .val (.int p1), .val (.int p2), .val (.long zz), .second, .val (.int r4), .val (.int mm), .val (.int tl), .val (.ref b9), .unset, .unset, .unset, .unset, .unset, .unset, .unset] [(.int mm), (.int (2 : Int32)), (.long zz), (.int (2 : Int32)), (.ref b9)])) _
    refine XS.iload Xg23.here hx rfl (hb hby at_80) rfl ?_
    exact Steps.refl _)
  have Z_26 : n0 ≤ h23.size := (Nat.le_trans Z_19 (Keep.of_wr W23).1)
  obtain ⟨_, _, ⟨T27, L27, k27, n27⟩, -, X27, ⟨Lc27, hQ27, l27, y27, z27⟩, st27⟩ := Jvm.LawKit.callS Xg23 hx (y := (⟨"com/example/thin_gateway/thingateway/avro/AvroDecoderReadLongPinLaw", "at", "(JIII)B"⟩ : MethodName)) hown (mvT hZ (hw _ (List.mem_of_getElem? (i := 6) rfl))) (mvT hZ (hw _ (List.mem_of_getElem? (i := 7) rfl))) (mvT hZ (hw _ (List.mem_of_getElem? (i := 2) rfl))) (mvT hZ (hw _ (List.mem_of_getElem? (i := 8) rfl))) (by decide) (backOf (W := 2) (rm2 l Z a0 hw [] zz (2 : Int32) mm tl h23 n0 Z_26 ) hZ (hw _ (List.mem_of_getElem? (i := 8) rfl)) (hw _ (List.mem_of_getElem? (i := 2) rfl)) (by decide) (by decide)) (g := (mkF m 82 #[.val (.long q0), .second, .val (.int p1), .val (.int p2), .val (.long zz), .second, .val (.int r4), .val (.int mm), .val (.int tl), .val (.ref b9), .unset, .unset, .unset, .unset, .unset, .unset, .unset] [(.int tl), (.int mm), (.int (2 : Int32)), (.long zz), (.int (2 : Int32)), (.ref b9)])) rfl (by rw [hml]; rfl) (argsL := [(.long zz), (.int (2 : Int32)), (.int mm), (.int tl)]) (rest := [(.int (2 : Int32)), (.ref b9)]) (lenOf pd_2 rfl) rfl (by show 2 * 0 + _ ≤ _; exact Nat.le_of_eq rfl) (hb hby at_82) (fun _ _ => ⟨rfl, e23, (by decide : 1 + 0 ≤ _), (by decide : 11 + 0 ≤ _)⟩)
  dsimp only [Pt.U, Pt.locs, Pt.cells, Pt.slots] at X27 l27 y27 z27 st27 hQ27
  subst l27 y27 z27
  obtain ⟨rfl, N27, eh27⟩ := hQ27
  have N27' := Fr.app Ng23 N27
  obtain ⟨Lg27, Xg27, Ng27⟩ : ∃ Lg, Stand p l e room_1 s m #[(.long q0), (.int p1), (.int p2)] below meth c T27 Lg 1 11 ∧ Fr n0 Lg := ⟨_, X27, N27'⟩
  have K29 : Steps p.tables e below _ (T27.setTop (mkF m 85 #[.val (.long q0), .second, .val (.int p1), .val (.int p2), .val (.long zz), .second, .val (.int r4), .val (.int mm), .val (.int tl), .val (.ref b9), .unset, .unset, .unset, .unset, .unset, .unset, .unset] [(.int (f_rm2 zz (2 : Int32) mm tl)), (.int (2 : Int32)), (.ref b9)])) := K25.trans (st27 _ (Steps.refl _))
  obtain ⟨r28, hr28⟩ : ∃ z : Int32, (f_rm2 zz (2 : Int32) mm tl) = z := ⟨_, rfl⟩
  rw [hr28] at K29
  obtain ⟨T30, h30, X30, e30, W30, V30, st30⟩ := own_stB Xg27 hx hZ eh27 Vw23 (j := (2 : Int32)) ⟨by decide, by decide⟩ 2 rfl (Nat.le_of_ble_eq_true rfl) (g := (mkF m 85 #[.val (.long q0), .second, .val (.int p1), .val (.int p2), .val (.long zz), .second, .val (.int r4), .val (.int mm), .val (.int tl), .val (.ref b9), .unset, .unset, .unset, .unset, .unset, .unset, .unset] [(.int r28), (.int (2 : Int32)), (.ref b9)])) rfl rfl (hb hby at_85)
  have K31 : Steps p.tables e below _ (T30.setTop (mkF m 86 #[.val (.long q0), .second, .val (.int p1), .val (.int p2), .val (.long zz), .second, .val (.int r4), .val (.int mm), .val (.int tl), .val (.ref b9), .unset, .unset, .unset, .unset, .unset, .unset, .unset] [])) := K29.trans st30
  have Vw30 : Arv Z h30 b9 k9 .byte (11 : Int32) [(.int (r14.toInt8.toInt32)), (.int (r21.toInt8.toInt32)), (.int (r28.toInt8.toInt32)), (.int (0 : Int32)), (.int (0 : Int32)), (.int (0 : Int32)), (.int (0 : Int32)), (.int (0 : Int32)), (.int (0 : Int32)), (.int (0 : Int32)), (.int (0 : Int32))] (.int (0 : Int32)) := V30
  have N30 := Fr.snoc X30 Ng27 ge_b9
  obtain ⟨Lg30, Xg30, Ng30⟩ : ∃ Lg, Stand p l e room_1 s m #[(.long q0), (.int p1), (.int p2)] below meth c T30 Lg 1 11 ∧ Fr n0 Lg := ⟨_, X30, N30⟩
  have K32 : Steps p.tables e below _ (T30.setTop (mkF m 96 #[.val (.long q0), .second, .val (.int p1), .val (.int p2), .val (.long zz), .second, .val (.int r4), .val (.int mm), .val (.int tl), .val (.ref b9), .unset, .unset, .unset, .unset, .unset, .unset, .unset] [(.int tl), (.int mm), (.int (3 : Int32)), (.long zz), (.int (3 : Int32)), (.ref b9)])) := K31.trans (by
    refine XS.aload Xg30.here hx rfl (hb hby at_86) rfl rfl ?_
    refine XS.iconst Xg30.here hx rfl (hb hby at_88) ?_
    refine XS.lload Xg30.here hx rfl (hb hby at_89) rfl ?_
    refine XS.iconst Xg30.here hx rfl (hb hby at_91) ?_
    refine XS.iload Xg30.here hx rfl (hb hby at_92) rfl ?_
    show Steps p.tables e below (T30.setTop (mkF m 94 #[.val (.long q0), .second, .val (.int p1), .val (.int p2), .val (.long zz), .second, .val (.int r4), .val (.int mm), .val (.int tl), .val (.ref b9), .unset, .unset, .unset, .unset, .unset, .unset, .unset] [(.int mm), (.int (3 : Int32)), (.long zz), (.int (3 : Int32)), (.ref b9)])) _
    refine XS.iload Xg30.here hx rfl (hb hby at_94) rfl ?_
    exact Steps.refl _)
  have Z_33 : n0 ≤ h30.size := (Nat.le_trans Z_26 (Keep.of_wr W30).1)
  obtain ⟨_, _, ⟨T34, L34, k34, n34⟩, -, X34, ⟨Lc34, hQ34, l34, y34, z34⟩, st34⟩ := Jvm.LawKit.callS Xg30 hx (y := (⟨"com/example/thin_gateway/thingateway/avro/AvroDecoderReadLongPinLaw", "at", "(JIII)B"⟩ : MethodName)) hown (mvT hZ (hw _ (List.mem_of_getElem? (i := 6) rfl))) (mvT hZ (hw _ (List.mem_of_getElem? (i := 7) rfl))) (mvT hZ (hw _ (List.mem_of_getElem? (i := 2) rfl))) (mvT hZ (hw _ (List.mem_of_getElem? (i := 8) rfl))) (by decide) (backOf (W := 2) (rm2 l Z a0 hw [] zz (3 : Int32) mm tl h30 n0 Z_33 ) hZ (hw _ (List.mem_of_getElem? (i := 8) rfl)) (hw _ (List.mem_of_getElem? (i := 2) rfl)) (by decide) (by decide)) (g := (mkF m 96 #[.val (.long q0), .second, .val (.int p1), .val (.int p2), .val (.long zz), .second, .val (.int r4), .val (.int mm), .val (.int tl), .val (.ref b9), .unset, .unset, .unset, .unset, .unset, .unset, .unset] [(.int tl), (.int mm), (.int (3 : Int32)), (.long zz), (.int (3 : Int32)), (.ref b9)])) rfl (by rw [hml]; rfl) (argsL := [(.long zz), (.int (3 : Int32)), (.int mm), (.int tl)]) (rest := [(.int (3 : Int32)), (.ref b9)]) (lenOf pd_2 rfl) rfl (by show 2 * 0 + _ ≤ _; exact Nat.le_of_eq rfl) (hb hby at_96) (fun _ _ => ⟨rfl, e30, (by decide : 1 + 0 ≤ _), (by decide : 11 + 0 ≤ _)⟩)
  dsimp only [Pt.U, Pt.locs, Pt.cells, Pt.slots] at X34 l34 y34 z34 st34 hQ34
  subst l34 y34 z34
  obtain ⟨rfl, N34, eh34⟩ := hQ34
  have N34' := Fr.app Ng30 N34
  obtain ⟨Lg34, Xg34, Ng34⟩ : ∃ Lg, Stand p l e room_1 s m #[(.long q0), (.int p1), (.int p2)] below meth c T34 Lg 1 11 ∧ Fr n0 Lg := ⟨_, X34, N34'⟩
  have K36 : Steps p.tables e below _ (T34.setTop (mkF m 99 #[.val (.long q0), .second, .val (.int p1), .val (.int p2), .val (.long zz), .second, .val (.int r4), .val (.int mm), .val (.int tl), .val (.ref b9), .unset, .unset, .unset, .unset, .unset, .unset, .unset] [(.int (f_rm2 zz (3 : Int32) mm tl)), (.int (3 : Int32)), (.ref b9)])) := K32.trans (st34 _ (Steps.refl _))
  obtain ⟨r35, hr35⟩ : ∃ z : Int32, (f_rm2 zz (3 : Int32) mm tl) = z := ⟨_, rfl⟩
  rw [hr35] at K36
  obtain ⟨T37, h37, X37, e37, W37, V37, st37⟩ := own_stB Xg34 hx hZ eh34 Vw30 (j := (3 : Int32)) ⟨by decide, by decide⟩ 3 rfl (Nat.le_of_ble_eq_true rfl) (g := (mkF m 99 #[.val (.long q0), .second, .val (.int p1), .val (.int p2), .val (.long zz), .second, .val (.int r4), .val (.int mm), .val (.int tl), .val (.ref b9), .unset, .unset, .unset, .unset, .unset, .unset, .unset] [(.int r35), (.int (3 : Int32)), (.ref b9)])) rfl rfl (hb hby at_99)
  have K38 : Steps p.tables e below _ (T37.setTop (mkF m 100 #[.val (.long q0), .second, .val (.int p1), .val (.int p2), .val (.long zz), .second, .val (.int r4), .val (.int mm), .val (.int tl), .val (.ref b9), .unset, .unset, .unset, .unset, .unset, .unset, .unset] [])) := K36.trans st37
  have Vw37 : Arv Z h37 b9 k9 .byte (11 : Int32) [(.int (r14.toInt8.toInt32)), (.int (r21.toInt8.toInt32)), (.int (r28.toInt8.toInt32)), (.int (r35.toInt8.toInt32)), (.int (0 : Int32)), (.int (0 : Int32)), (.int (0 : Int32)), (.int (0 : Int32)), (.int (0 : Int32)), (.int (0 : Int32)), (.int (0 : Int32))] (.int (0 : Int32)) := V37
  have N37 := Fr.snoc X37 Ng34 ge_b9
  obtain ⟨Lg37, Xg37, Ng37⟩ : ∃ Lg, Stand p l e room_1 s m #[(.long q0), (.int p1), (.int p2)] below meth c T37 Lg 1 11 ∧ Fr n0 Lg := ⟨_, X37, N37⟩
  have K39 : Steps p.tables e below _ (T37.setTop (mkF m 110 #[.val (.long q0), .second, .val (.int p1), .val (.int p2), .val (.long zz), .second, .val (.int r4), .val (.int mm), .val (.int tl), .val (.ref b9), .unset, .unset, .unset, .unset, .unset, .unset, .unset] [(.int tl), (.int mm), (.int (4 : Int32)), (.long zz), (.int (4 : Int32)), (.ref b9)])) := K38.trans (by
    refine XS.aload Xg37.here hx rfl (hb hby at_100) rfl rfl ?_
    refine XS.iconst Xg37.here hx rfl (hb hby at_102) ?_
    refine XS.lload Xg37.here hx rfl (hb hby at_103) rfl ?_
    refine XS.iconst Xg37.here hx rfl (hb hby at_105) ?_
    refine XS.iload Xg37.here hx rfl (hb hby at_106) rfl ?_
    show Steps p.tables e below (T37.setTop (mkF m 108 #[.val (.long q0), .second, .val (.int p1), .val (.int p2), .val (.long zz), .second, .val (.int r4), .val (.int mm), .val (.int tl), .val (.ref b9), .unset, .unset, .unset, .unset, .unset, .unset, .unset] [(.int mm), (.int (4 : Int32)), (.long zz), (.int (4 : Int32)), (.ref b9)])) _
    refine XS.iload Xg37.here hx rfl (hb hby at_108) rfl ?_
    exact Steps.refl _)
  have Z_40 : n0 ≤ h37.size := (Nat.le_trans Z_33 (Keep.of_wr W37).1)
  obtain ⟨_, _, ⟨T41, L41, k41, n41⟩, -, X41, ⟨Lc41, hQ41, l41, y41, z41⟩, st41⟩ := Jvm.LawKit.callS Xg37 hx (y := (⟨"com/example/thin_gateway/thingateway/avro/AvroDecoderReadLongPinLaw", "at", "(JIII)B"⟩ : MethodName)) hown (mvT hZ (hw _ (List.mem_of_getElem? (i := 6) rfl))) (mvT hZ (hw _ (List.mem_of_getElem? (i := 7) rfl))) (mvT hZ (hw _ (List.mem_of_getElem? (i := 2) rfl))) (mvT hZ (hw _ (List.mem_of_getElem? (i := 8) rfl))) (by decide) (backOf (W := 2) (rm2 l Z a0 hw [] zz (4 : Int32) mm tl h37 n0 Z_40 ) hZ (hw _ (List.mem_of_getElem? (i := 8) rfl)) (hw _ (List.mem_of_getElem? (i := 2) rfl)) (by decide) (by decide)) (g := (mkF m 110 #[.val (.long q0), .second, .val (.int p1), .val (.int p2), .val (.long zz), .second, .val (.int r4), .val (.int mm), .val (.int tl), .val (.ref b9), .unset, .unset, .unset, .unset, .unset, .unset, .unset] [(.int tl), (.int mm), (.int (4 : Int32)), (.long zz), (.int (4 : Int32)), (.ref b9)])) rfl (by rw [hml]; rfl) (argsL := [(.long zz), (.int (4 : Int32)), (.int mm), (.int tl)]) (rest := [(.int (4 : Int32)), (.ref b9)]) (lenOf pd_2 rfl) rfl (by show 2 * 0 + _ ≤ _; exact Nat.le_of_eq rfl) (hb hby at_110) (fun _ _ => ⟨rfl, e37, (by decide : 1 + 0 ≤ _), (by decide : 11 + 0 ≤ _)⟩)
  dsimp only [Pt.U, Pt.locs, Pt.cells, Pt.slots] at X41 l41 y41 z41 st41 hQ41
  subst l41 y41 z41
  obtain ⟨rfl, N41, eh41⟩ := hQ41
  have N41' := Fr.app Ng37 N41
  obtain ⟨Lg41, Xg41, Ng41⟩ : ∃ Lg, Stand p l e room_1 s m #[(.long q0), (.int p1), (.int p2)] below meth c T41 Lg 1 11 ∧ Fr n0 Lg := ⟨_, X41, N41'⟩
  have K43 : Steps p.tables e below _ (T41.setTop (mkF m 113 #[.val (.long q0), .second, .val (.int p1), .val (.int p2), .val (.long zz), .second, .val (.int r4), .val (.int mm), .val (.int tl), .val (.ref b9), .unset, .unset, .unset, .unset, .unset, .unset, .unset] [(.int (f_rm2 zz (4 : Int32) mm tl)), (.int (4 : Int32)), (.ref b9)])) := K39.trans (st41 _ (Steps.refl _))
  obtain ⟨r42, hr42⟩ : ∃ z : Int32, (f_rm2 zz (4 : Int32) mm tl) = z := ⟨_, rfl⟩
  rw [hr42] at K43
  obtain ⟨T44, h44, X44, e44, W44, V44, st44⟩ := own_stB Xg41 hx hZ eh41 Vw37 (j := (4 : Int32)) ⟨by decide, by decide⟩ 4 rfl (Nat.le_of_ble_eq_true rfl) (g := (mkF m 113 #[.val (.long q0), .second, .val (.int p1), .val (.int p2), .val (.long zz), .second, .val (.int r4), .val (.int mm), .val (.int tl), .val (.ref b9), .unset, .unset, .unset, .unset, .unset, .unset, .unset] [(.int r42), (.int (4 : Int32)), (.ref b9)])) rfl rfl (hb hby at_113)
  have K45 : Steps p.tables e below _ (T44.setTop (mkF m 114 #[.val (.long q0), .second, .val (.int p1), .val (.int p2), .val (.long zz), .second, .val (.int r4), .val (.int mm), .val (.int tl), .val (.ref b9), .unset, .unset, .unset, .unset, .unset, .unset, .unset] [])) := K43.trans st44
  have Vw44 : Arv Z h44 b9 k9 .byte (11 : Int32) [(.int (r14.toInt8.toInt32)), (.int (r21.toInt8.toInt32)), (.int (r28.toInt8.toInt32)), (.int (r35.toInt8.toInt32)), (.int (r42.toInt8.toInt32)), (.int (0 : Int32)), (.int (0 : Int32)), (.int (0 : Int32)), (.int (0 : Int32)), (.int (0 : Int32)), (.int (0 : Int32))] (.int (0 : Int32)) := V44
  have N44 := Fr.snoc X44 Ng41 ge_b9
  obtain ⟨Lg44, Xg44, Ng44⟩ : ∃ Lg, Stand p l e room_1 s m #[(.long q0), (.int p1), (.int p2)] below meth c T44 Lg 1 11 ∧ Fr n0 Lg := ⟨_, X44, N44⟩
  have K46 : Steps p.tables e below _ (T44.setTop (mkF m 124 #[.val (.long q0), .second, .val (.int p1), .val (.int p2), .val (.long zz), .second, .val (.int r4), .val (.int mm), .val (.int tl), .val (.ref b9), .unset, .unset, .unset, .unset, .unset, .unset, .unset] [(.int tl), (.int mm), (.int (5 : Int32)), (.long zz), (.int (5 : Int32)), (.ref b9)])) := K45.trans (by
    refine XS.aload Xg44.here hx rfl (hb hby at_114) rfl rfl ?_
    refine XS.iconst Xg44.here hx rfl (hb hby at_116) ?_
    refine XS.lload Xg44.here hx rfl (hb hby at_117) rfl ?_
    refine XS.iconst Xg44.here hx rfl (hb hby at_119) ?_
    refine XS.iload Xg44.here hx rfl (hb hby at_120) rfl ?_
    show Steps p.tables e below (T44.setTop (mkF m 122 #[.val (.long q0), .second, .val (.int p1), .val (.int p2), .val (.long zz), .second, .val (.int r4), .val (.int mm), .val (.int tl), .val (.ref b9), .unset, .unset, .unset, .unset, .unset, .unset, .unset] [(.int mm), (.int (5 : Int32)), (.long zz), (.int (5 : Int32)), (.ref b9)])) _
    refine XS.iload Xg44.here hx rfl (hb hby at_122) rfl ?_
    exact Steps.refl _)
  have Z_47 : n0 ≤ h44.size := (Nat.le_trans Z_40 (Keep.of_wr W44).1)
  obtain ⟨_, _, ⟨T48, L48, k48, n48⟩, -, X48, ⟨Lc48, hQ48, l48, y48, z48⟩, st48⟩ := Jvm.LawKit.callS Xg44 hx (y := (⟨"com/example/thin_gateway/thingateway/avro/AvroDecoderReadLongPinLaw", "at", "(JIII)B"⟩ : MethodName)) hown (mvT hZ (hw _ (List.mem_of_getElem? (i := 6) rfl))) (mvT hZ (hw _ (List.mem_of_getElem? (i := 7) rfl))) (mvT hZ (hw _ (List.mem_of_getElem? (i := 2) rfl))) (mvT hZ (hw _ (List.mem_of_getElem? (i := 8) rfl))) (by decide) (backOf (W := 2) (rm2 l Z a0 hw [] zz (5 : Int32) mm tl h44 n0 Z_47 ) hZ (hw _ (List.mem_of_getElem? (i := 8) rfl)) (hw _ (List.mem_of_getElem? (i := 2) rfl)) (by decide) (by decide)) (g := (mkF m 124 #[.val (.long q0), .second, .val (.int p1), .val (.int p2), .val (.long zz), .second, .val (.int r4), .val (.int mm), .val (.int tl), .val (.ref b9), .unset, .unset, .unset, .unset, .unset, .unset, .unset] [(.int tl), (.int mm), (.int (5 : Int32)), (.long zz), (.int (5 : Int32)), (.ref b9)])) rfl (by rw [hml]; rfl) (argsL := [(.long zz), (.int (5 : Int32)), (.int mm), (.int tl)]) (rest := [(.int (5 : Int32)), (.ref b9)]) (lenOf pd_2 rfl) rfl (by show 2 * 0 + _ ≤ _; exact Nat.le_of_eq rfl) (hb hby at_124) (fun _ _ => ⟨rfl, e44, (by decide : 1 + 0 ≤ _), (by decide : 11 + 0 ≤ _)⟩)
  dsimp only [Pt.U, Pt.locs, Pt.cells, Pt.slots] at X48 l48 y48 z48 st48 hQ48
  subst l48 y48 z48
  obtain ⟨rfl, N48, eh48⟩ := hQ48
  have N48' := Fr.app Ng44 N48
  obtain ⟨Lg48, Xg48, Ng48⟩ : ∃ Lg, Stand p l e room_1 s m #[(.long q0), (.int p1), (.int p2)] below meth c T48 Lg 1 11 ∧ Fr n0 Lg := ⟨_, X48, N48'⟩
  have K50 : Steps p.tables e below _ (T48.setTop (mkF m 127 #[.val (.long q0), .second, .val (.int p1), .val (.int p2), .val (.long zz), .second, .val (.int r4), .val (.int mm), .val (.int tl), .val (.ref b9), .unset, .unset, .unset, .unset, .unset, .unset, .unset] [(.int (f_rm2 zz (5 : Int32) mm tl)), (.int (5 : Int32)), (.ref b9)])) := K46.trans (st48 _ (Steps.refl _))
  obtain ⟨r49, hr49⟩ : ∃ z : Int32, (f_rm2 zz (5 : Int32) mm tl) = z := ⟨_, rfl⟩
  rw [hr49] at K50
  obtain ⟨T51, h51, X51, e51, W51, V51, st51⟩ := own_stB Xg48 hx hZ eh48 Vw44 (j := (5 : Int32)) ⟨by decide, by decide⟩ 5 rfl (Nat.le_of_ble_eq_true rfl) (g := (mkF m 127 #[.val (.long q0), .second, .val (.int p1), .val (.int p2), .val (.long zz), .second, .val (.int r4), .val (.int mm), .val (.int tl), .val (.ref b9), .unset, .unset, .unset, .unset, .unset, .unset, .unset] [(.int r49), (.int (5 : Int32)), (.ref b9)])) rfl rfl (hb hby at_127)
  have K52 : Steps p.tables e below _ (T51.setTop (mkF m 128 #[.val (.long q0), .second, .val (.int p1), .val (.int p2), .val (.long zz), .second, .val (.int r4), .val (.int mm), .val (.int tl), .val (.ref b9), .unset, .unset, .unset, .unset, .unset, .unset, .unset] [])) := K50.trans st51
  have Vw51 : Arv Z h51 b9 k9 .byte (11 : Int32) [(.int (r14.toInt8.toInt32)), (.int (r21.toInt8.toInt32)), (.int (r28.toInt8.toInt32)), (.int (r35.toInt8.toInt32)), (.int (r42.toInt8.toInt32)), (.int (r49.toInt8.toInt32)), (.int (0 : Int32)), (.int (0 : Int32)), (.int (0 : Int32)), (.int (0 : Int32)), (.int (0 : Int32))] (.int (0 : Int32)) := V51
  have N51 := Fr.snoc X51 Ng48 ge_b9
  obtain ⟨Lg51, Xg51, Ng51⟩ : ∃ Lg, Stand p l e room_1 s m #[(.long q0), (.int p1), (.int p2)] below meth c T51 Lg 1 11 ∧ Fr n0 Lg := ⟨_, X51, N51⟩
  have K53 : Steps p.tables e below _ (T51.setTop (mkF m 140 #[.val (.long q0), .second, .val (.int p1), .val (.int p2), .val (.long zz), .second, .val (.int r4), .val (.int mm), .val (.int tl), .val (.ref b9), .unset, .unset, .unset, .unset, .unset, .unset, .unset] [(.int tl), (.int mm), (.int (6 : Int32)), (.long zz), (.int (6 : Int32)), (.ref b9)])) := K52.trans (by
    refine XS.aload Xg51.here hx rfl (hb hby at_128) rfl rfl ?_
    refine XS.bipush Xg51.here hx rfl (hb hby at_130) ?_
    refine XS.lload Xg51.here hx rfl (hb hby at_132) rfl ?_
    refine XS.bipush Xg51.here hx rfl (hb hby at_134) ?_
    refine XS.iload Xg51.here hx rfl (hb hby at_136) rfl ?_
    show Steps p.tables e below (T51.setTop (mkF m 138 #[.val (.long q0), .second, .val (.int p1), .val (.int p2), .val (.long zz), .second, .val (.int r4), .val (.int mm), .val (.int tl), .val (.ref b9), .unset, .unset, .unset, .unset, .unset, .unset, .unset] [(.int mm), (.int (6 : Int32)), (.long zz), (.int (6 : Int32)), (.ref b9)])) _
    refine XS.iload Xg51.here hx rfl (hb hby at_138) rfl ?_
    exact Steps.refl _)
  have Z_54 : n0 ≤ h51.size := (Nat.le_trans Z_47 (Keep.of_wr W51).1)
  obtain ⟨_, _, ⟨T55, L55, k55, n55⟩, -, X55, ⟨Lc55, hQ55, l55, y55, z55⟩, st55⟩ := Jvm.LawKit.callS Xg51 hx (y := (⟨"com/example/thin_gateway/thingateway/avro/AvroDecoderReadLongPinLaw", "at", "(JIII)B"⟩ : MethodName)) hown (mvT hZ (hw _ (List.mem_of_getElem? (i := 6) rfl))) (mvT hZ (hw _ (List.mem_of_getElem? (i := 7) rfl))) (mvT hZ (hw _ (List.mem_of_getElem? (i := 2) rfl))) (mvT hZ (hw _ (List.mem_of_getElem? (i := 8) rfl))) (by decide) (backOf (W := 2) (rm2 l Z a0 hw [] zz (6 : Int32) mm tl h51 n0 Z_54 ) hZ (hw _ (List.mem_of_getElem? (i := 8) rfl)) (hw _ (List.mem_of_getElem? (i := 2) rfl)) (by decide) (by decide)) (g := (mkF m 140 #[.val (.long q0), .second, .val (.int p1), .val (.int p2), .val (.long zz), .second, .val (.int r4), .val (.int mm), .val (.int tl), .val (.ref b9), .unset, .unset, .unset, .unset, .unset, .unset, .unset] [(.int tl), (.int mm), (.int (6 : Int32)), (.long zz), (.int (6 : Int32)), (.ref b9)])) rfl (by rw [hml]; rfl) (argsL := [(.long zz), (.int (6 : Int32)), (.int mm), (.int tl)]) (rest := [(.int (6 : Int32)), (.ref b9)]) (lenOf pd_2 rfl) rfl (by show 2 * 0 + _ ≤ _; exact Nat.le_of_eq rfl) (hb hby at_140) (fun _ _ => ⟨rfl, e51, (by decide : 1 + 0 ≤ _), (by decide : 11 + 0 ≤ _)⟩)
  dsimp only [Pt.U, Pt.locs, Pt.cells, Pt.slots] at X55 l55 y55 z55 st55 hQ55
  subst l55 y55 z55
  obtain ⟨rfl, N55, eh55⟩ := hQ55
  have N55' := Fr.app Ng51 N55
  obtain ⟨Lg55, Xg55, Ng55⟩ : ∃ Lg, Stand p l e room_1 s m #[(.long q0), (.int p1), (.int p2)] below meth c T55 Lg 1 11 ∧ Fr n0 Lg := ⟨_, X55, N55'⟩
  have K57 : Steps p.tables e below _ (T55.setTop (mkF m 143 #[.val (.long q0), .second, .val (.int p1), .val (.int p2), .val (.long zz), .second, .val (.int r4), .val (.int mm), .val (.int tl), .val (.ref b9), .unset, .unset, .unset, .unset, .unset, .unset, .unset] [(.int (f_rm2 zz (6 : Int32) mm tl)), (.int (6 : Int32)), (.ref b9)])) := K53.trans (st55 _ (Steps.refl _))
  obtain ⟨r56, hr56⟩ : ∃ z : Int32, (f_rm2 zz (6 : Int32) mm tl) = z := ⟨_, rfl⟩
  rw [hr56] at K57
  obtain ⟨T58, h58, X58, e58, W58, V58, st58⟩ := own_stB Xg55 hx hZ eh55 Vw51 (j := (6 : Int32)) ⟨by decide, by decide⟩ 6 rfl (Nat.le_of_ble_eq_true rfl) (g := (mkF m 143 #[.val (.long q0), .second, .val (.int p1), .val (.int p2), .val (.long zz), .second, .val (.int r4), .val (.int mm), .val (.int tl), .val (.ref b9), .unset, .unset, .unset, .unset, .unset, .unset, .unset] [(.int r56), (.int (6 : Int32)), (.ref b9)])) rfl rfl (hb hby at_143)
  have K59 : Steps p.tables e below _ (T58.setTop (mkF m 144 #[.val (.long q0), .second, .val (.int p1), .val (.int p2), .val (.long zz), .second, .val (.int r4), .val (.int mm), .val (.int tl), .val (.ref b9), .unset, .unset, .unset, .unset, .unset, .unset, .unset] [])) := K57.trans st58
  have Vw58 : Arv Z h58 b9 k9 .byte (11 : Int32) [(.int (r14.toInt8.toInt32)), (.int (r21.toInt8.toInt32)), (.int (r28.toInt8.toInt32)), (.int (r35.toInt8.toInt32)), (.int (r42.toInt8.toInt32)), (.int (r49.toInt8.toInt32)), (.int (r56.toInt8.toInt32)), (.int (0 : Int32)), (.int (0 : Int32)), (.int (0 : Int32)), (.int (0 : Int32))] (.int (0 : Int32)) := V58
  have N58 := Fr.snoc X58 Ng55 ge_b9
  obtain ⟨Lg58, Xg58, Ng58⟩ : ∃ Lg, Stand p l e room_1 s m #[(.long q0), (.int p1), (.int p2)] below meth c T58 Lg 1 11 ∧ Fr n0 Lg := ⟨_, X58, N58⟩
  have K60 : Steps p.tables e below _ (T58.setTop (mkF m 156 #[.val (.long q0), .second, .val (.int p1), .val (.int p2), .val (.long zz), .second, .val (.int r4), .val (.int mm), .val (.int tl), .val (.ref b9), .unset, .unset, .unset, .unset, .unset, .unset, .unset] [(.int tl), (.int mm), (.int (7 : Int32)), (.long zz), (.int (7 : Int32)), (.ref b9)])) := K59.trans (by
    refine XS.aload Xg58.here hx rfl (hb hby at_144) rfl rfl ?_
    refine XS.bipush Xg58.here hx rfl (hb hby at_146) ?_
    refine XS.lload Xg58.here hx rfl (hb hby at_148) rfl ?_
    refine XS.bipush Xg58.here hx rfl (hb hby at_150) ?_
    refine XS.iload Xg58.here hx rfl (hb hby at_152) rfl ?_
    show Steps p.tables e below (T58.setTop (mkF m 154 #[.val (.long q0), .second, .val (.int p1), .val (.int p2), .val (.long zz), .second, .val (.int r4), .val (.int mm), .val (.int tl), .val (.ref b9), .unset, .unset, .unset, .unset, .unset, .unset, .unset] [(.int mm), (.int (7 : Int32)), (.long zz), (.int (7 : Int32)), (.ref b9)])) _
    refine XS.iload Xg58.here hx rfl (hb hby at_154) rfl ?_
    exact Steps.refl _)
  have Z_61 : n0 ≤ h58.size := (Nat.le_trans Z_54 (Keep.of_wr W58).1)
  obtain ⟨_, _, ⟨T62, L62, k62, n62⟩, -, X62, ⟨Lc62, hQ62, l62, y62, z62⟩, st62⟩ := Jvm.LawKit.callS Xg58 hx (y := (⟨"com/example/thin_gateway/thingateway/avro/AvroDecoderReadLongPinLaw", "at", "(JIII)B"⟩ : MethodName)) hown (mvT hZ (hw _ (List.mem_of_getElem? (i := 6) rfl))) (mvT hZ (hw _ (List.mem_of_getElem? (i := 7) rfl))) (mvT hZ (hw _ (List.mem_of_getElem? (i := 2) rfl))) (mvT hZ (hw _ (List.mem_of_getElem? (i := 8) rfl))) (by decide) (backOf (W := 2) (rm2 l Z a0 hw [] zz (7 : Int32) mm tl h58 n0 Z_61 ) hZ (hw _ (List.mem_of_getElem? (i := 8) rfl)) (hw _ (List.mem_of_getElem? (i := 2) rfl)) (by decide) (by decide)) (g := (mkF m 156 #[.val (.long q0), .second, .val (.int p1), .val (.int p2), .val (.long zz), .second, .val (.int r4), .val (.int mm), .val (.int tl), .val (.ref b9), .unset, .unset, .unset, .unset, .unset, .unset, .unset] [(.int tl), (.int mm), (.int (7 : Int32)), (.long zz), (.int (7 : Int32)), (.ref b9)])) rfl (by rw [hml]; rfl) (argsL := [(.long zz), (.int (7 : Int32)), (.int mm), (.int tl)]) (rest := [(.int (7 : Int32)), (.ref b9)]) (lenOf pd_2 rfl) rfl (by show 2 * 0 + _ ≤ _; exact Nat.le_of_eq rfl) (hb hby at_156) (fun _ _ => ⟨rfl, e58, (by decide : 1 + 0 ≤ _), (by decide : 11 + 0 ≤ _)⟩)
  dsimp only [Pt.U, Pt.locs, Pt.cells, Pt.slots] at X62 l62 y62 z62 st62 hQ62
  subst l62 y62 z62
  obtain ⟨rfl, N62, eh62⟩ := hQ62
  have N62' := Fr.app Ng58 N62
  obtain ⟨Lg62, Xg62, Ng62⟩ : ∃ Lg, Stand p l e room_1 s m #[(.long q0), (.int p1), (.int p2)] below meth c T62 Lg 1 11 ∧ Fr n0 Lg := ⟨_, X62, N62'⟩
  have K64 : Steps p.tables e below _ (T62.setTop (mkF m 159 #[.val (.long q0), .second, .val (.int p1), .val (.int p2), .val (.long zz), .second, .val (.int r4), .val (.int mm), .val (.int tl), .val (.ref b9), .unset, .unset, .unset, .unset, .unset, .unset, .unset] [(.int (f_rm2 zz (7 : Int32) mm tl)), (.int (7 : Int32)), (.ref b9)])) := K60.trans (st62 _ (Steps.refl _))
  obtain ⟨r63, hr63⟩ : ∃ z : Int32, (f_rm2 zz (7 : Int32) mm tl) = z := ⟨_, rfl⟩
  rw [hr63] at K64
  obtain ⟨T65, h65, X65, e65, W65, V65, st65⟩ := own_stB Xg62 hx hZ eh62 Vw58 (j := (7 : Int32)) ⟨by decide, by decide⟩ 7 rfl (Nat.le_of_ble_eq_true rfl) (g := (mkF m 159 #[.val (.long q0), .second, .val (.int p1), .val (.int p2), .val (.long zz), .second, .val (.int r4), .val (.int mm), .val (.int tl), .val (.ref b9), .unset, .unset, .unset, .unset, .unset, .unset, .unset] [(.int r63), (.int (7 : Int32)), (.ref b9)])) rfl rfl (hb hby at_159)
  have K66 : Steps p.tables e below _ (T65.setTop (mkF m 160 #[.val (.long q0), .second, .val (.int p1), .val (.int p2), .val (.long zz), .second, .val (.int r4), .val (.int mm), .val (.int tl), .val (.ref b9), .unset, .unset, .unset, .unset, .unset, .unset, .unset] [])) := K64.trans st65
  have Vw65 : Arv Z h65 b9 k9 .byte (11 : Int32) [(.int (r14.toInt8.toInt32)), (.int (r21.toInt8.toInt32)), (.int (r28.toInt8.toInt32)), (.int (r35.toInt8.toInt32)), (.int (r42.toInt8.toInt32)), (.int (r49.toInt8.toInt32)), (.int (r56.toInt8.toInt32)), (.int (r63.toInt8.toInt32)), (.int (0 : Int32)), (.int (0 : Int32)), (.int (0 : Int32))] (.int (0 : Int32)) := V65
  have N65 := Fr.snoc X65 Ng62 ge_b9
  obtain ⟨Lg65, Xg65, Ng65⟩ : ∃ Lg, Stand p l e room_1 s m #[(.long q0), (.int p1), (.int p2)] below meth c T65 Lg 1 11 ∧ Fr n0 Lg := ⟨_, X65, N65⟩
  have K67 : Steps p.tables e below _ (T65.setTop (mkF m 172 #[.val (.long q0), .second, .val (.int p1), .val (.int p2), .val (.long zz), .second, .val (.int r4), .val (.int mm), .val (.int tl), .val (.ref b9), .unset, .unset, .unset, .unset, .unset, .unset, .unset] [(.int tl), (.int mm), (.int (8 : Int32)), (.long zz), (.int (8 : Int32)), (.ref b9)])) := K66.trans (by
    refine XS.aload Xg65.here hx rfl (hb hby at_160) rfl rfl ?_
    refine XS.bipush Xg65.here hx rfl (hb hby at_162) ?_
    refine XS.lload Xg65.here hx rfl (hb hby at_164) rfl ?_
    refine XS.bipush Xg65.here hx rfl (hb hby at_166) ?_
    refine XS.iload Xg65.here hx rfl (hb hby at_168) rfl ?_
    show Steps p.tables e below (T65.setTop (mkF m 170 #[.val (.long q0), .second, .val (.int p1), .val (.int p2), .val (.long zz), .second, .val (.int r4), .val (.int mm), .val (.int tl), .val (.ref b9), .unset, .unset, .unset, .unset, .unset, .unset, .unset] [(.int mm), (.int (8 : Int32)), (.long zz), (.int (8 : Int32)), (.ref b9)])) _
    refine XS.iload Xg65.here hx rfl (hb hby at_170) rfl ?_
    exact Steps.refl _)
  have Z_68 : n0 ≤ h65.size := (Nat.le_trans Z_61 (Keep.of_wr W65).1)
  obtain ⟨_, _, ⟨T69, L69, k69, n69⟩, -, X69, ⟨Lc69, hQ69, l69, y69, z69⟩, st69⟩ := Jvm.LawKit.callS Xg65 hx (y := (⟨"com/example/thin_gateway/thingateway/avro/AvroDecoderReadLongPinLaw", "at", "(JIII)B"⟩ : MethodName)) hown (mvT hZ (hw _ (List.mem_of_getElem? (i := 6) rfl))) (mvT hZ (hw _ (List.mem_of_getElem? (i := 7) rfl))) (mvT hZ (hw _ (List.mem_of_getElem? (i := 2) rfl))) (mvT hZ (hw _ (List.mem_of_getElem? (i := 8) rfl))) (by decide) (backOf (W := 2) (rm2 l Z a0 hw [] zz (8 : Int32) mm tl h65 n0 Z_68 ) hZ (hw _ (List.mem_of_getElem? (i := 8) rfl)) (hw _ (List.mem_of_getElem? (i := 2) rfl)) (by decide) (by decide)) (g := (mkF m 172 #[.val (.long q0), .second, .val (.int p1), .val (.int p2), .val (.long zz), .second, .val (.int r4), .val (.int mm), .val (.int tl), .val (.ref b9), .unset, .unset, .unset, .unset, .unset, .unset, .unset] [(.int tl), (.int mm), (.int (8 : Int32)), (.long zz), (.int (8 : Int32)), (.ref b9)])) rfl (by rw [hml]; rfl) (argsL := [(.long zz), (.int (8 : Int32)), (.int mm), (.int tl)]) (rest := [(.int (8 : Int32)), (.ref b9)]) (lenOf pd_2 rfl) rfl (by show 2 * 0 + _ ≤ _; exact Nat.le_of_eq rfl) (hb hby at_172) (fun _ _ => ⟨rfl, e65, (by decide : 1 + 0 ≤ _), (by decide : 11 + 0 ≤ _)⟩)
  dsimp only [Pt.U, Pt.locs, Pt.cells, Pt.slots] at X69 l69 y69 z69 st69 hQ69
  subst l69 y69 z69
  obtain ⟨rfl, N69, eh69⟩ := hQ69
  have N69' := Fr.app Ng65 N69
  obtain ⟨Lg69, Xg69, Ng69⟩ : ∃ Lg, Stand p l e room_1 s m #[(.long q0), (.int p1), (.int p2)] below meth c T69 Lg 1 11 ∧ Fr n0 Lg := ⟨_, X69, N69'⟩
  have K71 : Steps p.tables e below _ (T69.setTop (mkF m 175 #[.val (.long q0), .second, .val (.int p1), .val (.int p2), .val (.long zz), .second, .val (.int r4), .val (.int mm), .val (.int tl), .val (.ref b9), .unset, .unset, .unset, .unset, .unset, .unset, .unset] [(.int (f_rm2 zz (8 : Int32) mm tl)), (.int (8 : Int32)), (.ref b9)])) := K67.trans (st69 _ (Steps.refl _))
  obtain ⟨r70, hr70⟩ : ∃ z : Int32, (f_rm2 zz (8 : Int32) mm tl) = z := ⟨_, rfl⟩
  rw [hr70] at K71
  obtain ⟨T72, h72, X72, e72, W72, V72, st72⟩ := own_stB Xg69 hx hZ eh69 Vw65 (j := (8 : Int32)) ⟨by decide, by decide⟩ 8 rfl (Nat.le_of_ble_eq_true rfl) (g := (mkF m 175 #[.val (.long q0), .second, .val (.int p1), .val (.int p2), .val (.long zz), .second, .val (.int r4), .val (.int mm), .val (.int tl), .val (.ref b9), .unset, .unset, .unset, .unset, .unset, .unset, .unset] [(.int r70), (.int (8 : Int32)), (.ref b9)])) rfl rfl (hb hby at_175)
  have K73 : Steps p.tables e below _ (T72.setTop (mkF m 176 #[.val (.long q0), .second, .val (.int p1), .val (.int p2), .val (.long zz), .second, .val (.int r4), .val (.int mm), .val (.int tl), .val (.ref b9), .unset, .unset, .unset, .unset, .unset, .unset, .unset] [])) := K71.trans st72
  have Vw72 : Arv Z h72 b9 k9 .byte (11 : Int32) [(.int (r14.toInt8.toInt32)), (.int (r21.toInt8.toInt32)), (.int (r28.toInt8.toInt32)), (.int (r35.toInt8.toInt32)), (.int (r42.toInt8.toInt32)), (.int (r49.toInt8.toInt32)), (.int (r56.toInt8.toInt32)), (.int (r63.toInt8.toInt32)), (.int (r70.toInt8.toInt32)), (.int (0 : Int32)), (.int (0 : Int32))] (.int (0 : Int32)) := V72
  have N72 := Fr.snoc X72 Ng69 ge_b9
  obtain ⟨Lg72, Xg72, Ng72⟩ : ∃ Lg, Stand p l e room_1 s m #[(.long q0), (.int p1), (.int p2)] below meth c T72 Lg 1 11 ∧ Fr n0 Lg := ⟨_, X72, N72⟩
  have K74 : Steps p.tables e below _ (T72.setTop (mkF m 188 #[.val (.long q0), .second, .val (.int p1), .val (.int p2), .val (.long zz), .second, .val (.int r4), .val (.int mm), .val (.int tl), .val (.ref b9), .unset, .unset, .unset, .unset, .unset, .unset, .unset] [(.int tl), (.int mm), (.int (9 : Int32)), (.long zz), (.int (9 : Int32)), (.ref b9)])) := K73.trans (by
    refine XS.aload Xg72.here hx rfl (hb hby at_176) rfl rfl ?_
    refine XS.bipush Xg72.here hx rfl (hb hby at_178) ?_
    refine XS.lload Xg72.here hx rfl (hb hby at_180) rfl ?_
    refine XS.bipush Xg72.here hx rfl (hb hby at_182) ?_
    refine XS.iload Xg72.here hx rfl (hb hby at_184) rfl ?_
    show Steps p.tables e below (T72.setTop (mkF m 186 #[.val (.long q0), .second, .val (.int p1), .val (.int p2), .val (.long zz), .second, .val (.int r4), .val (.int mm), .val (.int tl), .val (.ref b9), .unset, .unset, .unset, .unset, .unset, .unset, .unset] [(.int mm), (.int (9 : Int32)), (.long zz), (.int (9 : Int32)), (.ref b9)])) _
    refine XS.iload Xg72.here hx rfl (hb hby at_186) rfl ?_
    exact Steps.refl _)
  have Z_75 : n0 ≤ h72.size := (Nat.le_trans Z_68 (Keep.of_wr W72).1)
  obtain ⟨_, _, ⟨T76, L76, k76, n76⟩, -, X76, ⟨Lc76, hQ76, l76, y76, z76⟩, st76⟩ := Jvm.LawKit.callS Xg72 hx (y := (⟨"com/example/thin_gateway/thingateway/avro/AvroDecoderReadLongPinLaw", "at", "(JIII)B"⟩ : MethodName)) hown (mvT hZ (hw _ (List.mem_of_getElem? (i := 6) rfl))) (mvT hZ (hw _ (List.mem_of_getElem? (i := 7) rfl))) (mvT hZ (hw _ (List.mem_of_getElem? (i := 2) rfl))) (mvT hZ (hw _ (List.mem_of_getElem? (i := 8) rfl))) (by decide) (backOf (W := 2) (rm2 l Z a0 hw [] zz (9 : Int32) mm tl h72 n0 Z_75 ) hZ (hw _ (List.mem_of_getElem? (i := 8) rfl)) (hw _ (List.mem_of_getElem? (i := 2) rfl)) (by decide) (by decide)) (g := (mkF m 188 #[.val (.long q0), .second, .val (.int p1), .val (.int p2), .val (.long zz), .second, .val (.int r4), .val (.int mm), .val (.int tl), .val (.ref b9), .unset, .unset, .unset, .unset, .unset, .unset, .unset] [(.int tl), (.int mm), (.int (9 : Int32)), (.long zz), (.int (9 : Int32)), (.ref b9)])) rfl (by rw [hml]; rfl) (argsL := [(.long zz), (.int (9 : Int32)), (.int mm), (.int tl)]) (rest := [(.int (9 : Int32)), (.ref b9)]) (lenOf pd_2 rfl) rfl (by show 2 * 0 + _ ≤ _; exact Nat.le_of_eq rfl) (hb hby at_188) (fun _ _ => ⟨rfl, e72, (by decide : 1 + 0 ≤ _), (by decide : 11 + 0 ≤ _)⟩)
  dsimp only [Pt.U, Pt.locs, Pt.cells, Pt.slots] at X76 l76 y76 z76 st76 hQ76
  subst l76 y76 z76
  obtain ⟨rfl, N76, eh76⟩ := hQ76
  have N76' := Fr.app Ng72 N76
  obtain ⟨Lg76, Xg76, Ng76⟩ : ∃ Lg, Stand p l e room_1 s m #[(.long q0), (.int p1), (.int p2)] below meth c T76 Lg 1 11 ∧ Fr n0 Lg := ⟨_, X76, N76'⟩
  have K78 : Steps p.tables e below _ (T76.setTop (mkF m 191 #[.val (.long q0), .second, .val (.int p1), .val (.int p2), .val (.long zz), .second, .val (.int r4), .val (.int mm), .val (.int tl), .val (.ref b9), .unset, .unset, .unset, .unset, .unset, .unset, .unset] [(.int (f_rm2 zz (9 : Int32) mm tl)), (.int (9 : Int32)), (.ref b9)])) := K74.trans (st76 _ (Steps.refl _))
  obtain ⟨r77, hr77⟩ : ∃ z : Int32, (f_rm2 zz (9 : Int32) mm tl) = z := ⟨_, rfl⟩
  rw [hr77] at K78
  obtain ⟨T79, h79, X79, e79, W79, V79, st79⟩ := own_stB Xg76 hx hZ eh76 Vw72 (j := (9 : Int32)) ⟨by decide, by decide⟩ 9 rfl (Nat.le_of_ble_eq_true rfl) (g := (mkF m 191 #[.val (.long q0), .second, .val (.int p1), .val (.int p2), .val (.long zz), .second, .val (.int r4), .val (.int mm), .val (.int tl), .val (.ref b9), .unset, .unset, .unset, .unset, .unset, .unset, .unset] [(.int r77), (.int (9 : Int32)), (.ref b9)])) rfl rfl (hb hby at_191)
  have K80 : Steps p.tables e below _ (T79.setTop (mkF m 192 #[.val (.long q0), .second, .val (.int p1), .val (.int p2), .val (.long zz), .second, .val (.int r4), .val (.int mm), .val (.int tl), .val (.ref b9), .unset, .unset, .unset, .unset, .unset, .unset, .unset] [])) := K78.trans st79
  have Vw79 : Arv Z h79 b9 k9 .byte (11 : Int32) [(.int (r14.toInt8.toInt32)), (.int (r21.toInt8.toInt32)), (.int (r28.toInt8.toInt32)), (.int (r35.toInt8.toInt32)), (.int (r42.toInt8.toInt32)), (.int (r49.toInt8.toInt32)), (.int (r56.toInt8.toInt32)), (.int (r63.toInt8.toInt32)), (.int (r70.toInt8.toInt32)), (.int (r77.toInt8.toInt32)), (.int (0 : Int32))] (.int (0 : Int32)) := V79
  have N79 := Fr.snoc X79 Ng76 ge_b9
  obtain ⟨Lg79, Xg79, Ng79⟩ : ∃ Lg, Stand p l e room_1 s m #[(.long q0), (.int p1), (.int p2)] below meth c T79 Lg 1 11 ∧ Fr n0 Lg := ⟨_, X79, N79⟩
  have K81 : Steps p.tables e below _ (T79.setTop (mkF m 204 #[.val (.long q0), .second, .val (.int p1), .val (.int p2), .val (.long zz), .second, .val (.int r4), .val (.int mm), .val (.int tl), .val (.ref b9), .unset, .unset, .unset, .unset, .unset, .unset, .unset] [(.int tl), (.int mm), (.int (10 : Int32)), (.long zz), (.int (10 : Int32)), (.ref b9)])) := K80.trans (by
    refine XS.aload Xg79.here hx rfl (hb hby at_192) rfl rfl ?_
    refine XS.bipush Xg79.here hx rfl (hb hby at_194) ?_
    refine XS.lload Xg79.here hx rfl (hb hby at_196) rfl ?_
    refine XS.bipush Xg79.here hx rfl (hb hby at_198) ?_
    refine XS.iload Xg79.here hx rfl (hb hby at_200) rfl ?_
    show Steps p.tables e below (T79.setTop (mkF m 202 #[.val (.long q0), .second, .val (.int p1), .val (.int p2), .val (.long zz), .second, .val (.int r4), .val (.int mm), .val (.int tl), .val (.ref b9), .unset, .unset, .unset, .unset, .unset, .unset, .unset] [(.int mm), (.int (10 : Int32)), (.long zz), (.int (10 : Int32)), (.ref b9)])) _
    refine XS.iload Xg79.here hx rfl (hb hby at_202) rfl ?_
    exact Steps.refl _)
  have Z_82 : n0 ≤ h79.size := (Nat.le_trans Z_75 (Keep.of_wr W79).1)
  obtain ⟨_, _, ⟨T83, L83, k83, n83⟩, -, X83, ⟨Lc83, hQ83, l83, y83, z83⟩, st83⟩ := Jvm.LawKit.callS Xg79 hx (y := (⟨"com/example/thin_gateway/thingateway/avro/AvroDecoderReadLongPinLaw", "at", "(JIII)B"⟩ : MethodName)) hown (mvT hZ (hw _ (List.mem_of_getElem? (i := 6) rfl))) (mvT hZ (hw _ (List.mem_of_getElem? (i := 7) rfl))) (mvT hZ (hw _ (List.mem_of_getElem? (i := 2) rfl))) (mvT hZ (hw _ (List.mem_of_getElem? (i := 8) rfl))) (by decide) (backOf (W := 2) (rm2 l Z a0 hw [] zz (10 : Int32) mm tl h79 n0 Z_82 ) hZ (hw _ (List.mem_of_getElem? (i := 8) rfl)) (hw _ (List.mem_of_getElem? (i := 2) rfl)) (by decide) (by decide)) (g := (mkF m 204 #[.val (.long q0), .second, .val (.int p1), .val (.int p2), .val (.long zz), .second, .val (.int r4), .val (.int mm), .val (.int tl), .val (.ref b9), .unset, .unset, .unset, .unset, .unset, .unset, .unset] [(.int tl), (.int mm), (.int (10 : Int32)), (.long zz), (.int (10 : Int32)), (.ref b9)])) rfl (by rw [hml]; rfl) (argsL := [(.long zz), (.int (10 : Int32)), (.int mm), (.int tl)]) (rest := [(.int (10 : Int32)), (.ref b9)]) (lenOf pd_2 rfl) rfl (by show 2 * 0 + _ ≤ _; exact Nat.le_of_eq rfl) (hb hby at_204) (fun _ _ => ⟨rfl, e79, (by decide : 1 + 0 ≤ _), (by decide : 11 + 0 ≤ _)⟩)
  dsimp only [Pt.U, Pt.locs, Pt.cells, Pt.slots] at X83 l83 y83 z83 st83 hQ83
  subst l83 y83 z83
  obtain ⟨rfl, N83, eh83⟩ := hQ83
  have N83' := Fr.app Ng79 N83
  obtain ⟨Lg83, Xg83, Ng83⟩ : ∃ Lg, Stand p l e room_1 s m #[(.long q0), (.int p1), (.int p2)] below meth c T83 Lg 1 11 ∧ Fr n0 Lg := ⟨_, X83, N83'⟩
  have K85 : Steps p.tables e below _ (T83.setTop (mkF m 207 #[.val (.long q0), .second, .val (.int p1), .val (.int p2), .val (.long zz), .second, .val (.int r4), .val (.int mm), .val (.int tl), .val (.ref b9), .unset, .unset, .unset, .unset, .unset, .unset, .unset] [(.int (f_rm2 zz (10 : Int32) mm tl)), (.int (10 : Int32)), (.ref b9)])) := K81.trans (st83 _ (Steps.refl _))
  obtain ⟨r84, hr84⟩ : ∃ z : Int32, (f_rm2 zz (10 : Int32) mm tl) = z := ⟨_, rfl⟩
  rw [hr84] at K85
  obtain ⟨T86, h86, X86, e86, W86, V86, st86⟩ := own_stB Xg83 hx hZ eh83 Vw79 (j := (10 : Int32)) ⟨by decide, by decide⟩ 10 rfl (Nat.le_of_ble_eq_true rfl) (g := (mkF m 207 #[.val (.long q0), .second, .val (.int p1), .val (.int p2), .val (.long zz), .second, .val (.int r4), .val (.int mm), .val (.int tl), .val (.ref b9), .unset, .unset, .unset, .unset, .unset, .unset, .unset] [(.int r84), (.int (10 : Int32)), (.ref b9)])) rfl rfl (hb hby at_207)
  have K87 : Steps p.tables e below _ (T86.setTop (mkF m 208 #[.val (.long q0), .second, .val (.int p1), .val (.int p2), .val (.long zz), .second, .val (.int r4), .val (.int mm), .val (.int tl), .val (.ref b9), .unset, .unset, .unset, .unset, .unset, .unset, .unset] [])) := K85.trans st86
  have Vw86 : Arv Z h86 b9 k9 .byte (11 : Int32) [(.int (r14.toInt8.toInt32)), (.int (r21.toInt8.toInt32)), (.int (r28.toInt8.toInt32)), (.int (r35.toInt8.toInt32)), (.int (r42.toInt8.toInt32)), (.int (r49.toInt8.toInt32)), (.int (r56.toInt8.toInt32)), (.int (r63.toInt8.toInt32)), (.int (r70.toInt8.toInt32)), (.int (r77.toInt8.toInt32)), (.int (r84.toInt8.toInt32))] (.int (0 : Int32)) := V86
  have N86 := Fr.snoc X86 Ng83 ge_b9
  obtain ⟨Lg86, Xg86, Ng86⟩ : ∃ Lg, Stand p l e room_1 s m #[(.long q0), (.int p1), (.int p2)] below meth c T86 Lg 1 11 ∧ Fr n0 Lg := ⟨_, X86, N86⟩
  obtain ⟨vsb, hvsb⟩ : ∃ z : List Value, [(.int (r14.toInt8.toInt32)), (.int (r21.toInt8.toInt32)), (.int (r28.toInt8.toInt32)), (.int (r35.toInt8.toInt32)), (.int (r42.toInt8.toInt32)), (.int (r49.toInt8.toInt32)), (.int (r56.toInt8.toInt32)), (.int (r63.toInt8.toInt32)), (.int (r70.toInt8.toInt32)), (.int (r77.toInt8.toInt32)), (.int (r84.toInt8.toInt32))] = z := ⟨_, rfl⟩
  rw [hvsb] at Vw86
  have hM := own_main2 hzz hr4 hmm htl (own_el2 hr14 hr21 hr28 hr35 hr42 hr49 hr56 hr63 hr70 hr77 hr84 hvsb)
  have Z_89 : n0 ≤ h86.size := (Nat.le_trans Z_82 (Keep.of_wr W86).1)
  obtain ⟨T88, h88, X88, e88, E88, A88, D88, -, st88⟩ := newO Xg86 hx hZ hown (hw _ (List.mem_of_getElem? (i := 10) rfl)) (hw _ (List.mem_of_getElem? (i := 11) rfl)) (hw _ (List.mem_of_getElem? (i := 12) rfl)) e86 (g := (mkF m 208 #[.val (.long q0), .second, .val (.int p1), .val (.int p2), .val (.long zz), .second, .val (.int r4), .val (.int mm), .val (.int tl), .val (.ref b9), .unset, .unset, .unset, .unset, .unset, .unset, .unset] [])) rfl (hb hby at_208) (by decide) (by decide)
  obtain ⟨b88, g88⟩ : ∃ z, z = h86.size := ⟨_, rfl⟩
  rw [← g88] at A88 D88 st88
  have ne_b9_b88 : b9 ≠ b88 := Nat.ne_of_lt (Nat.lt_of_lt_of_le Vw86.lt (Nat.le_of_eq g88.symm))
  have ge_b88 : n0 ≤ b88 := Nat.le_trans Z_89 (Nat.le_of_eq g88.symm)
  have K90 : Steps p.tables e below _ (T88.setTop (mkF m 211 #[.val (.long q0), .second, .val (.int p1), .val (.int p2), .val (.long zz), .second, .val (.int r4), .val (.int mm), .val (.int tl), .val (.ref b9), .unset, .unset, .unset, .unset, .unset, .unset, .unset] [(.ref b88)])) := K87.trans (st88 _ (Steps.refl _))
  have F88_input : Fld Z h88 b88 "com/example/thin_gateway/thingateway/avro/AvroDecoder" "input" "[B" .null := D88 (Or.inr (hw _ (List.mem_of_getElem? (i := 33) rfl))) (ty := (.array .byte)) (by decide)
  have F88_position : Fld Z h88 b88 "com/example/thin_gateway/thingateway/avro/AvroDecoder" "position" "I" (.int (0 : Int32)) := D88 (Or.inl (hw _ (List.mem_of_getElem? (i := 40) rfl))) (ty := .int) (by decide)
  have K91 : Steps p.tables e below _ (T88.setTop (mkF m 214 #[.val (.long q0), .second, .val (.int p1), .val (.int p2), .val (.long zz), .second, .val (.int r4), .val (.int mm), .val (.int tl), .val (.ref b9), .unset, .unset, .unset, .unset, .unset, .unset, .unset] [(.ref b9), (.ref b88), (.ref b88)])) := K90.trans (by
    refine XS.dup X88.here hx rfl (hb hby at_211) rfl rfl ?_
    refine XS.aload X88.here hx rfl (hb hby at_212) rfl rfl ?_
    exact Steps.refl _)
  have Z_92 : n0 ≤ h88.size := (Nat.le_trans Z_89 E88.1)
  have E_93 : Exa Z h88 b9 "[B" := ((((((((((((A9.wr W16).wr W23).wr W30).wr W37).wr W44).wr W51).wr W58).wr W65).wr W72).wr W79).wr W86).ext E88)
  obtain ⟨_, _, ⟨T94, L94, k94, n94⟩, -, X94, hS94, hgr94, ⟨Lc94, hQ94, l94, y94, z94⟩, st94⟩ := X88.specialBackS hx (y := (⟨"com/example/thin_gateway/thingateway/avro/AvroDecoder", "<init>", "([B)V"⟩ : MethodName)) rfl hown (mvT hZ (hw _ (List.mem_of_getElem? (i := 13) rfl))) (mvT hZ (hw _ (List.mem_of_getElem? (i := 14) rfl))) (mvT hZ (hw _ (List.mem_of_getElem? (i := 15) rfl))) (by decide) (backOfS (W := 1) (rm3 l Z a0 hw [] b88 b9 (0 : Int32) .null h88 n0 Z_92 A88 F88_position E_93 (Ne.symm ne_b9_b88) ge_b88 F88_input) hZ (hw _ (List.mem_of_getElem? (i := 15) rfl)) (hw _ (List.mem_of_getElem? (i := 12) rfl)) (by decide) (by decide)) (g := (mkF m 214 #[.val (.long q0), .second, .val (.int p1), .val (.int p2), .val (.long zz), .second, .val (.int r4), .val (.int mm), .val (.int tl), .val (.ref b9), .unset, .unset, .unset, .unset, .unset, .unset, .unset] [(.ref b9), (.ref b88), (.ref b88)])) rfl (by rw [hml]; rfl) K91 (a := b88) (argsL := [(.ref b9)]) (rest := [(.ref b88)]) (lenOf pd_3 rfl) rfl (by show 2 * 0 + _ ≤ _; exact Nat.le_of_eq rfl) (hb hby at_214) (fun _ _ => ⟨rfl, e88, (by decide : 2 + 2 ≤ _), (by decide : 13 + 24 ≤ _)⟩)
  dsimp only [Pt.U, Pt.locs, Pt.cells, Pt.slots] at X94 l94 y94 z94 st94 hQ94 hS94 hgr94
  subst l94 y94 z94
  have hZ94 : Z.Warmed39 (s.setVm T94.vm).vm := State.Warmed39.trans hZ hS94.1
  have hown94 : (s.setVm T94.vm).vm.findClass "com/example/thin_gateway/thingateway/avro/AvroDecoderReadLongPinLaw" = some m.cls := (hS94.1.alike.findClass _ _).trans hown
  have hZ := hZ94
  have hown := hown94
  obtain ⟨rfl, N94, Kp94, Q94_0, Q94_1, Q94_2⟩ := hQ94
  have hkk94 : T94.heap.size ≤ T94.heap.size := Nat.le_refl _
  have N94' := Fr.app Ng86 N94
  obtain ⟨Lg94, Xg94, Ng94⟩ : ∃ Lg, Stand p l e room_1 (s.setVm T94.vm) m #[(.long q0), (.int p1), (.int p2)] below meth c T94 Lg 4 37 ∧ Fr n0 Lg := ⟨_, X94, N94'⟩
  have K95 : Steps p.tables e below _ (T94.setTop (mkF m 217 #[.val (.long q0), .second, .val (.int p1), .val (.int p2), .val (.long zz), .second, .val (.int r4), .val (.int mm), .val (.int tl), .val (.ref b9), .unset, .unset, .unset, .unset, .unset, .unset, .unset] [(.ref b88)])) := st94
  have K96 : Steps p.tables e below _ (T94.setTop (mkF m 221 #[.val (.long q0), .second, .val (.int p1), .val (.int p2), .val (.long zz), .second, .val (.int r4), .val (.int mm), .val (.int tl), .val (.ref b9), .val (.ref b88), .unset, .unset, .unset, .unset, .unset, .unset] [(.ref b88)])) := K95.trans (by
    refine XS.astore Xg94.here hx rfl (hb hby at_217) rfl rfl (l' := #[.val (.long q0), .second, .val (.int p1), .val (.int p2), .val (.long zz), .second, .val (.int r4), .val (.int mm), .val (.int tl), .val (.ref b9), .val (.ref b88), .unset, .unset, .unset, .unset, .unset, .unset]) rfl ?_
    refine XS.aload Xg94.here hx rfl (hb hby at_219) rfl rfl ?_
    exact Steps.refl _)
  have Z_97 : n0 ≤ T94.heap.size := (Nat.le_trans Z_92 Kp94.1)
  have V_98 : Arv Z T94.heap b9 k9 .byte (11 : Int32) vsb (.int (0 : Int32)) := ((Vw86.ext E88).keep Kp94 (ninS ne_b9_b88 nin0))
  obtain ⟨cq99, kq99, q99a, q99b, q99c⟩ := isOf hZ rfl Q94_0
  obtain ⟨_, _, ⟨T99, L99, k99, n99⟩, -, X99, ⟨Lc99, hQ99, l99, y99, z99⟩, st99⟩ := Xg94.virtualBack hx (y := (⟨"com/example/thin_gateway/thingateway/avro/AvroDecoder", "readLong", "()J"⟩ : MethodName)) (z := (⟨"com/example/thin_gateway/thingateway/avro/AvroDecoder", "readLong", "()J"⟩ : MethodName)) hown (mvT hZ (hw _ (List.mem_of_getElem? (i := 34) rfl))) (mvT hZ (hw _ (List.mem_of_getElem? (i := 35) rfl))) (notFace_of_selects (args := #[]) (mvT hZ (hw _ (List.mem_of_getElem? (i := 37) rfl)))) (mvT hZ (hw _ (List.mem_of_getElem? (i := 37) rfl))) (mvT hZ (hw _ (List.mem_of_getElem? (i := 36) rfl))) (by decide) (backOf (W := 0) (rm6 l Z a0 hw [] b88 b9 k9 (11 : Int32) vsb (0 : Int32) T94.heap n0 Z_97 Q94_0 Q94_2 Q94_1 V_98 (Ne.symm ne_b9_b88) ge_b88 (hM.1)) hZ (hw _ (List.mem_of_getElem? (i := 38) rfl)) (hw _ (List.mem_of_getElem? (i := 12) rfl)) (by decide) (by decide)) q99a q99c (g := (mkF m 221 #[.val (.long q0), .second, .val (.int p1), .val (.int p2), .val (.long zz), .second, .val (.int r4), .val (.int mm), .val (.int tl), .val (.ref b9), .val (.ref b88), .unset, .unset, .unset, .unset, .unset, .unset] [(.ref b88)])) rfl (by rw [hml]; rfl) K96 (argsL := []) (rest := []) (lenOf pd_4 rfl) rfl (by show 2 * 0 + _ ≤ _; exact Nat.le_of_eq rfl) (hb hby at_221) (fun _ _ => ⟨rfl, rfl, (by decide : 4 + 0 ≤ _), (by decide : 37 + 0 ≤ _)⟩)
  dsimp only [Pt.U, Pt.locs, Pt.cells, Pt.slots] at X99 l99 y99 z99 st99 hQ99
  subst l99 y99 z99
  obtain ⟨rfl, N99, Kp99, Q99_0, Q99_1, Q99_2⟩ := hQ99
  have N99' := Fr.app Ng94 N99
  obtain ⟨Lg99, Xg99, Ng99⟩ : ∃ Lg, Stand p l e room_1 (s.setVm T94.vm) m #[(.long q0), (.int p1), (.int p2)] below meth c T99 Lg 4 37 ∧ Fr n0 Lg := ⟨_, X99, N99'⟩
  have K101 : Steps p.tables e below _ (T99.setTop (mkF m 224 #[.val (.long q0), .second, .val (.int p1), .val (.int p2), .val (.long zz), .second, .val (.int r4), .val (.int mm), .val (.int tl), .val (.ref b9), .val (.ref b88), .unset, .unset, .unset, .unset, .unset, .unset] [(.long (f_rm6 vsb (0 : Int32)))])) := st99
  obtain ⟨r100, hr100⟩ : ∃ z : Int64, (f_rm6 vsb (0 : Int32)) = z := ⟨_, rfl⟩
  rw [hr100] at K101
  rw [hM.2.1] at Q99_2
  have K102 : Steps p.tables e below _ (T99.setTop (mkF m 228 #[.val (.long q0), .second, .val (.int p1), .val (.int p2), .val (.long zz), .second, .val (.int r4), .val (.int mm), .val (.int tl), .val (.ref b9), .val (.ref b88), .val (.long r100), .second, .unset, .unset, .unset, .unset] [(.ref b88)])) := K101.trans (by
    refine XS.lstore Xg99.here hx rfl (hb hby at_224) rfl (l' := #[.val (.long q0), .second, .val (.int p1), .val (.int p2), .val (.long zz), .second, .val (.int r4), .val (.int mm), .val (.int tl), .val (.ref b9), .val (.ref b88), .val (.long r100), .second, .unset, .unset, .unset, .unset]) rfl ?_
    refine XS.aload Xg99.here hx rfl (hb hby at_226) rfl rfl ?_
    exact Steps.refl _)
  have Z_103 : n0 ≤ T99.heap.size := (Nat.le_trans Z_97 Kp99.1)
  have V_104 : Arv Z T99.heap b9 k9 .byte (11 : Int32) vsb (.int (0 : Int32)) := (V_98.keep Kp99 (ninS ne_b9_b88 nin0))
  obtain ⟨cq105, kq105, q105a, q105b, q105c⟩ := isOf hZ rfl Q99_0
  obtain ⟨_, _, ⟨T105, L105, k105, n105⟩, -, X105, ⟨Lc105, hQ105, l105, y105, z105⟩, st105⟩ := Xg99.virtualBack hx (y := (⟨"com/example/thin_gateway/thingateway/avro/AvroDecoder", "readLong", "()J"⟩ : MethodName)) (z := (⟨"com/example/thin_gateway/thingateway/avro/AvroDecoder", "readLong", "()J"⟩ : MethodName)) hown (mvT hZ (hw _ (List.mem_of_getElem? (i := 34) rfl))) (mvT hZ (hw _ (List.mem_of_getElem? (i := 35) rfl))) (notFace_of_selects (args := #[]) (mvT hZ (hw _ (List.mem_of_getElem? (i := 37) rfl)))) (mvT hZ (hw _ (List.mem_of_getElem? (i := 37) rfl))) (mvT hZ (hw _ (List.mem_of_getElem? (i := 36) rfl))) (by decide) (backOf (W := 0) (rm6 l Z a0 hw [] b88 b9 k9 (11 : Int32) vsb mm T99.heap n0 Z_103 Q99_0 Q99_1 Q99_2 V_104 (Ne.symm ne_b9_b88) ge_b88 (hM.2.2.2.1)) hZ (hw _ (List.mem_of_getElem? (i := 38) rfl)) (hw _ (List.mem_of_getElem? (i := 12) rfl)) (by decide) (by decide)) q105a q105c (g := (mkF m 228 #[.val (.long q0), .second, .val (.int p1), .val (.int p2), .val (.long zz), .second, .val (.int r4), .val (.int mm), .val (.int tl), .val (.ref b9), .val (.ref b88), .val (.long r100), .second, .unset, .unset, .unset, .unset] [(.ref b88)])) rfl (by rw [hml]; rfl) K102 (argsL := []) (rest := []) (lenOf pd_4 rfl) rfl (by show 2 * 0 + _ ≤ _; exact Nat.le_of_eq rfl) (hb hby at_228) (fun _ _ => ⟨rfl, rfl, (by decide : 4 + 0 ≤ _), (by decide : 37 + 0 ≤ _)⟩)
  dsimp only [Pt.U, Pt.locs, Pt.cells, Pt.slots] at X105 l105 y105 z105 st105 hQ105
  subst l105 y105 z105
  obtain ⟨rfl, N105, Kp105, Q105_0, Q105_1, Q105_2⟩ := hQ105
  have N105' := Fr.app Ng99 N105
  obtain ⟨Lg105, Xg105, Ng105⟩ : ∃ Lg, Stand p l e room_1 (s.setVm T94.vm) m #[(.long q0), (.int p1), (.int p2)] below meth c T105 Lg 4 37 ∧ Fr n0 Lg := ⟨_, X105, N105'⟩
  have K107 : Steps p.tables e below _ (T105.setTop (mkF m 231 #[.val (.long q0), .second, .val (.int p1), .val (.int p2), .val (.long zz), .second, .val (.int r4), .val (.int mm), .val (.int tl), .val (.ref b9), .val (.ref b88), .val (.long r100), .second, .unset, .unset, .unset, .unset] [(.long (f_rm6 vsb mm))])) := st105
  obtain ⟨r106, hr106⟩ : ∃ z : Int64, (f_rm6 vsb mm) = z := ⟨_, rfl⟩
  rw [hr106] at K107
  rw [hM.2.2.2.2.1] at Q105_2
  have K108 : Steps p.tables e below _ (T105.setTop (mkF m 237 #[.val (.long q0), .second, .val (.int p1), .val (.int p2), .val (.long zz), .second, .val (.int r4), .val (.int mm), .val (.int tl), .val (.ref b9), .val (.ref b88), .val (.long r100), .second, .val (.long r106), .second, .unset, .unset] [(.int (tl % (2 : Int32)))])) := K107.trans (by
    refine XS.lstore Xg105.here hx rfl (hb hby at_231) rfl (l' := #[.val (.long q0), .second, .val (.int p1), .val (.int p2), .val (.long zz), .second, .val (.int r4), .val (.int mm), .val (.int tl), .val (.ref b9), .val (.ref b88), .val (.long r100), .second, .val (.long r106), .second, .unset, .unset]) rfl ?_
    refine XS.iload Xg105.here hx rfl (hb hby at_233) rfl ?_
    refine XS.iconst Xg105.here hx rfl (hb hby at_235) ?_
    refine iremM Xg105 hx rfl (hb hby at_236) rfl (by decide) ?_
    exact Steps.refl _)
  obtain ⟨v109_0, hv109_0, S109⟩ : ∃ (v109_0 : Int64), (if (tl % (2 : Int32)) = (0 : Int32) then ((tl / (2 : Int32)).toInt64) else (-(((tl + (1 : Int32)) / (2 : Int32)).toInt64))) = v109_0 ∧ Steps p.tables e below (T105.setTop (mkF m 237 #[.val (.long q0), .second, .val (.int p1), .val (.int p2), .val (.long zz), .second, .val (.int r4), .val (.int mm), .val (.int tl), .val (.ref b9), .val (.ref b88), .val (.long r100), .second, .val (.long r106), .second, .unset, .unset] [(.int (tl % (2 : Int32)))])) (T105.setTop (mkF m 260 #[.val (.long q0), .second, .val (.int p1), .val (.int p2), .val (.long zz), .second, .val (.int r4), .val (.int mm), .val (.int tl), .val (.ref b9), .val (.ref b88), .val (.long r100), .second, .val (.long r106), .second, .val (.long v109_0), .second] [])) := by
    have R109 := Steps.refl (tb := p.tables) (e := e) (below := below) (T105.setTop (mkF m 237 #[.val (.long q0), .second, .val (.int p1), .val (.int p2), .val (.long zz), .second, .val (.int r4), .val (.int mm), .val (.int tl), .val (.ref b9), .val (.ref b88), .val (.long r100), .second, .val (.long r106), .second, .unset, .unset] [(.int (tl % (2 : Int32)))]))
    by_cases hc237 : (tl % (2 : Int32)) = (0 : Int32)
    · have K110 : Steps p.tables e below _ (T105.setTop (mkF m 260 #[.val (.long q0), .second, .val (.int p1), .val (.int p2), .val (.long zz), .second, .val (.int r4), .val (.int mm), .val (.int tl), .val (.ref b9), .val (.ref b88), .val (.long r100), .second, .val (.long r106), .second, .val (.long ((tl / (2 : Int32)).toInt64)), .second] [])) := R109.trans (by
        refine XS.ifNo Xg105.here hx rfl (hb hby at_237) rfl ((if0 _ _).trans (teq hc237).2) ?_
        refine XS.iload Xg105.here hx rfl (hb hby at_240) rfl ?_
        refine XS.iconst Xg105.here hx rfl (hb hby at_242) ?_
        refine XS.idiv Xg105.here hx rfl (hb hby at_243) rfl (by decide) ?_
        refine XS.i2l Xg105.here hx rfl (hb hby at_244) rfl ?_
        show Steps p.tables e below (T105.setTop (mkF m 245 #[.val (.long q0), .second, .val (.int p1), .val (.int p2), .val (.long zz), .second, .val (.int r4), .val (.int mm), .val (.int tl), .val (.ref b9), .val (.ref b88), .val (.long r100), .second, .val (.long r106), .second, .unset, .unset] [(.long ((tl / (2 : Int32)).toInt64))])) _
        refine XS.lstore Xg105.here hx rfl (hb hby at_245) rfl (l' := #[.val (.long q0), .second, .val (.int p1), .val (.int p2), .val (.long zz), .second, .val (.int r4), .val (.int mm), .val (.int tl), .val (.ref b9), .val (.ref b88), .val (.long r100), .second, .val (.long r106), .second, .val (.long ((tl / (2 : Int32)).toInt64)), .second]) rfl ?_
        refine XS.goto Xg105.here hx rfl (pc0 := 247) (pc' := 260) rfl (hb hby at_247) (by decide) (by decide) ?_
        exact Steps.refl _)
      exact ⟨((tl / (2 : Int32)).toInt64), (by rw [if_pos hc237]), K110⟩
    · have K111 : Steps p.tables e below _ (T105.setTop (mkF m 260 #[.val (.long q0), .second, .val (.int p1), .val (.int p2), .val (.long zz), .second, .val (.int r4), .val (.int mm), .val (.int tl), .val (.ref b9), .val (.ref b88), .val (.long r100), .second, .val (.long r106), .second, .val (.long (-(((tl + (1 : Int32)) / (2 : Int32)).toInt64))), .second] [])) := R109.trans (by
        refine XS.ifYes Xg105.here hx rfl (pc0 := 237) (pc' := 250) rfl (hb hby at_237) rfl ((if0 _ _).trans (feq hc237).2) (by decide) (by decide) ?_
        refine XS.iload Xg105.here hx rfl (hb hby at_250) rfl ?_
        refine XS.iconst Xg105.here hx rfl (hb hby at_252) ?_
        refine XS.iadd Xg105.here hx rfl (hb hby at_253) rfl ?_
        refine XS.iconst Xg105.here hx rfl (hb hby at_254) ?_
        show Steps p.tables e below (T105.setTop (mkF m 255 #[.val (.long q0), .second, .val (.int p1), .val (.int p2), .val (.long zz), .second, .val (.int r4), .val (.int mm), .val (.int tl), .val (.ref b9), .val (.ref b88), .val (.long r100), .second, .val (.long r106), .second, .unset, .unset] [(.int (2 : Int32)), (.int (tl + (1 : Int32)))])) _
        refine XS.idiv Xg105.here hx rfl (hb hby at_255) rfl (by decide) ?_
        refine XS.i2l Xg105.here hx rfl (hb hby at_256) rfl ?_
        refine XS.lneg Xg105.here hx rfl (hb hby at_257) rfl ?_
        refine XS.lstore Xg105.here hx rfl (hb hby at_258) rfl (l' := #[.val (.long q0), .second, .val (.int p1), .val (.int p2), .val (.long zz), .second, .val (.int r4), .val (.int mm), .val (.int tl), .val (.ref b9), .val (.ref b88), .val (.long r100), .second, .val (.long r106), .second, .val (.long (-(((tl + (1 : Int32)) / (2 : Int32)).toInt64))), .second]) rfl ?_
        exact Steps.refl _)
      exact ⟨(-(((tl + (1 : Int32)) / (2 : Int32)).toInt64)), (by rw [if_neg hc237]), K111⟩
  have K112 := K108.trans S109
  have K113 : Steps p.tables e below _ (T105.setTop (mkF m 264 #[.val (.long q0), .second, .val (.int p1), .val (.int p2), .val (.long zz), .second, .val (.int r4), .val (.int mm), .val (.int tl), .val (.ref b9), .val (.ref b88), .val (.long r100), .second, .val (.long r106), .second, .val (.long v109_0), .second] [(.int (lcmpW r100 q0))])) := K112.trans (by
    refine XS.lload Xg105.here hx rfl (hb hby at_260) rfl ?_
    refine XS.lloadN Xg105.here hx rfl (hb hby at_262) rfl ?_
    refine XS.lcmp Xg105.here hx rfl (hb hby at_263) rfl ?_
    exact Steps.refl _)
  obtain ⟨T114, L114, v114_0, X114, e114, N114, hv114_0, S114⟩ : ∃ (T114 : State) (L114 : List Loc) (v114_0 : Int32), Stand p l e room_1 (s.setVm T94.vm) m #[(.long q0), (.int p1), (.int p2)] below meth c T114 L114 4 37 ∧ T114.heap = T105.heap ∧ Fr n0 L114 ∧ (if r100 = q0 then (if r106 = v109_0 then (if ((if (mm + (1 : Int32)) = (11 : Int32) then (1 : Int32) else (0 : Int32)) &&& 1) = (if mm = (10 : Int32) then (1 : Int32) else (0 : Int32)) then (1 : Int32) else (0 : Int32)) else (0 : Int32)) else (0 : Int32)) = v114_0 ∧ Steps p.tables e below (T105.setTop (mkF m 264 #[.val (.long q0), .second, .val (.int p1), .val (.int p2), .val (.long zz), .second, .val (.int r4), .val (.int mm), .val (.int tl), .val (.ref b9), .val (.ref b88), .val (.long r100), .second, .val (.long r106), .second, .val (.long v109_0), .second] [(.int (lcmpW r100 q0))])) (T114.setTop (mkF m 300 #[.val (.long q0), .second, .val (.int p1), .val (.int p2), .val (.long zz), .second, .val (.int r4), .val (.int mm), .val (.int tl), .val (.ref b9), .val (.ref b88), .val (.long r100), .second, .val (.long r106), .second, .val (.long v109_0), .second] [(.int v114_0)])) := by
    have R114 := Steps.refl (tb := p.tables) (e := e) (below := below) (T105.setTop (mkF m 264 #[.val (.long q0), .second, .val (.int p1), .val (.int p2), .val (.long zz), .second, .val (.int r4), .val (.int mm), .val (.int tl), .val (.ref b9), .val (.ref b88), .val (.long r100), .second, .val (.long r106), .second, .val (.long v109_0), .second] [(.int (lcmpW r100 q0))]))
    by_cases hc264 : r100 = q0
    · have K115 : Steps p.tables e below _ (T105.setTop (mkF m 272 #[.val (.long q0), .second, .val (.int p1), .val (.int p2), .val (.long zz), .second, .val (.int r4), .val (.int mm), .val (.int tl), .val (.ref b9), .val (.ref b88), .val (.long r100), .second, .val (.long r106), .second, .val (.long v109_0), .second] [(.int (lcmpW r106 v109_0))])) := R114.trans (by
        refine XS.ifNo Xg105.here hx rfl (hb hby at_264) rfl ((if0 _ _).trans (teq ((lw_eq r100 q0).mpr hc264)).2) ?_
        refine XS.lload Xg105.here hx rfl (hb hby at_267) rfl ?_
        refine XS.lload Xg105.here hx rfl (hb hby at_269) rfl ?_
        refine XS.lcmp Xg105.here hx rfl (hb hby at_271) rfl ?_
        exact Steps.refl _)
      by_cases hc272 : r106 = v109_0
      · have K116 : Steps p.tables e below _ (T105.setTop (mkF m 277 #[.val (.long q0), .second, .val (.int p1), .val (.int p2), .val (.long zz), .second, .val (.int r4), .val (.int mm), .val (.int tl), .val (.ref b9), .val (.ref b88), .val (.long r100), .second, .val (.long r106), .second, .val (.long v109_0), .second] [(.ref b88)])) := K115.trans (by
          refine XS.ifNo Xg105.here hx rfl (hb hby at_272) rfl ((if0 _ _).trans (teq ((lw_eq r106 v109_0).mpr hc272)).2) ?_
          refine XS.aload Xg105.here hx rfl (hb hby at_275) rfl rfl ?_
          exact Steps.refl _)
        have Z_117 : n0 ≤ T105.heap.size := (Nat.le_trans Z_103 Kp105.1)
        have V_118 : Arv Z T105.heap b9 k9 .byte (11 : Int32) vsb (.int (0 : Int32)) := (V_104.keep Kp105 (ninS ne_b9_b88 nin0))
        obtain ⟨cq119, kq119, q119a, q119b, q119c⟩ := isOf hZ rfl Q105_0
        obtain ⟨_, _, ⟨T119, L119, k119, n119⟩, -, X119, ⟨Lc119, hQ119, l119, y119, z119⟩, st119⟩ := Xg105.virtualBack hx (y := (⟨"com/example/thin_gateway/thingateway/avro/AvroDecoder", "isAtEnd", "()Z"⟩ : MethodName)) (z := (⟨"com/example/thin_gateway/thingateway/avro/AvroDecoder", "isAtEnd", "()Z"⟩ : MethodName)) hown (mvT hZ (hw _ (List.mem_of_getElem? (i := 41) rfl))) (mvT hZ (hw _ (List.mem_of_getElem? (i := 42) rfl))) (notFace_of_selects (args := #[]) (mvT hZ (hw _ (List.mem_of_getElem? (i := 44) rfl)))) (mvT hZ (hw _ (List.mem_of_getElem? (i := 44) rfl))) (mvT hZ (hw _ (List.mem_of_getElem? (i := 43) rfl))) (by decide) (backOf (W := 0) (rm7 l Z a0 hw [] b88 b9 k9 (11 : Int32) vsb (mm + (1 : Int32)) T105.heap n0 Z_117 Q105_1 Q105_2 V_118) hZ (hw _ (List.mem_of_getElem? (i := 45) rfl)) (hw _ (List.mem_of_getElem? (i := 12) rfl)) (by decide) (by decide)) q119a q119c (g := (mkF m 277 #[.val (.long q0), .second, .val (.int p1), .val (.int p2), .val (.long zz), .second, .val (.int r4), .val (.int mm), .val (.int tl), .val (.ref b9), .val (.ref b88), .val (.long r100), .second, .val (.long r106), .second, .val (.long v109_0), .second] [(.ref b88)])) rfl (by rw [hml]; rfl) K116 (argsL := []) (rest := []) (lenOf pd_5 rfl) rfl (by show 2 * 0 + _ ≤ _; exact Nat.le_of_eq rfl) (hb hby at_277) (fun _ _ => ⟨rfl, rfl, (by decide : 4 + 0 ≤ _), (by decide : 37 + 0 ≤ _)⟩)
        dsimp only [Pt.U, Pt.locs, Pt.cells, Pt.slots] at X119 l119 y119 z119 st119 hQ119
        subst l119 y119 z119
        obtain ⟨rfl, N119, eh119⟩ := hQ119
        have N119' := Fr.app Ng105 N119
        obtain ⟨Lg119, Xg119, Ng119⟩ : ∃ Lg, Stand p l e room_1 (s.setVm T94.vm) m #[(.long q0), (.int p1), (.int p2)] below meth c T119 Lg 4 37 ∧ Fr n0 Lg := ⟨_, X119, N119'⟩
        have K121 : Steps p.tables e below _ (T119.setTop (mkF m 280 #[.val (.long q0), .second, .val (.int p1), .val (.int p2), .val (.long zz), .second, .val (.int r4), .val (.int mm), .val (.int tl), .val (.ref b9), .val (.ref b88), .val (.long r100), .second, .val (.long r106), .second, .val (.long v109_0), .second] [(.int ((if (mm + (1 : Int32)) = (11 : Int32) then (1 : Int32) else (0 : Int32)) &&& 1))])) := st119
        obtain ⟨r120, hr120⟩ : ∃ z : Int32, ((if (mm + (1 : Int32)) = (11 : Int32) then (1 : Int32) else (0 : Int32)) &&& 1) = z := ⟨_, rfl⟩
        rw [hr120] at K121
        have K122 : Steps p.tables e below _ (T119.setTop (mkF m 284 #[.val (.long q0), .second, .val (.int p1), .val (.int p2), .val (.long zz), .second, .val (.int r4), .val (.int mm), .val (.int tl), .val (.ref b9), .val (.ref b88), .val (.long r100), .second, .val (.long r106), .second, .val (.long v109_0), .second] [(.int (10 : Int32)), (.int mm), (.int r120)])) := K121.trans (by
          refine XS.iload Xg119.here hx rfl (hb hby at_280) rfl ?_
          refine XS.bipush Xg119.here hx rfl (hb hby at_282) ?_
          exact Steps.refl _)
        obtain ⟨v123_0, hv123_0, S123⟩ : ∃ (v123_0 : Int32), (if mm = (10 : Int32) then (1 : Int32) else (0 : Int32)) = v123_0 ∧ Steps p.tables e below (T119.setTop (mkF m 284 #[.val (.long q0), .second, .val (.int p1), .val (.int p2), .val (.long zz), .second, .val (.int r4), .val (.int mm), .val (.int tl), .val (.ref b9), .val (.ref b88), .val (.long r100), .second, .val (.long r106), .second, .val (.long v109_0), .second] [(.int (10 : Int32)), (.int mm), (.int r120)])) (T119.setTop (mkF m 292 #[.val (.long q0), .second, .val (.int p1), .val (.int p2), .val (.long zz), .second, .val (.int r4), .val (.int mm), .val (.int tl), .val (.ref b9), .val (.ref b88), .val (.long r100), .second, .val (.long r106), .second, .val (.long v109_0), .second] [(.int v123_0), (.int r120)])) := by
          have R123 := Steps.refl (tb := p.tables) (e := e) (below := below) (T119.setTop (mkF m 284 #[.val (.long q0), .second, .val (.int p1), .val (.int p2), .val (.long zz), .second, .val (.int r4), .val (.int mm), .val (.int tl), .val (.ref b9), .val (.ref b88), .val (.long r100), .second, .val (.long r106), .second, .val (.long v109_0), .second] [(.int (10 : Int32)), (.int mm), (.int r120)]))
          by_cases hc284 : mm = (10 : Int32)
          · have K124 : Steps p.tables e below _ (T119.setTop (mkF m 292 #[.val (.long q0), .second, .val (.int p1), .val (.int p2), .val (.long zz), .second, .val (.int r4), .val (.int mm), .val (.int tl), .val (.ref b9), .val (.ref b88), .val (.long r100), .second, .val (.long r106), .second, .val (.long v109_0), .second] [(.int (1 : Int32)), (.int r120)])) := R123.trans (by
              refine XS.icmpNo Xg119.here hx rfl (hb hby at_284) rfl (teq hc284).2 ?_
              refine XS.iconst Xg119.here hx rfl (hb hby at_287) ?_
              refine XS.goto Xg119.here hx rfl (pc0 := 288) (pc' := 292) rfl (hb hby at_288) (by decide) (by decide) ?_
              exact Steps.refl _)
            exact ⟨(1 : Int32), (by rw [if_pos hc284]), K124⟩
          · have K125 : Steps p.tables e below _ (T119.setTop (mkF m 292 #[.val (.long q0), .second, .val (.int p1), .val (.int p2), .val (.long zz), .second, .val (.int r4), .val (.int mm), .val (.int tl), .val (.ref b9), .val (.ref b88), .val (.long r100), .second, .val (.long r106), .second, .val (.long v109_0), .second] [(.int (0 : Int32)), (.int r120)])) := R123.trans (by
              refine XS.icmpYes Xg119.here hx rfl (pc0 := 284) (pc' := 291) rfl (hb hby at_284) rfl (feq hc284).2 (by decide) (by decide) ?_
              refine XS.iconst Xg119.here hx rfl (hb hby at_291) ?_
              exact Steps.refl _)
            exact ⟨(0 : Int32), (by rw [if_neg hc284]), K125⟩
        have K126 := K122.trans S123
        by_cases hc292 : r120 = v123_0
        · have K127 : Steps p.tables e below _ (T119.setTop (mkF m 300 #[.val (.long q0), .second, .val (.int p1), .val (.int p2), .val (.long zz), .second, .val (.int r4), .val (.int mm), .val (.int tl), .val (.ref b9), .val (.ref b88), .val (.long r100), .second, .val (.long r106), .second, .val (.long v109_0), .second] [(.int (1 : Int32))])) := K126.trans (by
            refine XS.icmpNo Xg119.here hx rfl (hb hby at_292) rfl (teq hc292).2 ?_
            refine XS.iconst Xg119.here hx rfl (hb hby at_295) ?_
            refine XS.goto Xg119.here hx rfl (pc0 := 296) (pc' := 300) rfl (hb hby at_296) (by decide) (by decide) ?_
            exact Steps.refl _)
          subst hv123_0
          subst hr120
          exact ⟨T119, _, (1 : Int32), Xg119, eh119, Ng119, (by rw [if_pos hc264, if_pos hc272, if_pos hc292]), K127⟩
        · have K128 : Steps p.tables e below _ (T119.setTop (mkF m 300 #[.val (.long q0), .second, .val (.int p1), .val (.int p2), .val (.long zz), .second, .val (.int r4), .val (.int mm), .val (.int tl), .val (.ref b9), .val (.ref b88), .val (.long r100), .second, .val (.long r106), .second, .val (.long v109_0), .second] [(.int (0 : Int32))])) := K126.trans (by
            refine XS.icmpYes Xg119.here hx rfl (pc0 := 292) (pc' := 299) rfl (hb hby at_292) rfl (feq hc292).2 (by decide) (by decide) ?_
            refine XS.iconst Xg119.here hx rfl (hb hby at_299) ?_
            exact Steps.refl _)
          subst hv123_0
          subst hr120
          exact ⟨T119, _, (0 : Int32), Xg119, eh119, Ng119, (by rw [if_pos hc264, if_pos hc272, if_neg hc292]), K128⟩
      · have K129 : Steps p.tables e below _ (T105.setTop (mkF m 300 #[.val (.long q0), .second, .val (.int p1), .val (.int p2), .val (.long zz), .second, .val (.int r4), .val (.int mm), .val (.int tl), .val (.ref b9), .val (.ref b88), .val (.long r100), .second, .val (.long r106), .second, .val (.long v109_0), .second] [(.int (0 : Int32))])) := K115.trans (by
          refine XS.ifYes Xg105.here hx rfl (pc0 := 272) (pc' := 299) rfl (hb hby at_272) rfl ((if0 _ _).trans (feq (fun z => hc272 ((lw_eq r106 v109_0).mp z))).2) (by decide) (by decide) ?_
          refine XS.iconst Xg105.here hx rfl (hb hby at_299) ?_
          exact Steps.refl _)
        exact ⟨T105, _, (0 : Int32), Xg105, rfl, Ng105, (by rw [if_pos hc264, if_neg hc272]), K129⟩
    · have K130 : Steps p.tables e below _ (T105.setTop (mkF m 300 #[.val (.long q0), .second, .val (.int p1), .val (.int p2), .val (.long zz), .second, .val (.int r4), .val (.int mm), .val (.int tl), .val (.ref b9), .val (.ref b88), .val (.long r100), .second, .val (.long r106), .second, .val (.long v109_0), .second] [(.int (0 : Int32))])) := R114.trans (by
        refine XS.ifYes Xg105.here hx rfl (pc0 := 264) (pc' := 299) rfl (hb hby at_264) rfl ((if0 _ _).trans (feq (fun z => hc264 ((lw_eq r100 q0).mp z))).2) (by decide) (by decide) ?_
        refine XS.iconst Xg105.here hx rfl (hb hby at_299) ?_
        exact Steps.refl _)
      exact ⟨T105, _, (0 : Int32), Xg105, rfl, Ng105, (by rw [if_neg hc264]), K130⟩
  have K131 := K113.trans S114
  have hone : (v114_0 &&& 1) = (1 : Int32) := own_law_0 q0 p1 p2 zz r4 mm tl r14 r21 r28 r35 r42 r49 r56 r63 r70 r77 r84 vsb r100 r106 v109_0 v114_0 hzz hr4 hmm htl hr14 hr21 hr28 hr35 hr42 hr49 hr56 hr63 hr70 hr77 hr84 hvsb hr100 hr106 hv109_0 hv114_0
  have Y_132 : T94.heap.size ≤ T105.heap.size := (Nat.le_trans (Nat.le_trans hkk94 Kp99.1) Kp105.1)
  obtain ⟨fs, hr, hrun, hended, hEW⟩ := X114.leaveW hS94 (by rw [e114]; exact Y_132) (v := some (.int (v114_0 &&& 1))) (fun h => by rw [Bd.returns] at h; cases h)
  exact ⟨_, _, K131.trans (retN X114 hx (t := .boolean) Bd.returns (by simp) (hb hby at_300) hr), hrun, hended, _, _, rfl, ⟨by rw [hone], N114⟩, ⟨_, rfl⟩, hEW.2.1, hEW.2.2.1, hEW.2.2.2.mono (by decide) (by decide)⟩
set_option maxRecDepth 65536 in
set_option maxHeartbeats 40000000 in
theorem comes_1 {Post : Tables → Env → Array Value → State → Outcome → State → Prop} (hpost : ∀ tb e args s v u, (limb_1_1.after args s (.returned v) u = true ∧ limb_1_2.after args s (.returned v) u = true ∧ True) → ReturnedEndW s (.returned v) u (Jvm.fieldLocs frame_1_writes args s ++ Jvm.arrayLocs frame_1_arrays args s ++ Jvm.staticLocs frame_1_statics s) 16 1152 → Post tb e args s (.returned v) u) :
    ArmFor flags0 classFile x code maxLocals ret World_1 tables_1 room_1 Calls_1 rest_1 Pre_1 Post := by
  intro l hfl _ _ p e ha hc hk s m args below hf hA hF happ hP
  obtain ⟨hcalls, hrest, hpre⟩ := hP
  obtain ⟨-, -, -, hnamed, -, -, -, hat⟩ := (Spec.applies_iff hf).mp happ
  obtain ⟨hg, hn⟩ := and_e (Cond.before_iff.mp (show (Jvm.Cond.and given_1 narrow_1).before args s = true from hpre))
  obtain ⟨g1, g2⟩ := and_e hg
  obtain ⟨g3, g4⟩ := and_e g2
  obtain ⟨g5, g6⟩ := and_e g4
  obtain ⟨w0, w1, w2, rfl⟩ : ∃ w0 w1 w2 : Value, args = #[w0, w1, w2] := by
    have hs : args.size = 3 := by simpa [Cond.value, given_1] using g1
    obtain ⟨L⟩ := args
    match L, hs with
    | [w0, w1, w2], _ => exact ⟨w0, w1, w2, rfl⟩
  have hw := fun d (hd : d ∈ tables_1) => atoms_spec (ws := Jvm.Cond.code x code maxLocals ret :: tables_1) hat d (List.mem_cons_of_mem _ hd)
  obtain ⟨i0, ei0⟩ := isL_v g3
  obtain rfl : w0 = (.long i0) := Option.some.inj ei0
  obtain ⟨i1, ei1⟩ := is_v g5
  obtain rfl : w1 = (.int i1) := Option.some.inj ei1
  obtain ⟨i2, ei2⟩ := is_v g6
  obtain rfl : w2 = (.int i2) := Option.some.inj ei2
  obtain ⟨n, o, h1, h2, h3, _, L, rfl, ⟨rfl, N⟩, hq⟩ := rm0 l s _ hw tables_1 i0 i1 i2 s.heap s.heap.size (Nat.le_refl _) p e ha hc hk s m _ below hf ((Spec.applies_iff_loose hf).mp happ).1 ⟨rfl, State.Warmed39.refl s, rfl⟩ trivial
  refine ⟨n, _, h1, h2, h3, hpost _ _ _ _ _ _ ⟨Cond.after_iff.mpr rfl, Cond.after_iff.mpr (eq_i res_at (Term.int_eval (1)) rfl), trivial⟩ ⟨hq.1, hq.2.1, hq.2.2.1, (hq.2.2.2.sift fun y hy => Or.inr (N y hy)).mono (by decide) (by decide)⟩⟩
theorem main_1_1 : Claimed_1_1 := comes_1 fun _ _ _ _ _ _ h hF => ⟨h.1, hF⟩
theorem main_1_2 : Claimed_1_2 := comes_1 fun _ _ _ _ _ _ h hF => ⟨h.2.1, hF⟩
end Jvm.Pilot.@@N@@
namespace Jvm.Pilot.@@N@@
open Jvm Jvm.ClassFile Sem Op Lib Jvm.Free Jvm.Stand Jvm.Pilot.@@N@@.Jvm.D
/-! MADE BY PROGRAM (witnessworld.py) out of the Statement's table words and the real class files: 15 classes; the members and pool entries that the words name. The judged class is class 1, her method 3. -/
namespace start1
open Jvm.ClassFile
def u (s : String) : CpInfo := .utf8 (stringToUtf16 s)
/-- a pool by its gaps: so many unusable entries, then the entry; so many at the end -/
def gap : Nat → List CpInfo → List CpInfo
  | 0, r => r
  | n + 1, r => .unusable :: gap n r
def poolList (es : List (Nat × CpInfo)) (last : Nat) : List CpInfo := es.foldr (fun e r => gap e.1 (e.2 :: r)) (gap last [])
def pool (es : List (Nat × CpInfo)) (last : Nat) : Array CpInfo := ⟨poolList es last⟩
def fileOf (pool : Array CpInfo) (this : Nat) (attrs : Array Attribute := #[]) (ms : Array MethodInfo := #[]) (fl : Nat := 33) (sup : Nat := 0) (ifs : Array Nat := #[]) (fds : Array FieldInfo := #[]) : ClassFile where
  minorVersion := 0
  majorVersion := 65
  constantPool := pool
  accessFlags := fl
  thisClass := this
  superClass := sup
  interfaces := ifs
  fields := fds
  methods := ms
  attributes := attrs
def plain (name : String) (sup : Option ClassId) : Class where
  name := name
  kind := .ordinary
  loader := none
  accessFlags := 33
  super := sup
  interfaces := #[]
  cf := none
  fields := #[]
  methods := #[]
  instanceTypes := #[]
  staticTypes := #[]
  resolved := #[]
  callSites := []
  init := .initialized
  statics := none
  mirror := none

def pool0 : Array CpInfo := pool [(5, u "<init>"), (0, u "()V"), (1, .class_ 10), (1, u "java/lang/Object")] 113

def k0c0 : Code := { maxStack := 0, maxLocals := 1, code := object_method_1_code, exceptionTable := #[], attributes := #[] }
def k0m0 : Method := { name := "<init>", desc := "()V", sig := { parameters := [], returnType := none }, accessFlags := 1, code := some k0c0 }
/-- java/lang/Object -/
def k0 : Class := { plain "java/lang/Object" none with
  accessFlags := 33
  interfaces := #[]
  cf := some (fileOf pool0 8 #[] #[{ accessFlags := 1, nameIndex := 5, descriptorIndex := 6, attributes := #[] }] 33 0 #[] #[])
  fields := #[]
  methods := #[k0m0]
  instanceTypes := #[]
  staticTypes := #[]
  resolved := Array.replicate 124 none
  statics := none }

def pool1 : Array CpInfo := pool [(2, .class_ 4), (1, u "java/lang/Object"), (0, u "<init>"), (0, u "()V"), (0, .long 127), (1, .methodref 10 11), (0, .class_ 12), (0, .nameAndType 13 14), (0, u "com/example/thin_gateway/thingateway/avro/AvroDecoderReadLongPinLaw"), (0, u "canonicalLength"), (0, u "(J)I"), (0, .integer 2147483647), (0, .methodref 10 17), (0, .nameAndType 18 19), (0, u "at"), (0, u "(JIII)B"), (0, .class_ 21), (0, u "com/example/thin_gateway/thingateway/avro/AvroDecoder"), (0, .methodref 20 23), (0, .nameAndType 5 24), (0, u "([B)V"), (0, .methodref 20 26), (0, .nameAndType 27 28), (0, u "readLong"), (0, u "()J"), (0, .methodref 20 30), (0, .nameAndType 31 32), (0, u "isAtEnd"), (0, u "()Z"), (3, u "law"), (0, u "(JII)Z")] 7

def k1m0 : Method := { name := "<init>", desc := "()V", sig := { parameters := [], returnType := none }, accessFlags := 1, code := none }
def k1c1 : Code := { maxStack := 4, maxLocals := 2, code := method_2_code, exceptionTable := #[], attributes := #[] }
def k1m1 : Method := { name := "canonicalLength", desc := "(J)I", sig := { parameters := [.long], returnType := some .int }, accessFlags := 10, code := some k1c1 }
def k1c2 : Code := { maxStack := 4, maxLocals := 6, code := method_3_code, exceptionTable := #[], attributes := #[] }
def k1m2 : Method := { name := "at", desc := "(JIII)B", sig := { parameters := [.long, .int, .int, .int], returnType := some .byte }, accessFlags := 10, code := some k1c2 }
def k1c3 : Code := { maxStack := 7, maxLocals := 17, code := code, exceptionTable := #[], attributes := #[] }
def k1m3 : Method := { name := "law", desc := "(JII)Z", sig := { parameters := [.long, .int, .int], returnType := some .boolean }, accessFlags := 9, code := some k1c3 }
/-- com/example/thin_gateway/thingateway/avro/AvroDecoderReadLongPinLaw -/
def k1 : Class := { plain "com/example/thin_gateway/thingateway/avro/AvroDecoderReadLongPinLaw" (some 0) with
  accessFlags := 49
  interfaces := #[]
  cf := some (fileOf pool1 10 #[] #[{ accessFlags := 1, nameIndex := 5, descriptorIndex := 6, attributes := #[] }, { accessFlags := 10, nameIndex := 13, descriptorIndex := 14, attributes := #[] }, { accessFlags := 10, nameIndex := 18, descriptorIndex := 19, attributes := #[] }, { accessFlags := 9, nameIndex := 36, descriptorIndex := 37, attributes := #[] }] 49 2 #[] #[])
  fields := #[]
  methods := #[k1m0, k1m1, k1m2, k1m3]
  instanceTypes := #[]
  staticTypes := #[]
  resolved := Array.replicate 45 none
  statics := none }

def pool2 : Array CpInfo := pool [(1, .methodref 2 3), (0, .class_ 4), (0, .nameAndType 5 6), (0, u "java/lang/Object"), (0, u "<init>"), (0, u "()V"), (0, .string 8), (0, u "input"), (0, .methodref 10 11), (0, .class_ 12), (0, .nameAndType 13 14), (0, u "java/util/Objects"), (0, u "requireNonNull"), (0, u "(Ljava/lang/Object;Ljava/lang/String;)Ljava/lang/Object;"), (0, .class_ 16), (0, u "[B"), (0, .fieldref 18 19), (0, .class_ 20), (0, .nameAndType 8 16), (0, u "com/example/thin_gateway/thingateway/avro/AvroDecoder"), (0, .fieldref 18 22), (0, .nameAndType 23 24), (0, u "position"), (0, u "I"), (2, u "readLong"), (0, u "()J"), (64, u "([B)V"), (2, u "isAtEnd"), (0, u "()Z")] 35

def k2c0 : Code := { maxStack := 3, maxLocals := 2, code := prog_1_method_1_code, exceptionTable := #[], attributes := #[] }
def k2m0 : Method := { name := "<init>", desc := "([B)V", sig := { parameters := [(.array .byte)], returnType := none }, accessFlags := 1, code := some k2c0 }
def k2c1 : Code := { maxStack := 2, maxLocals := 1, code := prog_1_method_2_code, exceptionTable := #[], attributes := #[] }
def k2m1 : Method := { name := "isAtEnd", desc := "()Z", sig := { parameters := [], returnType := some .boolean }, accessFlags := 1, code := some k2c1 }
def k2c2 : Code := { maxStack := 6, maxLocals := 7, code := prog_1_method_4_code, exceptionTable := #[], attributes := #[] }
def k2m2 : Method := { name := "readLong", desc := "()J", sig := { parameters := [], returnType := some .long }, accessFlags := 1, code := some k2c2 }
/-- com/example/thin_gateway/thingateway/avro/AvroDecoder -/
def k2 : Class := { plain "com/example/thin_gateway/thingateway/avro/AvroDecoder" (some 0) with
  accessFlags := 49
  interfaces := #[]
  cf := some (fileOf pool2 18 #[] #[{ accessFlags := 1, nameIndex := 5, descriptorIndex := 93, attributes := #[] }, { accessFlags := 1, nameIndex := 96, descriptorIndex := 97, attributes := #[] }, { accessFlags := 1, nameIndex := 27, descriptorIndex := 28, attributes := #[] }] 49 2 #[] #[{ accessFlags := 18, nameIndex := 8, descriptorIndex := 16, attributes := #[] }, { accessFlags := 2, nameIndex := 23, descriptorIndex := 24, attributes := #[] }])
  fields := #[{ name := "input", type := (.array .byte), accessFlags := 18, slot := 0, constantValue := 0 }, { name := "position", type := .int, accessFlags := 2, slot := 1, constantValue := 0 }]
  methods := #[k2m0, k2m1, k2m2]
  instanceTypes := #[(.array .byte), .int]
  staticTypes := #[]
  resolved := Array.replicate 133 none
  statics := none }

def pool3 : Array CpInfo := pool [(1, .class_ 2), (0, u "java/io/Serializable"), (0, .class_ 4), (0, u "java/lang/Object")] 2

/-- java/io/Serializable -/
def k3 : Class := { plain "java/io/Serializable" (some 0) with
  accessFlags := 1537
  interfaces := #[]
  cf := some (fileOf pool3 1 #[] #[] 1537 3 #[] #[])
  fields := #[]
  methods := #[]
  instanceTypes := #[]
  staticTypes := #[]
  resolved := Array.replicate 7 none
  statics := none }

def pool4 : Array CpInfo := pool [(1, .class_ 2), (0, u "java/lang/Comparable"), (0, .class_ 4), (0, u "java/lang/Object")] 7

/-- java/lang/Comparable -/
def k4 : Class := { plain "java/lang/Comparable" (some 0) with
  accessFlags := 1537
  interfaces := #[]
  cf := some (fileOf pool4 1 #[] #[] 1537 3 #[] #[])
  fields := #[]
  methods := #[]
  instanceTypes := #[]
  staticTypes := #[]
  resolved := Array.replicate 12 none
  statics := none }

def pool5 : Array CpInfo := pool [(2, .class_ 4), (1, u "java/lang/CharSequence"), (42, .class_ 48), (0, u "java/lang/CharSequence$1CodePointIterator"), (10, .class_ 60), (0, u "java/lang/CharSequence$1CharIterator"), (5, .class_ 67), (0, u "java/lang/Object")] 63

/-- java/lang/CharSequence -/
def k5 : Class := { plain "java/lang/CharSequence" (some 0) with
  accessFlags := 1537
  interfaces := #[]
  cf := some (fileOf pool5 2 #[.nestMembers #[47, 59]] #[] 1537 66 #[] #[])
  fields := #[]
  methods := #[]
  instanceTypes := #[]
  staticTypes := #[]
  resolved := Array.replicate 131 none
  statics := none }

def pool6 : Array CpInfo := pool [(1, .class_ 2), (0, u "java/lang/constant/Constable"), (0, .class_ 4), (0, u "java/lang/Object")] 6

/-- java/lang/constant/Constable -/
def k6 : Class := { plain "java/lang/constant/Constable" (some 0) with
  accessFlags := 1537
  interfaces := #[]
  cf := some (fileOf pool6 1 #[] #[] 1537 3 #[] #[])
  fields := #[]
  methods := #[]
  instanceTypes := #[]
  staticTypes := #[]
  resolved := Array.replicate 11 none
  statics := none }

def pool7 : Array CpInfo := pool [(1, .class_ 2), (0, u "java/lang/constant/ConstantDesc"), (0, .class_ 4), (0, u "java/lang/Object")] 32

/-- java/lang/constant/ConstantDesc -/
def k7 : Class := { plain "java/lang/constant/ConstantDesc" (some 0) with
  accessFlags := 1537
  interfaces := #[]
  cf := some (fileOf pool7 1 #[] #[] 1537 3 #[] #[])
  fields := #[]
  methods := #[]
  instanceTypes := #[]
  staticTypes := #[]
  resolved := Array.replicate 37 none
  statics := none }

def pool8 : Array CpInfo := pool [(2, .class_ 4), (1, u "java/lang/Object"), (0, u "<init>"), (0, u "()V"), (3, .class_ 12), (1, u "java/lang/String"), (0, u "value"), (0, u "[B"), (2, u "coder"), (0, u "B"), (2, u "hash"), (0, u "I"), (2, u "hashIsZero"), (0, u "Z"), (13, u "COMPACT_STRINGS"), (534, .class_ 576), (0, u "java/lang/CharSequence"), (22, u "CASE_INSENSITIVE_ORDER"), (0, u "Ljava/util/Comparator;"), (500, u "serialPersistentFields"), (0, u "[Ljava/io/ObjectStreamField;"), (0, .class_ 1104), (0, u "java/lang/String$CaseInsensitiveComparator"), (1, .class_ 1107), (0, u "java/io/Serializable"), (0, .class_ 1109), (0, u "java/lang/Comparable"), (0, .class_ 1111), (0, u "java/lang/constant/Constable"), (0, .class_ 1113), (0, u "java/lang/constant/ConstantDesc"), (2, u "serialVersionUID"), (0, u "J"), (3, u "REPL"), (0, u "C"), (2, u "LATIN1"), (1, u "UTF16")] 323

def k8m0 : Method := { name := "<init>", desc := "()V", sig := { parameters := [], returnType := none }, accessFlags := 1, code := none }
/-- java/lang/String -/
def k8 : Class := { plain "java/lang/String" (some 0) with
  accessFlags := 49
  interfaces := #[3, 4, 5, 6, 7]
  cf := some (fileOf pool8 10 #[.nestMembers #[1103]] #[{ accessFlags := 1, nameIndex := 5, descriptorIndex := 6, attributes := #[] }] 49 2 #[1106, 1108, 575, 1110, 1112] #[{ accessFlags := 18, nameIndex := 13, descriptorIndex := 14, attributes := #[] }, { accessFlags := 18, nameIndex := 17, descriptorIndex := 18, attributes := #[] }, { accessFlags := 2, nameIndex := 21, descriptorIndex := 22, attributes := #[] }, { accessFlags := 2, nameIndex := 25, descriptorIndex := 26, attributes := #[] }, { accessFlags := 26, nameIndex := 1116, descriptorIndex := 1117, attributes := #[] }, { accessFlags := 24, nameIndex := 40, descriptorIndex := 26, attributes := #[] }, { accessFlags := 26, nameIndex := 1101, descriptorIndex := 1102, attributes := #[] }, { accessFlags := 26, nameIndex := 1121, descriptorIndex := 1122, attributes := #[] }, { accessFlags := 25, nameIndex := 599, descriptorIndex := 600, attributes := #[] }, { accessFlags := 24, nameIndex := 1125, descriptorIndex := 18, attributes := #[] }, { accessFlags := 24, nameIndex := 1127, descriptorIndex := 18, attributes := #[] }])
  fields := #[{ name := "value", type := (.array .byte), accessFlags := 18, slot := 0, constantValue := 0 }, { name := "coder", type := .byte, accessFlags := 18, slot := 1, constantValue := 0 }, { name := "hash", type := .int, accessFlags := 2, slot := 2, constantValue := 0 }, { name := "hashIsZero", type := .boolean, accessFlags := 2, slot := 3, constantValue := 0 }, { name := "serialVersionUID", type := .long, accessFlags := 26, slot := 0, constantValue := 0 }, { name := "COMPACT_STRINGS", type := .boolean, accessFlags := 24, slot := 1, constantValue := 0 }, { name := "serialPersistentFields", type := (.array (.object "java/io/ObjectStreamField")), accessFlags := 26, slot := 2, constantValue := 0 }, { name := "REPL", type := .char, accessFlags := 26, slot := 3, constantValue := 0 }, { name := "CASE_INSENSITIVE_ORDER", type := (.object "java/util/Comparator"), accessFlags := 25, slot := 4, constantValue := 0 }, { name := "LATIN1", type := .byte, accessFlags := 24, slot := 5, constantValue := 0 }, { name := "UTF16", type := .byte, accessFlags := 24, slot := 6, constantValue := 0 }]
  methods := #[k8m0]
  instanceTypes := #[(.array .byte), .byte, .int, .boolean]
  staticTypes := #[.long, .boolean, (.array (.object "java/io/ObjectStreamField")), .char, (.object "java/util/Comparator"), .byte, .byte]
  resolved := Array.replicate 1451 none
  statics := none }

def pool9 : Array CpInfo := pool [(2, .class_ 4), (1, u "java/lang/Object"), (0, u "<init>"), (0, u "()V"), (35, .class_ 44), (1, u "java/util/Objects"), (0, u "requireNonNull"), (48, u "(Ljava/lang/Object;Ljava/lang/String;)Ljava/lang/Object;")] 89

def k9m0 : Method := { name := "<init>", desc := "()V", sig := { parameters := [], returnType := none }, accessFlags := 2, code := none }
def k9c1 : Code := { maxStack := 3, maxLocals := 2, code := jdk_31_method_11_code, exceptionTable := #[], attributes := #[] }
def k9m1 : Method := { name := "requireNonNull", desc := "(Ljava/lang/Object;Ljava/lang/String;)Ljava/lang/Object;", sig := { parameters := [(.object "java/lang/Object"), (.object "java/lang/String")], returnType := some (.object "java/lang/Object") }, accessFlags := 9, code := some k9c1 }
/-- java/util/Objects -/
def k9 : Class := { plain "java/util/Objects" (some 0) with
  accessFlags := 49
  interfaces := #[]
  cf := some (fileOf pool9 42 #[] #[{ accessFlags := 2, nameIndex := 5, descriptorIndex := 6, attributes := #[] }, { accessFlags := 9, nameIndex := 45, descriptorIndex := 94, attributes := #[] }] 49 2 #[] #[])
  fields := #[]
  methods := #[k9m0, k9m1]
  instanceTypes := #[]
  staticTypes := #[]
  resolved := Array.replicate 184 none
  statics := none }

def pool10 : Array CpInfo := pool [(1, u "java/lang/Cloneable"), (0, .class_ 1), (0, u "java/lang/Object"), (0, .class_ 3)] 3

/-- java/lang/Cloneable -/
def k10 : Class := { plain "java/lang/Cloneable" (some 0) with
  accessFlags := 1537
  interfaces := #[]
  cf := some (fileOf pool10 2 #[] #[] 1537 4 #[] #[])
  fields := #[]
  methods := #[]
  instanceTypes := #[]
  staticTypes := #[]
  resolved := Array.replicate 8 none
  statics := none }

/-- the primitive byte -/
def k11 : Class := { plain "byte" none with kind := .primitive 'B', accessFlags := 0x411 }
/-- [B -/
def k12 : Class := { plain "[B" (some 0) with kind := .array 11 .byte, interfaces := #[10, 3], accessFlags := 1041 }

/-- the primitive int -/
def k13 : Class := { plain "int" none with kind := .primitive 'I', accessFlags := 0x411 }
/-- [I -/
def k14 : Class := { plain "[I" (some 0) with kind := .array 13 .int, interfaces := #[10, 3], accessFlags := 1041 }

def heap : Heap := #[]
def classes : Array Class := #[k0, k1, k2, k3, k4, k5, k6, k7, k8, k9, k10, k11, k12, k13, k14]
def interned : List (Array UInt16 × Addr) := []
def slotsUsed : Nat := 0
def theMethod : MethodId := ⟨1, 3⟩
def args0 : Array Value := #[.long 5, .int 3, .int 3]
def aboutOver (below : List Frame) : State where
  vm := { classes := classes, interned := interned.toArray }
  heap := heap
  slotsUsed := slotsUsed
  threads := #[{ frames := .invoking theMethod args0 :: below }]
def below0 : List Frame := [.native { method := ⟨0, 0⟩, args := #[] }]
def about1 : State := aboutOver below0
def p0 : Program := .bare "" "" ""
def e0 : Env := launch0.env 0 0 0
theorem w_frames : about1.frames = Frame.invoking theMethod args0 :: below0 := rfl
set_option maxRecDepth 65536 in
theorem w_args : argsFit about1.vm theMethod args0 = true := by decide +kernel
set_option maxRecDepth 65536 in
theorem w_heap : heapFits about1 = true := by decide +kernel
set_option maxRecDepth 65536 in
theorem w_runnable : about1.curStatus? = some .runnable := by decide +kernel
set_option maxRecDepth 65536 in
theorem w_alone : about1.alone = true := by decide +kernel
set_option maxRecDepth 65536 in
theorem w_named : about1.methodNamed? x = some theMethod := by decide +kernel
set_option maxRecDepth 65536 in
theorem w_hears : about1.hears theMethod below0 = true := by decide +kernel
set_option maxRecDepth 65536 in
theorem w_ripe : about1.ripe theMethod args0 below0 = true := by decide +kernel
theorem w_running : about1.status = .running := rfl
set_option maxRecDepth 65536 in
theorem w_room : about1.hasRoom e0.platform room_1 = true :=
  launch0.hasRoom_least _ room_1 (by decide +kernel) (by decide +kernel) (by decide +kernel) (by decide +kernel) (by decide +kernel) (by decide +kernel)
theorem allAtoms_all (ts : List Jvm.Cond) (a : Array Jvm.Value) (st : Jvm.State) : (allAtoms ts).before a st = ts.all (fun c => c.before a st) := by
  induction ts with
  | nil => rfl
  | cons c t ih =>
    show (Jvm.Cond.and c (allAtoms t)).before a st = _
    rw [Jvm.Cond.before_and, ih, List.all_cons]
def words1 : List Jvm.Cond := Jvm.Cond.code x code maxLocals ret :: tables_1
/-- a 'code' word, met by the world's own term for the bytes: nothing is compared byte by byte -/
theorem code_word {y : MethodName} {bytes : ByteArray} {mx : Nat} {rt : Option FieldType} {a : Array Value} {s : State} {m : MethodId} {meth : Method} {c : Code} (h1 : s.methodNamed? y = some m) (h2 : s.vm.method? m = some meth) (h3 : meth.code = some c) (h4 : c.code = bytes)
    (h5 : (c.maxLocals == mx && c.exceptionTable.isEmpty && decide (c.maxStack ≤ mostOperands) && decide (meth.sig.returnType = rt) && !meth.locks && decide (parseMethodDescriptor y.desc = some meth.sig)) = true) : (Jvm.Cond.code y bytes mx rt).before a s = true := by
  simp only [Bool.and_eq_true, beq_iff_eq, Bool.not_eq_true', decide_eq_true_eq] at h5
  obtain ⟨⟨⟨⟨⟨g1, g2⟩, g3⟩, g4⟩, g5⟩, g6⟩ := h5
  simp [Cond.before, Cond.holds, Cond.value, h1, h2, h3, h4, g1, g2, g3, g4, g5, g6]
def isCode : Jvm.Cond → Bool
  | .code _ _ _ _ => true
  | _ => false
theorem all_split {L : List Jvm.Cond} {P : Jvm.Cond → Bool} (h1 : L.all (fun c => isCode c || P c) = true) (h2 : ∀ c ∈ L.filter isCode, P c = true) : L.all P = true := by
  refine List.all_eq_true.mpr fun c hc => ?_
  have h := List.all_eq_true.mp h1 c hc
  rcases Bool.eq_false_or_eq_true (isCode c) with hi | hi
  · exact h2 c (List.mem_filter.mpr ⟨hc, hi⟩)
  · simpa [hi] using h
set_option maxRecDepth 65536 in
theorem w_c0 : (Jvm.Cond.code x code maxLocals ret).before args0 about1 = true := code_word (m := ⟨1, 3⟩) (meth := k1m3) (c := k1c3) (by decide +kernel) rfl rfl rfl (by decide +kernel)
set_option maxRecDepth 65536 in
theorem w_c1 : (Jvm.Cond.code ({ cls := "com/example/thin_gateway/thingateway/avro/AvroDecoderReadLongPinLaw", name := "canonicalLength", desc := "(J)I" } : Jvm.MethodName) method_2_code (2 : Nat) (Option.some Jvm.ClassFile.FieldType.int)).before args0 about1 = true := code_word (m := ⟨1, 1⟩) (meth := k1m1) (c := k1c1) (by decide +kernel) rfl rfl rfl (by decide +kernel)
set_option maxRecDepth 65536 in
theorem w_c2 : (Jvm.Cond.code ({ cls := "com/example/thin_gateway/thingateway/avro/AvroDecoderReadLongPinLaw", name := "at", desc := "(JIII)B" } : Jvm.MethodName) method_3_code (6 : Nat) (Option.some Jvm.ClassFile.FieldType.byte)).before args0 about1 = true := code_word (m := ⟨1, 2⟩) (meth := k1m2) (c := k1c2) (by decide +kernel) rfl rfl rfl (by decide +kernel)
set_option maxRecDepth 65536 in
theorem w_c3 : (Jvm.Cond.code ({ cls := "com/example/thin_gateway/thingateway/avro/AvroDecoder", name := "<init>", desc := "([B)V" } : Jvm.MethodName) prog_1_method_1_code (2 : Nat) (Option.none : Option Jvm.ClassFile.FieldType)).before args0 about1 = true := code_word (m := ⟨2, 0⟩) (meth := k2m0) (c := k2c0) (by decide +kernel) rfl rfl rfl (by decide +kernel)
set_option maxRecDepth 65536 in
theorem w_c4 : (Jvm.Cond.code ({ cls := "java/lang/Object", name := "<init>", desc := "()V" } : Jvm.MethodName) object_method_1_code (1 : Nat) (Option.none : Option Jvm.ClassFile.FieldType)).before args0 about1 = true := code_word (m := ⟨0, 0⟩) (meth := k0m0) (c := k0c0) (by decide +kernel) rfl rfl rfl (by decide +kernel)
set_option maxRecDepth 65536 in
theorem w_c5 : (Jvm.Cond.code ({ cls := "java/util/Objects", name := "requireNonNull", desc := "(Ljava/lang/Object;Ljava/lang/String;)Ljava/lang/Object;" } : Jvm.MethodName) jdk_31_method_11_code (2 : Nat) (Option.some (Jvm.ClassFile.FieldType.object "java/lang/Object"))).before args0 about1 = true := code_word (m := ⟨9, 1⟩) (meth := k9m1) (c := k9c1) (by decide +kernel) rfl rfl rfl (by decide +kernel)
set_option maxRecDepth 65536 in
theorem w_c6 : (Jvm.Cond.code ({ cls := "com/example/thin_gateway/thingateway/avro/AvroDecoder", name := "readLong", desc := "()J" } : Jvm.MethodName) prog_1_method_4_code (7 : Nat) (Option.some Jvm.ClassFile.FieldType.long)).before args0 about1 = true := code_word (m := ⟨2, 2⟩) (meth := k2m2) (c := k2c2) (by decide +kernel) rfl rfl rfl (by decide +kernel)
set_option maxRecDepth 65536 in
theorem w_c7 : (Jvm.Cond.code ({ cls := "com/example/thin_gateway/thingateway/avro/AvroDecoder", name := "isAtEnd", desc := "()Z" } : Jvm.MethodName) prog_1_method_2_code (1 : Nat) (Option.some Jvm.ClassFile.FieldType.boolean)).before args0 about1 = true := code_word (m := ⟨2, 1⟩) (meth := k2m1) (c := k2c1) (by decide +kernel) rfl rfl rfl (by decide +kernel)
def codes1 : List Jvm.Cond := [Jvm.Cond.code x code maxLocals ret, Jvm.Cond.code ({ cls := "com/example/thin_gateway/thingateway/avro/AvroDecoderReadLongPinLaw", name := "canonicalLength", desc := "(J)I" } : Jvm.MethodName) method_2_code (2 : Nat) (Option.some Jvm.ClassFile.FieldType.int), Jvm.Cond.code ({ cls := "com/example/thin_gateway/thingateway/avro/AvroDecoderReadLongPinLaw", name := "at", desc := "(JIII)B" } : Jvm.MethodName) method_3_code (6 : Nat) (Option.some Jvm.ClassFile.FieldType.byte), Jvm.Cond.code ({ cls := "com/example/thin_gateway/thingateway/avro/AvroDecoder", name := "<init>", desc := "([B)V" } : Jvm.MethodName) prog_1_method_1_code (2 : Nat) (Option.none : Option Jvm.ClassFile.FieldType), Jvm.Cond.code ({ cls := "java/lang/Object", name := "<init>", desc := "()V" } : Jvm.MethodName) object_method_1_code (1 : Nat) (Option.none : Option Jvm.ClassFile.FieldType), Jvm.Cond.code ({ cls := "java/util/Objects", name := "requireNonNull", desc := "(Ljava/lang/Object;Ljava/lang/String;)Ljava/lang/Object;" } : Jvm.MethodName) jdk_31_method_11_code (2 : Nat) (Option.some (Jvm.ClassFile.FieldType.object "java/lang/Object")), Jvm.Cond.code ({ cls := "com/example/thin_gateway/thingateway/avro/AvroDecoder", name := "readLong", desc := "()J" } : Jvm.MethodName) prog_1_method_4_code (7 : Nat) (Option.some Jvm.ClassFile.FieldType.long), Jvm.Cond.code ({ cls := "com/example/thin_gateway/thingateway/avro/AvroDecoder", name := "isAtEnd", desc := "()Z" } : Jvm.MethodName) prog_1_method_2_code (1 : Nat) (Option.some Jvm.ClassFile.FieldType.boolean)]
set_option maxRecDepth 65536 in
theorem codes_eq : words1.filter isCode = codes1 := rfl
theorem w_codes : ∀ c ∈ words1.filter isCode, c.before args0 about1 = true := by
  rw [codes_eq]
  intro c hc
  simp only [codes1, List.mem_cons, List.not_mem_nil, or_false] at hc
  rcases hc with rfl | rfl | rfl | rfl | rfl | rfl | rfl | rfl
  · exact w_c0
  · exact w_c1
  · exact w_c2
  · exact w_c3
  · exact w_c4
  · exact w_c5
  · exact w_c6
  · exact w_c7
set_option maxRecDepth 65536 in
theorem w_t1 : (words1.take 24).all (fun c => isCode c || c.before args0 about1) = true := by decide +kernel
set_option maxRecDepth 65536 in
theorem w_t2 : (words1.drop 24).all (fun c => isCode c || c.before args0 about1) = true := by decide +kernel
theorem w_tables : (allAtoms (Jvm.Cond.code x code maxLocals ret :: tables_1)).before args0 about1 = true := by
  rw [allAtoms_all]
  show words1.all (fun c => c.before args0 about1) = true
  refine all_split ?_ w_codes
  rw [← List.take_append_drop 24 words1, List.all_append, w_t1, w_t2]
  rfl
set_option maxRecDepth 65536 in
theorem w_case : (Jvm.Cond.and given_1 narrow_1).before args0 about1 = true := by decide +kernel
theorem w_applies : (headSpec (Jvm.Cond.code x code maxLocals ret :: tables_1) room_1).applies x e0.platform about1 = true :=
  (Spec.applies_iff w_frames).mpr ⟨w_running, w_runnable, w_alone, w_named, w_hears, w_ripe, w_room, w_tables⟩
theorem atStart : AtStart classFile x code maxLocals ret World_1 tables_1 room_1 Calls_1 rest_1 Pre_1 launch0 p0 e0 about1 theMethod args0 below0 :=
  ⟨lists_1, trivial, launch0.admits_env _ _ _, launch0.least_env, fairChoices_fair.cas, fairChoices_fair.clock, w_frames, w_args, w_heap, w_applies, trivial, trivial, w_case⟩
end start1
theorem witness_1 : WitnessClaimed_1 := ⟨start1.p0, start1.e0, start1.about1, start1.theMethod, start1.args0, start1.below0, start1.atStart⟩
end Jvm.Pilot.@@N@@
