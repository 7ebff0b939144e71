import JvmDerived
import JvmDerived.Pilot.@@N@@Statement
import JvmDerived.Pilot.@@N@@Code
set_option linter.unusedVariables false
set_option linter.unusedSimpArgs false
namespace Jvm.Pilot.@@N@@
open Jvm Jvm.ClassFile Sem Op Lib Jvm.Free Jvm.Stand Jvm.LawKit Jvm.RoadKit Bundle Jvm.Pilot.@@N@@.Jvm.D
section OwnArr
variable {p : Program} {l : Launch} {e : Env} {R : Room} {s : State} {m : MethodId} {args : Array Value} {below : List Frame} {meth : Method} {c : Code} {T : State} {locs : List Loc} {cells slots : Nat} {Z : State} {a0 : Array Value} {h : Heap} {a : Addr} {k : ClassId} {z : Int32} {vs : List Value} {dv : Value}
theorem own_ldB (X : Stand p l e R s m args below meth c T locs cells slots) (hx : p.tables.exec = Jvm.exec) (hZ : Z.Warmed39 s.vm) (eT : T.heap = h) (F : Arv Z h a k .byte z vs dv) {j : Int32} (q : ¬ j < 0 ∧ j < z) {v : Value} (u : vs.getD j.toNatClampNeg dv = v) {g : JFrame} (hg : g.method = m) {rest : List Value} (hs : g.stack = .int j :: .ref a :: rest) (hd : decode c.code g.pc = .ok (.baload, 1)) :
    Steps p.tables e below (T.setTop g) (T.setTop { g with pc := g.pc + 1, stack := v :: rest }) := by
  obtain ⟨cl, A, q1, S, N, H, G⟩ := F
  have hin := inb_of S q
  exact X.baloadBytes hx (by rw [eT]; exact A.1) (State.isArrayOf_alike hZ.alike A.2.1) A.2.2 hin (H.at hin u) hg hs hd _ (Steps.refl _)
theorem own_ldI (X : Stand p l e R s m args below meth c T locs cells slots) (hx : p.tables.exec = Jvm.exec) (hZ : Z.Warmed39 s.vm) (eT : T.heap = h) (F : Arv Z h a k .int z vs dv) {j : Int32} (q : ¬ j < 0 ∧ j < z) {v : Value} (u : vs.getD j.toNatClampNeg dv = v) {g : JFrame} (hg : g.method = m) {rest : List Value} (hs : g.stack = .int j :: .ref a :: rest) (hd : decode c.code g.pc = .ok (.iaload, 1)) :
    Steps p.tables e below (T.setTop g) (T.setTop { g with pc := g.pc + 1, stack := v :: rest }) := by
  obtain ⟨cl, A, q1, S, N, H, G⟩ := F
  have hin := inb_of S q
  exact X.iaload hx (by rw [eT]; exact A.1) (State.isArrayOf_alike hZ.alike A.2.1) A.2.2 hin (H.at hin u) hg hs hd _ (Steps.refl _)
theorem own_ldJ (X : Stand p l e R s m args below meth c T locs cells slots) (hx : p.tables.exec = Jvm.exec) (hZ : Z.Warmed39 s.vm) (eT : T.heap = h) (F : Arv Z h a k .long z vs dv) {j : Int32} (q : ¬ j < 0 ∧ j < z) {v : Value} (u : vs.getD j.toNatClampNeg dv = v) {g : JFrame} (hg : g.method = m) {rest : List Value} (hs : g.stack = .int j :: .ref a :: rest) (hd : decode c.code g.pc = .ok (.laload, 1)) :
    Steps p.tables e below (T.setTop g) (T.setTop { g with pc := g.pc + 1, stack := v :: rest }) := by
  obtain ⟨cl, A, q1, S, N, H, G⟩ := F
  have hin := inb_of S q
  exact X.laload hx (by rw [eT]; exact A.1) (State.isArrayOf_alike hZ.alike A.2.1) A.2.2 hin (H.at hin u) hg hs hd _ (Steps.refl _)
theorem own_len {ty : FieldType} (X : Stand p l e R s m args below meth c T locs cells slots) (hx : p.tables.exec = Jvm.exec) (hZ : Z.Warmed39 s.vm) (eT : T.heap = h) (F : Arv Z h a k ty z vs dv) {g : JFrame} (hg : g.method = m) {rest : List Value} (hs : g.stack = .ref a :: rest) (hd : decode c.code g.pc = .ok (.arraylength, 1)) :
    Steps p.tables e below (T.setTop g) (T.setTop { g with pc := g.pc + 1, stack := .int z :: rest }) := by
  obtain ⟨cl, A, q1, S, N, H, G⟩ := F
  have q := X.arraylength hx (by rw [eT]; exact A.1) (State.isArrayOf_alike hZ.alike A.2.1) hg hs hd _ (Steps.refl _)
  rw [len_of S N] at q
  exact q
theorem own_stB (X : Stand p l e R s m args below meth c T locs cells slots) (hx : p.tables.exec = Jvm.exec) (hZ : Z.Warmed39 s.vm) (eT : T.heap = h) (F : Arv Z h a k .byte z vs dv) {j x : Int32} (q : ¬ j < 0 ∧ j < z) (i : Nat) (hj : j.toNatClampNeg = i) (hi : i < vs.length) {g : JFrame} (hg : g.method = m) {rest : List Value} (hs : g.stack = .int x :: .int j :: .ref a :: rest) (hd : decode c.code g.pc = .ok (.bastore, 1)) :
    ∃ T' h', Stand p l e R s m args below meth c T' (locs ++ [⟨a, j.toNatClampNeg⟩]) cells slots ∧ T'.heap = h' ∧ Wr h h' a j.toNatClampNeg (.int (x.toInt8.toInt32)) ∧ Arv Z h' a k .byte z (vs.set i (.int (x.toInt8.toInt32))) dv ∧ Steps p.tables e below (T.setTop g) (T'.setTop { g with pc := g.pc + 1, stack := rest }) := by
  obtain ⟨cl, A, q1, S, N, H, G⟩ := F
  have hin := inb_of S q
  obtain ⟨T', h', X', e', W, st⟩ := stB X hx hZ eT A hin hg hs hd
  exact ⟨T', h', X', e', W, Arv.set A q1 S N H G (fits_nar_byte _) W i hj hi, st _ (Steps.refl _)⟩
theorem own_stI (X : Stand p l e R s m args below meth c T locs cells slots) (hx : p.tables.exec = Jvm.exec) (hZ : Z.Warmed39 s.vm) (eT : T.heap = h) (F : Arv Z h a k .int z vs dv) {j x : Int32} (q : ¬ j < 0 ∧ j < z) (i : Nat) (hj : j.toNatClampNeg = i) (hi : i < vs.length) {g : JFrame} (hg : g.method = m) {rest : List Value} (hs : g.stack = .int x :: .int j :: .ref a :: rest) (hd : decode c.code g.pc = .ok (.iastore, 1)) :
    ∃ T' h', Stand p l e R s m args below meth c T' (locs ++ [⟨a, j.toNatClampNeg⟩]) cells slots ∧ T'.heap = h' ∧ Wr h h' a j.toNatClampNeg (.int x) ∧ Arv Z h' a k .int z (vs.set i (.int x)) dv ∧ Steps p.tables e below (T.setTop g) (T'.setTop { g with pc := g.pc + 1, stack := rest }) := by
  obtain ⟨cl, A, q1, S, N, H, G⟩ := F
  have hin := inb_of S q
  obtain ⟨T', h', X', e', W, st⟩ := stI X hx hZ eT A hin hg hs hd
  exact ⟨T', h', X', e', W, Arv.set A q1 S N H G rfl W i hj hi, st _ (Steps.refl _)⟩
theorem own_stJ (X : Stand p l e R s m args below meth c T locs cells slots) (hx : p.tables.exec = Jvm.exec) (hZ : Z.Warmed39 s.vm) (eT : T.heap = h) (F : Arv Z h a k .long z vs dv) {j : Int32} {x : Int64} (q : ¬ j < 0 ∧ j < z) (i : Nat) (hj : j.toNatClampNeg = i) (hi : i < vs.length) {g : JFrame} (hg : g.method = m) {rest : List Value} (hs : g.stack = .long x :: .int j :: .ref a :: rest) (hd : decode c.code g.pc = .ok (.lastore, 1)) :
    ∃ T' h', Stand p l e R s m args below meth c T' (locs ++ [⟨a, j.toNatClampNeg⟩]) cells slots ∧ T'.heap = h' ∧ Wr h h' a j.toNatClampNeg (.long x) ∧ Arv Z h' a k .long z (vs.set i (.long x)) dv ∧ Steps p.tables e below (T.setTop g) (T'.setTop { g with pc := g.pc + 1, stack := rest }) := by
  obtain ⟨cl, A, q1, S, N, H, G⟩ := F
  have hin := inb_of S q
  obtain ⟨T', h', X', e', W, st⟩ := stJ X hx hZ eT A hin hg hs hd
  exact ⟨T', h', X', e', W, Arv.set A q1 S N H G rfl W i hj hi, st _ (Steps.refl _)⟩
theorem own_newB (X : Stand p l e R s m args below meth c T locs cells slots) (hx : p.tables.exec = Jvm.exec) (hZ : Z.Warmed39 s.vm) (w : (Jvm.Cond.arrayClass .byte).before a0 Z = true) (eT : T.heap = h) {g : JFrame} (hg : g.method = m) (hd : decode c.code g.pc = .ok (.newarray .byte, 2)) {n : Int32} {rest : List Value} (hs : g.stack = .int n :: rest)
    (hn : ¬ n < 0) (N : Nat) (hcap : n.toNatClampNeg ≤ N) (hb : N * 8 ≤ 536870912) (hc : cells + 1 ≤ R.cells) (hl : slots + N ≤ R.slots) :
    ∃ T' h' k x, Stand p l e R s m args below meth c T' locs (cells + 1) (slots + N) ∧ T'.heap = h' ∧ Ext h h' ∧ x = h.size ∧ Arv Z h' x k .byte n (List.replicate N (.int (0 : Int32))) (.int (0 : Int32)) ∧ Exa Z h' x "[B" ∧ Steps p.tables e below (T.setTop g) (T'.setTop { g with pc := g.pc + 2, stack := .ref x :: rest }) := by
  obtain ⟨T', h', k, X', e', E, A, Ex, st⟩ := newPE (aty := .byte) X hx hZ w eT hg hd hs hn hcap hb hc hl (ad := "[B") (by decide)
  exact ⟨T', h', k, _, X', e', E, rfl, (Arv.new A hn).pad (pad_rep [] _ N), Ex, st _ (Steps.refl _)⟩
theorem own_newI (X : Stand p l e R s m args below meth c T locs cells slots) (hx : p.tables.exec = Jvm.exec) (hZ : Z.Warmed39 s.vm) (w : (Jvm.Cond.arrayClass .int).before a0 Z = true) (eT : T.heap = h) {g : JFrame} (hg : g.method = m) (hd : decode c.code g.pc = .ok (.newarray .int, 2)) {n : Int32} {rest : List Value} (hs : g.stack = .int n :: rest)
    (hn : ¬ n < 0) (N : Nat) (hcap : n.toNatClampNeg ≤ N) (hb : N * 8 ≤ 536870912) (hc : cells + 1 ≤ R.cells) (hl : slots + N ≤ R.slots) :
    ∃ T' h' k x, Stand p l e R s m args below meth c T' locs (cells + 1) (slots + N) ∧ T'.heap = h' ∧ Ext h h' ∧ x = h.size ∧ Arv Z h' x k .int n (List.replicate N (.int (0 : Int32))) (.int (0 : Int32)) ∧ Exa Z h' x "[I" ∧ Steps p.tables e below (T.setTop g) (T'.setTop { g with pc := g.pc + 2, stack := .ref x :: rest }) := by
  obtain ⟨T', h', k, X', e', E, A, Ex, st⟩ := newPE (aty := .int) X hx hZ w eT hg hd hs hn hcap hb hc hl (ad := "[I") (by decide)
  exact ⟨T', h', k, _, X', e', E, rfl, (Arv.new A hn).pad (pad_rep [] _ N), Ex, st _ (Steps.refl _)⟩
theorem own_newJ (X : Stand p l e R s m args below meth c T locs cells slots) (hx : p.tables.exec = Jvm.exec) (hZ : Z.Warmed39 s.vm) (w : (Jvm.Cond.arrayClass .long).before a0 Z = true) (eT : T.heap = h) {g : JFrame} (hg : g.method = m) (hd : decode c.code g.pc = .ok (.newarray .long, 2)) {n : Int32} {rest : List Value} (hs : g.stack = .int n :: rest)
    (hn : ¬ n < 0) (N : Nat) (hcap : n.toNatClampNeg ≤ N) (hb : N * 8 ≤ 536870912) (hc : cells + 1 ≤ R.cells) (hl : slots + N ≤ R.slots) :
    ∃ T' h' k x, Stand p l e R s m args below meth c T' locs (cells + 1) (slots + N) ∧ T'.heap = h' ∧ Ext h h' ∧ x = h.size ∧ Arv Z h' x k .long n (List.replicate N (.long (0 : Int64))) (.long (0 : Int64)) ∧ Exa Z h' x "[J" ∧ Steps p.tables e below (T.setTop g) (T'.setTop { g with pc := g.pc + 2, stack := .ref x :: rest }) := by
  obtain ⟨T', h', k, X', e', E, A, Ex, st⟩ := newPE (aty := .long) X hx hZ w eT hg hd hs hn hcap hb hc hl (ad := "[J") (by decide)
  exact ⟨T', h', k, _, X', e', E, rfl, (Arv.new A hn).pad (pad_rep [] _ N), Ex, st _ (Steps.refl _)⟩
end OwnArr
def own_gi : Value → Int32
  | .int x => x
  | _ => 0
def own_by (vs : List Value) (q : Int32) : Int32 := own_gi (vs.getD q.toNatClampNeg (.int (0 : Int32)))
def own_res (r : Int64) (b sh : Int32) : Int64 := (r ||| (((((b &&& (255 : Int32)) &&& (127 : Int32)).toInt64) <<< (sh &&& 0x3f).toInt64)))
def rl : Nat → List Value → Int32 → Int64 → Int32 → Int64 × Int32
  | 0, _, q, r, _ => (r, q)
  | k + 1, vs, q, r, sh => if (((own_by vs q) &&& (255 : Int32)) &&& (128 : Int32)) = (0 : Int32) then (own_res r (own_by vs q) sh, q + (1 : Int32)) else rl k vs (q + (1 : Int32)) (own_res r (own_by vs q) sh) (sh + (7 : Int32))
def rok : Nat → List Value → Int32 → Int32 → Int32 → Prop
  | 0, _, _, _, _ => False
  | k + 1, vs, z, q, sh => ((¬ (q < (0 : Int32))) ∧ q < z) ∧ vs.getD q.toNatClampNeg (.int (0 : Int32)) = .int (own_by vs q) ∧ (sh = (63 : Int32) → ¬ ((1 : Int32) < ((own_by vs q) &&& (255 : Int32)))) ∧ ((((own_by vs q) &&& (255 : Int32)) &&& (128 : Int32)) = (0 : Int32) ∨ rok k vs z (q + (1 : Int32)) (sh + (7 : Int32)))
theorem own_z0 : (0 : Int32).toInt = 0 := rfl
theorem own_z1 : (1 : Int32).toInt = 1 := rfl
theorem own_z7 : (7 : Int32).toInt = 7 := rfl
theorem own_lt32 {a b : Int32} : a < b ↔ a.toInt < b.toInt := Int32.lt_iff_toInt_lt
theorem own_256 : ∀ i : Fin 256, ((Int32.ofNat i.1) &&& (128 : Int32)) = (0 : Int32) ↔ i.1 < 128 := by decide +kernel
theorem own_128 (y : Int32) (h : 0 ≤ y.toInt ∧ y.toInt < 256) : (y &&& (128 : Int32)) = (0 : Int32) ↔ y.toInt < 128 := by
  have e : y = Int32.ofNat y.toInt.toNat := by
    apply Int32.toInt_inj.mp
    rw [Int32.toInt_ofNat_of_lt (by omega)]; omega
  have q := own_256 ⟨y.toInt.toNat, by omega⟩
  simp only at q
  rw [← e] at q
  rw [q]; omega
theorem own_step (r : Int64) (b sh : Int32) (U : Int) (i : Nat) (h0 : 0 ≤ U ∧ U < 18446744073709551616) (hi : i ≤ 9) (hs : sh.toInt = 7 * (i : Int)) (hr0 : r.toInt % 18446744073709551616 = U % 2 ^ (7 * i)) (hd : ((b &&& (255 : Int32)) &&& (127 : Int32)).toInt = U / 2 ^ (7 * i) % 128) : (own_res r b sh).toInt % 18446744073709551616 = U % 2 ^ (7 * (i + 1)) := by
  have g1 := Jvm.RoadKit.rng64 r
  unfold own_res
  have hz : ∀ (n : Int32), sh.toInt = n.toInt → sh = n := fun n h => Int32.toInt_inj.mp h
  have hc : i = 0 ∨ i = 1 ∨ i = 2 ∨ i = 3 ∨ i = 4 ∨ i = 5 ∨ i = 6 ∨ i = 7 ∨ i = 8 ∨ i = 9 := by omega
  have hx := Jvm.RoadKit.c_i2l ((b &&& (255 : Int32)) &&& (127 : Int32))
  generalize ((b &&& (255 : Int32)) &&& (127 : Int32)).toInt64 = xx at hx ⊢
  rcases hc with e | e | e | e | e | e | e | e | e | e <;> subst e
  · have es := hz (0 : Int32) (by rw [hs]; rfl)
    subst es
    have t1 := Jvm.RoadKit.c_lshl xx (0 : Int32) 0 (by decide)
    have t2 := Jvm.RoadKit.rng64 (xx <<< ((0 : Int32) &&& 0x3f).toInt64)
    generalize xx <<< ((0 : Int32) &&& 0x3f).toInt64 = yy at t1 t2 ⊢
    have p1 : (2 : Int) ^ (7 * 0) = 1 := by decide
    have p2 : (2 : Int) ^ (7 * (0 + 1)) = 128 := by decide
    have p3 : ((2 ^ 0 : Nat) : Int) = 1 := by decide
    rw [p1] at hr0 hd
    rw [p3] at t1
    rw [p2]
    have t3 := Jvm.RoadKit.c_orL' r yy 0 (by decide) 1 (by decide) (by omega) (by omega) (by omega)
    omega
  · have es := hz (7 : Int32) (by rw [hs]; rfl)
    subst es
    have t1 := Jvm.RoadKit.c_lshl xx (7 : Int32) 7 (by decide)
    have t2 := Jvm.RoadKit.rng64 (xx <<< ((7 : Int32) &&& 0x3f).toInt64)
    generalize xx <<< ((7 : Int32) &&& 0x3f).toInt64 = yy at t1 t2 ⊢
    have p1 : (2 : Int) ^ (7 * 1) = 128 := by decide
    have p2 : (2 : Int) ^ (7 * (1 + 1)) = 16384 := by decide
    have p3 : ((2 ^ 7 : Nat) : Int) = 128 := by decide
    rw [p1] at hr0 hd
    rw [p3] at t1
    rw [p2]
    have t3 := Jvm.RoadKit.c_orL' r yy 7 (by decide) 128 (by decide) (by omega) (by omega) (by omega)
    omega
  · have es := hz (14 : Int32) (by rw [hs]; rfl)
    subst es
    have t1 := Jvm.RoadKit.c_lshl xx (14 : Int32) 14 (by decide)
    have t2 := Jvm.RoadKit.rng64 (xx <<< ((14 : Int32) &&& 0x3f).toInt64)
    generalize xx <<< ((14 : Int32) &&& 0x3f).toInt64 = yy at t1 t2 ⊢
    have p1 : (2 : Int) ^ (7 * 2) = 16384 := by decide
    have p2 : (2 : Int) ^ (7 * (2 + 1)) = 2097152 := by decide
    have p3 : ((2 ^ 14 : Nat) : Int) = 16384 := by decide
    rw [p1] at hr0 hd
    rw [p3] at t1
    rw [p2]
    have t3 := Jvm.RoadKit.c_orL' r yy 14 (by decide) 16384 (by decide) (by omega) (by omega) (by omega)
    omega
  · have es := hz (21 : Int32) (by rw [hs]; rfl)
    subst es
    have t1 := Jvm.RoadKit.c_lshl xx (21 : Int32) 21 (by decide)
    have t2 := Jvm.RoadKit.rng64 (xx <<< ((21 : Int32) &&& 0x3f).toInt64)
    generalize xx <<< ((21 : Int32) &&& 0x3f).toInt64 = yy at t1 t2 ⊢
    have p1 : (2 : Int) ^ (7 * 3) = 2097152 := by decide
    have p2 : (2 : Int) ^ (7 * (3 + 1)) = 268435456 := by decide
    have p3 : ((2 ^ 21 : Nat) : Int) = 2097152 := by decide
    rw [p1] at hr0 hd
    rw [p3] at t1
    rw [p2]
    have t3 := Jvm.RoadKit.c_orL' r yy 21 (by decide) 2097152 (by decide) (by omega) (by omega) (by omega)
    omega
  · have es := hz (28 : Int32) (by rw [hs]; rfl)
    subst es
    have t1 := Jvm.RoadKit.c_lshl xx (28 : Int32) 28 (by decide)
    have t2 := Jvm.RoadKit.rng64 (xx <<< ((28 : Int32) &&& 0x3f).toInt64)
    generalize xx <<< ((28 : Int32) &&& 0x3f).toInt64 = yy at t1 t2 ⊢
    have p1 : (2 : Int) ^ (7 * 4) = 268435456 := by decide
    have p2 : (2 : Int) ^ (7 * (4 + 1)) = 34359738368 := by decide
    have p3 : ((2 ^ 28 : Nat) : Int) = 268435456 := by decide
    rw [p1] at hr0 hd
    rw [p3] at t1
    rw [p2]
    have t3 := Jvm.RoadKit.c_orL' r yy 28 (by decide) 268435456 (by decide) (by omega) (by omega) (by omega)
    omega
  · have es := hz (35 : Int32) (by rw [hs]; rfl)
    subst es
    have t1 := Jvm.RoadKit.c_lshl xx (35 : Int32) 35 (by decide)
    have t2 := Jvm.RoadKit.rng64 (xx <<< ((35 : Int32) &&& 0x3f).toInt64)
    generalize xx <<< ((35 : Int32) &&& 0x3f).toInt64 = yy at t1 t2 ⊢
    have p1 : (2 : Int) ^ (7 * 5) = 34359738368 := by decide
    have p2 : (2 : Int) ^ (7 * (5 + 1)) = 4398046511104 := by decide
    have p3 : ((2 ^ 35 : Nat) : Int) = 34359738368 := by decide
    rw [p1] at hr0 hd
    rw [p3] at t1
    rw [p2]
    have t3 := Jvm.RoadKit.c_orL' r yy 35 (by decide) 34359738368 (by decide) (by omega) (by omega) (by omega)
    omega
  · have es := hz (42 : Int32) (by rw [hs]; rfl)
    subst es
    have t1 := Jvm.RoadKit.c_lshl xx (42 : Int32) 42 (by decide)
    have t2 := Jvm.RoadKit.rng64 (xx <<< ((42 : Int32) &&& 0x3f).toInt64)
    generalize xx <<< ((42 : Int32) &&& 0x3f).toInt64 = yy at t1 t2 ⊢
    have p1 : (2 : Int) ^ (7 * 6) = 4398046511104 := by decide
    have p2 : (2 : Int) ^ (7 * (6 + 1)) = 562949953421312 := by decide
    have p3 : ((2 ^ 42 : Nat) : Int) = 4398046511104 := by decide
    rw [p1] at hr0 hd
    rw [p3] at t1
    rw [p2]
    have t3 := Jvm.RoadKit.c_orL' r yy 42 (by decide) 4398046511104 (by decide) (by omega) (by omega) (by omega)
    omega
  · have es := hz (49 : Int32) (by rw [hs]; rfl)
    subst es
    have t1 := Jvm.RoadKit.c_lshl xx (49 : Int32) 49 (by decide)
    have t2 := Jvm.RoadKit.rng64 (xx <<< ((49 : Int32) &&& 0x3f).toInt64)
    generalize xx <<< ((49 : Int32) &&& 0x3f).toInt64 = yy at t1 t2 ⊢
    have p1 : (2 : Int) ^ (7 * 7) = 562949953421312 := by decide
    have p2 : (2 : Int) ^ (7 * (7 + 1)) = 72057594037927936 := by decide
    have p3 : ((2 ^ 49 : Nat) : Int) = 562949953421312 := by decide
    rw [p1] at hr0 hd
    rw [p3] at t1
    rw [p2]
    have t3 := Jvm.RoadKit.c_orL' r yy 49 (by decide) 562949953421312 (by decide) (by omega) (by omega) (by omega)
    omega
  · have es := hz (56 : Int32) (by rw [hs]; rfl)
    subst es
    have t1 := Jvm.RoadKit.c_lshl xx (56 : Int32) 56 (by decide)
    have t2 := Jvm.RoadKit.rng64 (xx <<< ((56 : Int32) &&& 0x3f).toInt64)
    generalize xx <<< ((56 : Int32) &&& 0x3f).toInt64 = yy at t1 t2 ⊢
    have p1 : (2 : Int) ^ (7 * 8) = 72057594037927936 := by decide
    have p2 : (2 : Int) ^ (7 * (8 + 1)) = 9223372036854775808 := by decide
    have p3 : ((2 ^ 56 : Nat) : Int) = 72057594037927936 := by decide
    rw [p1] at hr0 hd
    rw [p3] at t1
    rw [p2]
    have t3 := Jvm.RoadKit.c_orL' r yy 56 (by decide) 72057594037927936 (by decide) (by omega) (by omega) (by omega)
    omega
  · have es := hz (63 : Int32) (by rw [hs]; rfl)
    subst es
    have t1 := Jvm.RoadKit.c_lshl xx (63 : Int32) 63 (by decide)
    have t2 := Jvm.RoadKit.rng64 (xx <<< ((63 : Int32) &&& 0x3f).toInt64)
    generalize xx <<< ((63 : Int32) &&& 0x3f).toInt64 = yy at t1 t2 ⊢
    have p1 : (2 : Int) ^ (7 * 9) = 9223372036854775808 := by decide
    have p2 : (2 : Int) ^ (7 * (9 + 1)) = 1180591620717411303424 := by decide
    have p3 : ((2 ^ 63 : Nat) : Int) = 9223372036854775808 := by decide
    rw [p1] at hr0 hd
    rw [p3] at t1
    rw [p2]
    have t3 := Jvm.RoadKit.c_orL' r yy 63 (by decide) 9223372036854775808 (by decide) (by omega) (by omega) (by omega)
    omega
theorem own_l0 : (0 : Int64).toInt = 0 := rfl
theorem own_l1 : (1 : Int64).toInt = 1 := rfl
theorem own_lm1 : (-1 : Int64).toInt = -1 := rfl
theorem own_zm1 : (-1 : Int32).toInt = -1 := rfl
theorem own_z11 : (11 : Int32).toInt = 11 := rfl
theorem own_z10 : (10 : Int32).toInt = 10 := rfl
theorem own_z9 : (9 : Int32).toInt = 9 := rfl
theorem own_z2 : (2 : Int32).toInt = 2 := rfl
theorem own_lt64 {a b : Int64} : a < b ↔ a.toInt < b.toInt := Int64.lt_iff_toInt_lt
theorem own_p0 : (2 : Int) ^ (7 * 0) = 1 := by decide
theorem own_p1 : (2 : Int) ^ (7 * 1) = 128 := by decide
theorem own_p1' : (2 : Int) ^ (7 * (1 : Int).toNat) = 128 := by decide
def own_okb (vs : List Value) (s n U : Int) : Prop := ∀ (i : Nat) (q : Int32), (i : Int) < n → q.toInt = s + (i : Int) → vs.getD q.toNatClampNeg (.int (0 : Int32)) = .int (own_by vs q) ∧ ((own_by vs q) &&& (255 : Int32)).toInt = U / 2 ^ (7 * i) % 128 + (if (i : Int) + 1 < n then 128 else 0)
theorem own_rd (vs : List Value) (z : Int32) (s n U : Int) (h0 : 0 ≤ U ∧ U < 18446744073709551616) (hs : 0 ≤ s) (hm : n ≤ 10) (hmz : s + n ≤ z.toInt) (H : own_okb vs s n U) : ∀ (k i : Nat) (q sh : Int32) (r : Int64), q.toInt = s + (i : Int) → (i : Int) < n → sh.toInt = 7 * (i : Int) → n ≤ (i : Int) + (k : Int) → r.toInt % 18446744073709551616 = U % 2 ^ (7 * i) →
    rok k vs z q sh ∧ (rl k vs q r sh).2.toInt = s + n ∧ (rl k vs q r sh).1.toInt % 18446744073709551616 = U % 2 ^ (7 * n.toNat) := by
  intro k
  induction k with
  | zero => intro i q sh r h1 h2 h3 h4 h5; omega
  | succ k ih =>
    intro i q sh r h1 h2 h3 h4 h5
    have zz := Jvm.RoadKit.rng32 z
    obtain ⟨a1, a2⟩ := H i q h2 h1
    have m1 := Jvm.RoadKit.c_mask ((own_by vs q) &&& (255 : Int32)) (127 : Int32) 7 (by decide) (by decide)
    have pz : 0 ≤ U / 2 ^ (7 * i) % 128 ∧ U / 2 ^ (7 * i) % 128 < 128 := by omega
    have hd : (((own_by vs q) &&& (255 : Int32)) &&& (127 : Int32)).toInt = U / 2 ^ (7 * i) % 128 := by
      rw [m1, a2]; by_cases c : (i : Int) + 1 < n
      · rw [if_pos c]; omega
      · rw [if_neg c]; omega
    have s1 := own_step r (own_by vs q) sh U i h0 (by omega) h3 h5 hd
    have g1 := Jvm.RoadKit.c_iadd q (1 : Int32)
    have g2 := Jvm.RoadKit.rng32 (q + (1 : Int32))
    have g3 := Jvm.RoadKit.c_iadd sh (7 : Int32)
    have g4 := Jvm.RoadKit.rng32 (sh + (7 : Int32))
    have e1 := own_z1
    have e7 := own_z7
    have hq : (¬ (q < (0 : Int32))) ∧ q < z := by rw [own_lt32, own_lt32, own_z0]; omega
    have h63 : sh = (63 : Int32) → ¬ ((1 : Int32) < ((own_by vs q) &&& (255 : Int32))) := by
      intro es; rw [es] at h3
      have h3' : (63 : Int) = 7 * (i : Int) := h3
      have i9 : i = 9 := by omega
      subst i9
      rw [own_lt32, own_z1, a2, if_neg (by omega)]
      have p1 : (2 : Int) ^ (7 * 9) = 9223372036854775808 := by decide
      rw [p1]; omega
    by_cases c : (i : Int) + 1 < n
    · rw [if_pos c] at a2
      have nb : ¬ (((own_by vs q) &&& (255 : Int32)) &&& (128 : Int32)) = (0 : Int32) := by rw [own_128 _ (by omega)]; omega
      obtain ⟨b1, b2, b3⟩ := ih (i + 1) (q + (1 : Int32)) (sh + (7 : Int32)) (own_res r (own_by vs q) sh) (by omega) (by omega) (by omega) (by omega) s1
      refine ⟨⟨hq, a1, h63, Or.inr b1⟩, ?_, ?_⟩
      · simp only [rl]; rw [if_neg nb]; exact b2
      · simp only [rl]; rw [if_neg nb]; exact b3
    · rw [if_neg c] at a2
      have nb : (((own_by vs q) &&& (255 : Int32)) &&& (128 : Int32)) = (0 : Int32) := by rw [own_128 _ (by omega)]; omega
      refine ⟨⟨hq, a1, h63, Or.inl nb⟩, ?_, ?_⟩
      · simp only [rl]; rw [if_pos nb]; show (q + (1 : Int32)).toInt = _; omega
      · simp only [rl]; rw [if_pos nb]; rw [show n.toNat = i + 1 by omega]; exact s1
theorem own_rd0 (vs : List Value) (z q : Int32) (s n U : Int) (h0 : 0 ≤ U ∧ U < 18446744073709551616) (hs : 0 ≤ s) (h1 : 1 ≤ n) (hm : n ≤ 10) (hmz : s + n ≤ z.toInt) (H : own_okb vs s n U) (hq : q.toInt = s) :
    rok 10 vs z q (0 : Int32) ∧ (rl 10 vs q (0 : Int64) (0 : Int32)).2.toInt = s + n ∧ (rl 10 vs q (0 : Int64) (0 : Int32)).1.toInt % 18446744073709551616 = U % 2 ^ (7 * n.toNat) := by
  refine own_rd vs z s n U h0 hs hm hmz H 10 0 q (0 : Int32) (0 : Int64) (by omega) (by omega) (by rw [own_z0]; omega) (by omega) ?_
  rw [own_l0, own_p0]
  omega
theorem own_pm (U : Int) (a b : Nat) (h : a ≤ b) (hU : U < 2 ^ (7 * a)) : U < 2 ^ (7 * b) := by
  have c : ((2 ^ (7 * a) : Nat) : Int) ≤ ((2 ^ (7 * b) : Nat) : Int) := Int.ofNat_le.mpr (Nat.pow_le_pow_right (by decide) (by omega))
  rw [Int.natCast_pow, Int.natCast_pow] at c
  exact Int.lt_of_lt_of_le hU c
theorem own_m1 (y : Int64) : (y ^^^ (-1 : Int64)).toInt = -y.toInt - 1 := by
  have e := Int64.toInt_not y
  have r := Jvm.RoadKit.rng64 (~~~y)
  have g := Jvm.RoadKit.rng64 y
  have t := Jvm.RoadKit.bm64 (-y.toInt - 1)
  rw [Int64.xor_neg_one]
  rw [← e] at t
  omega
theorem own_m1i (y : Int32) : (y ^^^ (-1 : Int32)).toInt = -y.toInt - 1 := by
  have e := Int32.toInt_not y
  have r := Jvm.RoadKit.rng32 (~~~y)
  have g := Jvm.RoadKit.rng32 y
  have t := Jvm.RoadKit.bm32 (-y.toInt - 1)
  rw [Int32.xor_neg_one]
  rw [← e] at t
  omega
theorem own_uz (W : Int64) : (((W.toUInt64 >>> ((1 : Int32) &&& 0x3f).toInt64.toUInt64).toInt64) ^^^ (-(W &&& (1 : Int64)))).toInt = (if W.toInt % 2 = 0 then W.toInt % 18446744073709551616 / 2 else -(W.toInt % 18446744073709551616 / 2) - 1) := by
  have h1 := Jvm.RoadKit.c_lushr W (1 : Int32) 1 (by decide) (by decide)
  have h2 := Jvm.RoadKit.c_maskL W (1 : Int64) 1 (by decide) (by decide)
  by_cases c : W.toInt % 2 = 0
  · have e : W &&& (1 : Int64) = (0 : Int64) := Int64.toInt_inj.mp (by rw [h2, own_l0]; omega)
    rw [e, if_pos c, show (-(0 : Int64)) = (0 : Int64) from by decide, Int64.xor_zero, h1] <;> omega
  · have e : W &&& (1 : Int64) = (1 : Int64) := Int64.toInt_inj.mp (by rw [h2, own_l1]; omega)
    rw [e, if_neg c, own_m1, h1] <;> omega
theorem own_zzl (v : Int64) : ((v <<< ((1 : Int32) &&& 0x3f).toInt64) ^^^ (v >>> ((63 : Int32) &&& 0x3f).toInt64)).toInt % 18446744073709551616 = (if 0 ≤ v.toInt then 2 * v.toInt else -2 * v.toInt - 1) := by
  have h1 := Jvm.RoadKit.c_lshl v (1 : Int32) 1 (by decide)
  have h2 := Jvm.RoadKit.c_lshr v (63 : Int32) 63 (by decide)
  have g := Jvm.RoadKit.rng64 v
  by_cases c : 0 ≤ v.toInt
  · have e : v >>> ((63 : Int32) &&& 0x3f).toInt64 = (0 : Int64) := Int64.toInt_inj.mp (by rw [h2, own_l0]; omega)
    rw [e, if_pos c, Int64.xor_zero]; omega
  · have e : v >>> ((63 : Int32) &&& 0x3f).toInt64 = (-1 : Int64) := Int64.toInt_inj.mp (by rw [h2, own_lm1]; omega)
    rw [e, if_neg c, own_m1]; omega
theorem own_zzi (v : Int32) : ((v <<< ((1 : Int32) &&& 31)) ^^^ (v >>> ((31 : Int32) &&& 31))).toInt % 4294967296 = (if 0 ≤ v.toInt then 2 * v.toInt else -2 * v.toInt - 1) := by
  have h1 := Jvm.RoadKit.c_ishl v (1 : Int32) 1 (by decide)
  have h2 := Jvm.RoadKit.c_ishr v (31 : Int32) 31 (by decide)
  have g := Jvm.RoadKit.rng32 v
  by_cases c : 0 ≤ v.toInt
  · have e : v >>> ((31 : Int32) &&& 31) = (0 : Int32) := Int32.toInt_inj.mp (by rw [h2, own_z0]; omega)
    rw [e, if_pos c, Int32.xor_zero]; omega
  · have e : v >>> ((31 : Int32) &&& 31) = (-1 : Int32) := Int32.toInt_inj.mp (by rw [h2, own_zm1]; omega)
    rw [e, if_neg c, own_m1i]; omega
theorem own_mr (k p m : Int32) (hk : 1 ≤ k.toInt ∧ k.toInt ≤ 10) (h : (k + ((p &&& (2147483647 : Int32)) % ((11 : Int32) - k))) = m) : k.toInt ≤ m.toInt ∧ m.toInt ≤ 10 := by
  have e := own_z11
  have t0 := Jvm.RoadKit.c_isub (11 : Int32) k
  have t1 := Jvm.RoadKit.rng32 ((11 : Int32) - k)
  have t2 := Jvm.RoadKit.c_mask p (2147483647 : Int32) 31 (by decide) (by decide)
  have t3 : 0 ≤ (p &&& (2147483647 : Int32)).toInt := by rw [t2]; omega
  obtain ⟨u1, u2, _, _, _⟩ := (Jvm.RoadKit.c_iremV (p &&& (2147483647 : Int32)) ((11 : Int32) - k)).1 t3 (by omega)
  have t4 := Jvm.RoadKit.c_iadd k ((p &&& (2147483647 : Int32)) % ((11 : Int32) - k))
  have t5 := Jvm.RoadKit.rng32 (k + ((p &&& (2147483647 : Int32)) % ((11 : Int32) - k)))
  rw [h] at t4 t5
  omega
theorem own_nz (k : Int32) (hk : 1 ≤ k.toInt ∧ k.toInt ≤ 10) : (11 : Int32) - k ≠ (0 : Int32) := by
  intro c
  have e := own_z11
  have t0 := Jvm.RoadKit.c_isub (11 : Int32) k
  rw [c, own_z0] at t0
  omega
theorem own_e (vs : List Value) (q : Int32) (i : Nat) (b : Int32) (hq : q.toNatClampNeg = i) (h : vs.getD i (.int (0 : Int32)) = .int b) : vs.getD q.toNatClampNeg (.int (0 : Int32)) = .int (own_by vs q) ∧ own_by vs q = b := by
  unfold own_by; rw [hq, h]; exact ⟨rfl, rfl⟩
theorem own_bb (q : Int32) : (q.toInt8.toInt32).toInt8.toInt32 = q.toInt8.toInt32 := by
  simp
theorem own_shd (v : Int64) (d : Int32) (h : 0 ≤ d.toInt ∧ d.toInt ≤ 9) : (((v.toUInt64 >>> (((7 : Int32) * d) &&& 0x3f).toInt64.toUInt64).toInt64)).toInt % 128 = v.toInt % 18446744073709551616 / 2 ^ (7 * d.toInt.toNat) % 128 := by
  have r := Jvm.RoadKit.rng64 v
  have hc : d = 0 ∨ d = 1 ∨ d = 2 ∨ d = 3 ∨ d = 4 ∨ d = 5 ∨ d = 6 ∨ d = 7 ∨ d = 8 ∨ d = 9 := by
    simp only [← Int32.toInt_inj]
    show d.toInt = 0 ∨ d.toInt = 1 ∨ d.toInt = 2 ∨ d.toInt = 3 ∨ d.toInt = 4 ∨ d.toInt = 5 ∨ d.toInt = 6 ∨ d.toInt = 7 ∨ d.toInt = 8 ∨ d.toInt = 9
    omega
  rcases hc with e | e | e | e | e | e | e | e | e | e <;> subst e
  · have z : ((v.toUInt64 >>> (((7 : Int32) * 0) &&& 0x3f).toInt64.toUInt64).toInt64) = v := by
      have : (((7 : Int32) * 0) &&& 0x3f).toInt64.toUInt64 = 0 := by decide
      rw [this]; simp
    rw [z]; show v.toInt % 128 = v.toInt % 18446744073709551616 / 2 ^ 0 % 128; omega
  · have q := Jvm.RoadKit.c_lushr v ((7 : Int32) * 1) 7 (by decide) (by decide); rw [q]; show _ = v.toInt % 18446744073709551616 / 2 ^ 7 % 128; omega
  · have q := Jvm.RoadKit.c_lushr v ((7 : Int32) * 2) 14 (by decide) (by decide); rw [q]; show _ = v.toInt % 18446744073709551616 / 2 ^ 14 % 128; omega
  · have q := Jvm.RoadKit.c_lushr v ((7 : Int32) * 3) 21 (by decide) (by decide); rw [q]; show _ = v.toInt % 18446744073709551616 / 2 ^ 21 % 128; omega
  · have q := Jvm.RoadKit.c_lushr v ((7 : Int32) * 4) 28 (by decide) (by decide); rw [q]; show _ = v.toInt % 18446744073709551616 / 2 ^ 28 % 128; omega
  · have q := Jvm.RoadKit.c_lushr v ((7 : Int32) * 5) 35 (by decide) (by decide); rw [q]; show _ = v.toInt % 18446744073709551616 / 2 ^ 35 % 128; omega
  · have q := Jvm.RoadKit.c_lushr v ((7 : Int32) * 6) 42 (by decide) (by decide); rw [q]; show _ = v.toInt % 18446744073709551616 / 2 ^ 42 % 128; omega
  · have q := Jvm.RoadKit.c_lushr v ((7 : Int32) * 7) 49 (by decide) (by decide); rw [q]; show _ = v.toInt % 18446744073709551616 / 2 ^ 49 % 128; omega
  · have q := Jvm.RoadKit.c_lushr v ((7 : Int32) * 8) 56 (by decide) (by decide); rw [q]; show _ = v.toInt % 18446744073709551616 / 2 ^ 56 % 128; omega
  · have q := Jvm.RoadKit.c_lushr v ((7 : Int32) * 9) 63 (by decide) (by decide); rw [q]; show _ = v.toInt % 18446744073709551616 / 2 ^ 63 % 128; omega
theorem own_b255 (X : Int32) : ((X.toInt8.toInt32) &&& (255 : Int32)).toInt = X.toInt % 256 := by
  have h1 := Jvm.RoadKit.c_i2b X
  have h2 := Jvm.RoadKit.c_mask (X.toInt8.toInt32) (255 : Int32) 8 (by decide) (by decide)
  omega
theorem own_bytelo (v : Int64) (q : Int32) (hq : 0 ≤ q.toInt ∧ q.toInt ≤ 9) : ((((((v.toUInt64 >>> (((7 : Int32) * q) &&& 0x3f).toInt64.toUInt64).toInt64) &&& (127 : Int64)).toInt32).toInt8.toInt32) &&& (255 : Int32)).toInt = v.toInt % 18446744073709551616 / 2 ^ (7 * q.toInt.toNat) % 128 := by
  rw [own_b255, ← own_shd v q hq]
  generalize (v.toUInt64 >>> (((7 : Int32) * q) &&& 0x3f).toInt64.toUInt64).toInt64 = u
  have m1 := Jvm.RoadKit.c_maskL u (127 : Int64) 7 (by decide) (by decide)
  have m2 := Jvm.RoadKit.c_l2i (u &&& (127 : Int64))
  have m3 := Jvm.RoadKit.rng32 (u &&& (127 : Int64)).toInt32
  omega
theorem own_bytehi (v : Int64) (q : Int32) (hq : 0 ≤ q.toInt ∧ q.toInt ≤ 9) : (((((((v.toUInt64 >>> (((7 : Int32) * q) &&& 0x3f).toInt64.toUInt64).toInt64) &&& (127 : Int64)).toInt32) ||| (128 : Int32)).toInt8.toInt32) &&& (255 : Int32)).toInt = v.toInt % 18446744073709551616 / 2 ^ (7 * q.toInt.toNat) % 128 + 128 := by
  rw [own_b255, ← own_shd v q hq]
  generalize (v.toUInt64 >>> (((7 : Int32) * q) &&& 0x3f).toInt64.toUInt64).toInt64 = u
  have m1 := Jvm.RoadKit.c_maskL u (127 : Int64) 7 (by decide) (by decide)
  have m2 := Jvm.RoadKit.c_l2i (u &&& (127 : Int64))
  have m3 := Jvm.RoadKit.rng32 (u &&& (127 : Int64)).toInt32
  have e : (128 : Int32).toInt = 128 := rfl
  have o := Jvm.RoadKit.c_or' ((u &&& (127 : Int64)).toInt32) (128 : Int32) 7 (by decide) 128 (by decide) (by rw [e]; decide) (by omega) (by omega)
  omega

theorem d5_0 : decode jdk_31_method_11_code 0 = .ok (.aload_n 0, 1) := by decide +kernel
theorem d5_1 : decode jdk_31_method_11_code 1 = .ok (.ifnonnull 12, 3) := by decide +kernel
theorem d5_13 : decode jdk_31_method_11_code 13 = .ok (.aload_n 0, 1) := by decide +kernel
def Q_rm5 (Z : State) (o0 : Addr) (o1 : Addr) (h0 : Heap) (n0 : Nat) (v : Option Value) (h : Heap) (L : List Loc) : Prop := v = some (.ref o0) ∧ Fr n0 L ∧ h = h0
theorem pn_5 : plainName "java/util/Objects" = true := by first | (simp [plainName, overriddenIn]; done) | decide +kernel
theorem ef_5 (m : MethodId) (x0 : Addr) (x1 : Addr) : entryFrame m #[(.ref x0), (.ref x1)] 2 = mkF m 0 #[.val (.ref x0), .val (.ref x1)] [] := by first | (simp [entryFrame, mkF, argsToLocals, Value.category]; done) | rfl
theorem d5_14 : decode jdk_31_method_11_code 14 = .ok (.areturn, 1) := by decide +kernel
set_option maxRecDepth 65536 in
set_option maxHeartbeats 40000000 in
theorem rm5 (l : Launch) (Z : State) (a0 : Array Value) (hw : ∀ d ∈ tables_1, d.before a0 Z = true) (ws : List Jvm.Cond) (o0 : Addr) (o1 : Addr) (h0 : Heap) (n0 : Nat) (Z0 : n0 ≤ h0.size) :
    MetFree l (⟨"java/util/Objects", "requireNonNull", "(Ljava/lang/Object;Ljava/lang/String;)Ljava/lang/Object;"⟩ : MethodName) (head1 (Jvm.Cond.code (⟨"java/util/Objects", "requireNonNull", "(Ljava/lang/Object;Ljava/lang/String;)Ljava/lang/Object;"⟩ : MethodName) jdk_31_method_11_code 2 (some (.object "java/lang/Object")) :: ws) ({ frames := 0, cells := 0, slots := 0, locals := 0 } : Room)) (fun a U => a = #[(.ref o0), (.ref o1)] ∧ Z.Warmed39 U.vm ∧ U.heap = h0) (fun _ _ _ _ _ => True) (fun _ U o U' => ∃ v L, o = .returned v ∧ Q_rm5 Z o0 o1 h0 n0 v U'.heap L ∧ FrameEnd U o U' L ({ frames := 0, cells := 0, slots := 0, locals := 0 } : Room).cells ({ frames := 0, cells := 0, slots := 0, locals := 0 } : Room).slots) := by
  refine MetFree.of_bodySF (plainFor_of_name pn_5) hisR ?_
  intro p e s m args below meth c s₁ Bd hml0 hP hK
  obtain ⟨rfl, hZ, hh⟩ := hP
  have hx := Bd.exec
  have hby := Bd.bytes
  have hml : c.maxLocals = 2 := hml0
  have hown : s.vm.findClass "java/util/Objects" = some m.cls := findClass_of_methodNamed Bd.named
  have hnm := (name_of_methodNamed Bd.named Bd.method).1
  have X0 : Stand p l e ({ frames := 0, cells := 0, slots := 0, locals := 0 } : Room) s m #[(.ref o0), (.ref o1)] below meth c s₁ [] 0 0 := Stand.of_body Bd
  have e0 : s₁.heap = h0 := by rw [← hh, Bd.state]; rfl
  have N0 := Fr.nil n0
  have Kp0 : Keep h0 h0 [] := Keep.refl _ _
  have K0 : Steps p.tables e below (s₁.setTop (entryFrame m #[(.ref o0), (.ref o1)] 2)) (s₁.setTop (mkF m 0 #[.val (.ref o0), .val (.ref o1)] [])) := castTop (ef_5 m o0 o1) (Steps.refl _)
  have K1 : Steps p.tables e below _ (s₁.setTop (mkF m 14 #[.val (.ref o0), .val (.ref o1)] [(.ref o0)])) := K0.trans (by
    show Steps p.tables e below (s₁.setTop (mkF m 0 #[.val (.ref o0), .val (.ref o1)] [])) _
    refine XS.aloadN X0.here hx rfl (hb hby d5_0) rfl rfl ?_
    show Steps p.tables e below (s₁.setTop (mkF m 1 #[.val (.ref o0), .val (.ref o1)] [(.ref o0)])) _
    refine XS.ifnonnullYes X0.here hx rfl (pc0 := 1) (pc' := 13) rfl (hb hby d5_1) rfl (by decide) (by decide) ?_
    show Steps p.tables e below (s₁.setTop (mkF m 13 #[.val (.ref o0), .val (.ref o1)] [])) _
    refine XS.aloadN X0.here hx rfl (hb hby d5_13) rfl rfl ?_
    show Steps p.tables e below (s₁.setTop (mkF m 14 #[.val (.ref o0), .val (.ref o1)] [(.ref o0)])) _
    exact Steps.refl _)
  obtain ⟨fs, hr, hrun, hended, hW, hsame⟩ := X0.leave (v := some (.ref o0)) (fun h => by rw [Bd.returns] at h; cases h)
  refine ⟨_, _, K1.trans (retOut X0 hx Bd.returns rfl (Or.inr (Or.inr (Or.inr (Or.inr ⟨rfl, rfl, rfl⟩)))) (hb hby d5_14) hr), hrun, hended, _, _, rfl, ?_, ⟨_, rfl⟩, hW, hsame.mono (by decide) (by first | decide | omega)⟩
  show Q_rm5 Z o0 o1 h0 n0 _ s₁.heap _
  rw [e0]
  exact ⟨rfl, N0, rfl⟩
theorem d3_0 : decode prog_1_method_1_code 0 = .ok (.aload_n 0, 1) := by decide +kernel
theorem d3_1 : decode prog_1_method_1_code 1 = .ok (.invokespecial 1, 3) := by decide +kernel
theorem d3_4 : decode prog_1_method_1_code 4 = .ok (.aload_n 0, 1) := by decide +kernel
theorem d3_5 : decode prog_1_method_1_code 5 = .ok (.aload_n 1, 1) := by decide +kernel
theorem own_sa {a0 : Array Value} {Z : State} (hw : ∀ d ∈ tables_1, d.before a0 Z = true) : ∀ d ∈ Bundle.stringAtoms, d.before a0 Z = true := fun d hd => hw d (by
  simp only [Bundle.stringAtoms, List.mem_cons, List.not_mem_nil, or_false] at hd
  rcases hd with rfl | rfl | rfl | rfl | rfl | rfl | rfl <;> decide +kernel)
theorem d3_6 : decode prog_1_method_1_code 6 = .ok (.ldc 7, 2) := by decide +kernel
theorem pd_0 : parseMethodDescriptor "(Ljava/lang/Object;Ljava/lang/String;)Ljava/lang/Object;" = some ⟨[(.object "java/lang/Object"), (.object "java/lang/String")], some (.object "java/lang/Object")⟩ := by decide +kernel
theorem d3_8 : decode prog_1_method_1_code 8 = .ok (.invokestatic 9, 3) := by decide +kernel
theorem d3_11 : decode prog_1_method_1_code 11 = .ok (.checkcast 15, 3) := by decide +kernel
theorem d3_14 : decode prog_1_method_1_code 14 = .ok (.putfield 17, 3) := by decide +kernel
def Q_rm3 (Z : State) (o0 : Addr) (o1 : Addr) (w_pos : Int32) (u3_input : Value) (h0 : Heap) (n0 : Nat) (v : Option Value) (h : Heap) (L : List Loc) : Prop := v = none ∧ Fr n0 L ∧ Keep h0 h [o0] ∧ Exa Z h o0 "com/example/thin_gateway/thingateway/avro/AvroDecoder" ∧ Fld Z h o0 "com/example/thin_gateway/thingateway/avro/AvroDecoder" "position" "I" (.int w_pos) ∧ Fld Z h o0 "com/example/thin_gateway/thingateway/avro/AvroDecoder" "input" "[B" (.ref o1)
theorem pn_3 : plainName "com/example/thin_gateway/thingateway/avro/AvroDecoder" = true := by first | (simp [plainName, overriddenIn]; done) | decide +kernel
theorem ef_3 (m : MethodId) (x0 : Addr) (x1 : Addr) : entryFrame m #[(.ref x0), (.ref x1)] 2 = mkF m 0 #[.val (.ref x0), .val (.ref x1)] [] := by first | (simp [entryFrame, mkF, argsToLocals, Value.category]; done) | rfl
theorem d3_17 : decode prog_1_method_1_code 17 = .ok (.return_, 1) := by decide +kernel
set_option maxRecDepth 65536 in
set_option maxHeartbeats 40000000 in
theorem rm3 (l : Launch) (Z : State) (a0 : Array Value) (hw : ∀ d ∈ tables_1, d.before a0 Z = true) (ws : List Jvm.Cond) (o0 : Addr) (o1 : Addr) (w_pos : Int32) (u3_input : Value) (h0 : Heap) (n0 : Nat) (Z0 : n0 ≤ h0.size) (E_o0 : Exa Z h0 o0 "com/example/thin_gateway/thingateway/avro/AvroDecoder") (F_position_o0 : Fld Z h0 o0 "com/example/thin_gateway/thingateway/avro/AvroDecoder" "position" "I" (.int w_pos)) (E_o1 : Exa Z h0 o1 "[B") (ne_o0_o1 : o0 ≠ o1) (g_o0 : n0 ≤ o0) (F_input_o0 : Fld Z h0 o0 "com/example/thin_gateway/thingateway/avro/AvroDecoder" "input" "[B" u3_input) :
    MetFree l (⟨"com/example/thin_gateway/thingateway/avro/AvroDecoder", "<init>", "([B)V"⟩ : MethodName) (head1 (Jvm.Cond.code (⟨"com/example/thin_gateway/thingateway/avro/AvroDecoder", "<init>", "([B)V"⟩ : MethodName) prog_1_method_1_code 2 none :: ws) ({ frames := 1, cells := 2, slots := 24, locals := 14 } : Room)) (fun a U => a = #[(.ref o0), (.ref o1)] ∧ Z.Warmed39 U.vm ∧ U.heap = h0) (fun _ _ _ _ _ => True) (fun _ U o U' => ∃ v L, o = .returned v ∧ Q_rm3 Z o0 o1 w_pos u3_input h0 n0 v U'.heap L ∧ ReturnedEndW U o U' L ({ frames := 1, cells := 2, slots := 24, locals := 14 } : Room).cells ({ frames := 1, cells := 2, slots := 24, locals := 14 } : Room).slots) := by
  refine MetFree.of_bodySF (plainFor_of_name pn_3) hisR ?_
  intro p e s m args below meth c s₁ Bd hml0 hP hK
  obtain ⟨rfl, hZ, hh⟩ := hP
  have hx := Bd.exec
  have hby := Bd.bytes
  have hml : c.maxLocals = 2 := hml0
  have hown : s.vm.findClass "com/example/thin_gateway/thingateway/avro/AvroDecoder" = some m.cls := findClass_of_methodNamed Bd.named
  have hnm := (name_of_methodNamed Bd.named Bd.method).1
  have X0 : Stand p l e ({ frames := 1, cells := 2, slots := 24, locals := 14 } : Room) s m #[(.ref o0), (.ref o1)] below meth c s₁ [] 0 0 := Stand.of_body Bd
  have e0 : s₁.heap = h0 := by rw [← hh, Bd.state]; rfl
  have N0 := Fr.nil n0
  have Kp0 : Keep h0 h0 [o0] := Keep.refl _ _
  have K0 : Steps p.tables e below (s₁.setTop (entryFrame m #[(.ref o0), (.ref o1)] 2)) (s₁.setTop (mkF m 0 #[.val (.ref o0), .val (.ref o1)] [])) := castTop (ef_3 m o0 o1) (Steps.refl _)
  have K1 : Steps p.tables e below _ (s₁.setTop (mkF m 1 #[.val (.ref o0), .val (.ref o1)] [(.ref o0)])) := K0.trans (by
    show Steps p.tables e below (s₁.setTop (mkF m 0 #[.val (.ref o0), .val (.ref o1)] [])) _
    refine XS.aloadN X0.here hx rfl (hb hby d3_0) rfl rfl ?_
    show Steps p.tables e below (s₁.setTop (mkF m 1 #[.val (.ref o0), .val (.ref o1)] [(.ref o0)])) _
    exact Steps.refl _)
  obtain ⟨T2, X2, e2, st2⟩ := initO X0 hx hZ hown (hw _ (List.mem_of_getElem? (i := 18) rfl)) (hw _ (List.mem_of_getElem? (i := 19) rfl)) (hw _ (List.mem_of_getElem? (i := 20) rfl)) e0 (g := (mkF m 1 #[.val (.ref o0), .val (.ref o1)] [(.ref o0)])) rfl (by rw [hml]; rfl) rfl (hb hby d3_1) (by decide) (W := 0) (by show 2 * 0 + _ ≤ _; exact Nat.le_of_eq rfl) (by decide)
  have K3 : Steps p.tables e below _ (T2.setTop (mkF m 4 #[.val (.ref o0), .val (.ref o1)] [])) := K1.trans (st2 _ (Steps.refl _))
  have K4 : Steps p.tables e below _ (T2.setTop (mkF m 6 #[.val (.ref o0), .val (.ref o1)] [(.ref o1), (.ref o0)])) := K3.trans (by
    show Steps p.tables e below (T2.setTop (mkF m 4 #[.val (.ref o0), .val (.ref o1)] [])) _
    refine XS.aloadN X2.here hx rfl (hb hby d3_4) rfl rfl ?_
    show Steps p.tables e below (T2.setTop (mkF m 5 #[.val (.ref o0), .val (.ref o1)] [(.ref o0)])) _
    refine XS.aloadN X2.here hx rfl (hb hby d3_5) rfl rfl ?_
    show Steps p.tables e below (T2.setTop (mkF m 6 #[.val (.ref o0), .val (.ref o1)] [(.ref o1), (.ref o0)])) _
    exact Steps.refl _)
  have Xw5 : Stand p l e ({ frames := 1, cells := 2, slots := 24, locals := 14 } : Room) (s.setVm s.vm) m #[(.ref o0), (.ref o1)] below meth c T2 _ _ _ := X2
  obtain ⟨b5, T5, h5, kk5, X5, e5, E5, hS5, hk5, hZ5, hown5, st5⟩ := ldcS Xw5 hx hZ hown (hw _ (List.mem_of_getElem? (i := 21) rfl)) (own_sa hw) e2 (State.WarmedH.since (State.WarmedH.refl s) 0) (Nat.zero_le _) (g := (mkF m 6 #[.val (.ref o0), .val (.ref o1)] [(.ref o1), (.ref o0)])) rfl (hb hby d3_6) (n := 20) (by decide) (by decide) (by decide) (by decide)
  have hZ := hZ5
  have hown := hown5
  have K6 : Steps p.tables e below _ (T5.setTop (mkF m 8 #[.val (.ref o0), .val (.ref o1)] [(.ref b5), (.ref o1), (.ref o0)])) := K4.trans (st5 _ (Steps.refl _))
  have Z_7 : n0 ≤ h5.size := (Nat.le_trans Z0 E5.1)
  obtain ⟨_, _, ⟨T8, L8, k8, n8⟩, -, X8, ⟨Lc8, hQ8, l8, y8, z8⟩, st8⟩ := Jvm.LawKit.callS X5 hx (y := (⟨"java/util/Objects", "requireNonNull", "(Ljava/lang/Object;Ljava/lang/String;)Ljava/lang/Object;"⟩ : MethodName)) hown (mvT hZ (hw _ (List.mem_of_getElem? (i := 28) rfl))) (mvT hZ (hw _ (List.mem_of_getElem? (i := 29) rfl))) (mvT hZ (hw _ (List.mem_of_getElem? (i := 30) rfl))) (mvT hZ (hw _ (List.mem_of_getElem? (i := 31) rfl))) (by decide) (backOf (W := 1) (rm5 l Z a0 hw [] o1 b5 h5 n0 Z_7 ) hZ (hw _ (List.mem_of_getElem? (i := 31) rfl)) (hw _ (List.mem_of_getElem? (i := 30) rfl)) (by decide) (by decide)) (g := (mkF m 8 #[.val (.ref o0), .val (.ref o1)] [(.ref b5), (.ref o1), (.ref o0)])) rfl (by rw [hml]; rfl) (argsL := [(.ref o1), (.ref b5)]) (rest := [(.ref o0)]) (lenOf pd_0 rfl) rfl (by show 2 * 0 + _ ≤ _; exact Nat.le_of_eq rfl) (hb hby d3_8) (fun _ _ => ⟨rfl, e5, (by decide : 2 + 0 ≤ _), (by decide : 24 + 0 ≤ _)⟩)
  dsimp only [Pt.U, Pt.locs, Pt.cells, Pt.slots] at X8 l8 y8 z8 st8 hQ8
  subst l8 y8 z8
  obtain ⟨rfl, N8, eh8⟩ := hQ8
  have N8' := Fr.app N0 N8
  have K9 : Steps p.tables e below _ (T8.setTop (mkF m 11 #[.val (.ref o0), .val (.ref o1)] [(.ref o1), (.ref o0)])) := K6.trans (st8 _ (Steps.refl _))
  have E_10 : Exa Z h5 o1 "[B" := (E_o1.ext E5)
  obtain ⟨T11, X11, e11, st11⟩ := castY X8 hx hZ hown (hw _ (List.mem_of_getElem? (i := 32) rfl)) eh8 (Ins.self E_10) (g := (mkF m 11 #[.val (.ref o0), .val (.ref o1)] [(.ref o1), (.ref o0)])) rfl rfl (hb hby d3_11)
  have K12 : Steps p.tables e below _ (T11.setTop (mkF m 14 #[.val (.ref o0), .val (.ref o1)] [(.ref o1), (.ref o0)])) := K9.trans (st11 _ (Steps.refl _))
  have E_13 : Exa Z h5 o0 "com/example/thin_gateway/thingateway/avro/AvroDecoder" := (E_o0.ext E5)
  have F_14 : Fld Z h5 o0 "com/example/thin_gateway/thingateway/avro/AvroDecoder" "input" "[B" u3_input := (F_input_o0.ext E5)
  obtain ⟨T15, h15, X15, e15, W15, st15⟩ := putF X11 hx hZ hown (host := "") (Or.inl (hw _ (List.mem_of_getElem? (i := 34) rfl))) Via.refl e11 F_14 E_13 (Or.inr ⟨(hw _ (List.mem_of_getElem? (i := 35) rfl)), rfl, hnm⟩) (hw _ (List.mem_of_getElem? (i := 13) rfl)) (ty := (.array .byte)) (by decide) rfl rfl (g := (mkF m 14 #[.val (.ref o0), .val (.ref o1)] [(.ref o1), (.ref o0)])) rfl rfl (hb hby d3_14)
  have K16 : Steps p.tables e below _ (T15.setTop (mkF m 17 #[.val (.ref o0), .val (.ref o1)] [])) := K12.trans (st15 _ (Steps.refl _))
  have Fw15 : Fld Z h15 o0 "com/example/thin_gateway/thingateway/avro/AvroDecoder" "input" "[B" (.ref o1) := F_14.same W15
  have N15 := Fr.snoc X15 N8' g_o0
  have Y_17 : kk5 ≤ h15.size := (Nat.le_trans hk5 (Keep.of_wr W15).1)
  obtain ⟨fs, hr, hrun, hended, hEW⟩ := X15.leaveW hS5 (by rw [e15]; exact Y_17) (v := none) (fun _ => rfl)
  have K_18 : Keep h0 h15 [o0] := ((Kp0.ext E5).wr W15 (Or.inl (List.mem_of_getElem? (i := 0) rfl)))
  have E_19 : Exa Z h15 o0 "com/example/thin_gateway/thingateway/avro/AvroDecoder" := (E_13.wr W15)
  have F_20 : Fld Z h15 o0 "com/example/thin_gateway/thingateway/avro/AvroDecoder" "position" "I" (.int w_pos) := ((F_position_o0.ext E5).other W15 (Or.inr (slot_ne (Or.inl (hw _ (List.mem_of_getElem? (i := 42) rfl))) (Or.inr (hw _ (List.mem_of_getElem? (i := 35) rfl))) (by decide) (t := .int) (t' := (.array .byte)) (by decide) (by decide))))
  refine ⟨_, _, K16.trans (X15.returnOut hx Bd.returns (hb hby d3_17) hr), hrun, hended, _, _, rfl, ?_, ⟨_, rfl⟩, hEW.2.1, hEW.2.2.1, hEW.2.2.2.mono (by decide) (by decide)⟩
  show Q_rm3 Z o0 o1 w_pos u3_input h0 n0 _ T15.heap _
  rw [e15]
  exact ⟨rfl, N15, K_18, E_19, F_20, Fw15⟩
theorem d8_0 : decode prog_1_method_2_code 0 = .ok (.aload_n 0, 1) := by decide +kernel
theorem d8_1 : decode prog_1_method_2_code 1 = .ok (.getfield 21, 3) := by decide +kernel
theorem d8_4 : decode prog_1_method_2_code 4 = .ok (.aload_n 0, 1) := by decide +kernel
theorem d8_5 : decode prog_1_method_2_code 5 = .ok (.getfield 17, 3) := by decide +kernel
theorem d8_8 : decode prog_1_method_2_code 8 = .ok (.arraylength, 1) := by decide +kernel
theorem d8_9 : decode prog_1_method_2_code 9 = .ok (.if_icmp .ne 7, 3) := by decide +kernel
theorem d8_12 : decode prog_1_method_2_code 12 = .ok (.iconst 1, 1) := by decide +kernel
theorem d8_13 : decode prog_1_method_2_code 13 = .ok (.goto 4, 3) := by decide +kernel
theorem d8_16 : decode prog_1_method_2_code 16 = .ok (.iconst 0, 1) := by decide +kernel
def Q_rm8 (Z : State) (o0 : Addr) (ia : Addr) (ka : ClassId) (z : Int32) (vs : List Value) (n : Int32) (h0 : Heap) (n0 : Nat) (v : Option Value) (h : Heap) (L : List Loc) : Prop := v = some (.int ((if n = z then (1 : Int32) else (0 : Int32)) &&& 1)) ∧ Fr n0 L ∧ h = h0
theorem pn_8 : plainName "com/example/thin_gateway/thingateway/avro/AvroDecoder" = true := by first | (simp [plainName, overriddenIn]; done) | decide +kernel
theorem ef_8 (m : MethodId) (x0 : Addr) : entryFrame m #[(.ref x0)] 1 = mkF m 0 #[.val (.ref x0)] [] := by first | (simp [entryFrame, mkF, argsToLocals, Value.category]; done) | rfl
theorem d8_17 : decode prog_1_method_2_code 17 = .ok (.ireturn, 1) := by decide +kernel
set_option maxRecDepth 65536 in
set_option maxHeartbeats 40000000 in
theorem rm8 (l : Launch) (Z : State) (a0 : Array Value) (hw : ∀ d ∈ tables_1, d.before a0 Z = true) (ws : List Jvm.Cond) (o0 : Addr) (ia : Addr) (ka : ClassId) (z : Int32) (vs : List Value) (n : Int32) (h0 : Heap) (n0 : Nat) (Z0 : n0 ≤ h0.size) (F_input_o0 : Fld Z h0 o0 "com/example/thin_gateway/thingateway/avro/AvroDecoder" "input" "[B" (.ref ia)) (F_position_o0 : Fld Z h0 o0 "com/example/thin_gateway/thingateway/avro/AvroDecoder" "position" "I" (.int n)) (V_ia : Arv Z h0 ia ka .byte z vs (.int (0 : Int32))) :
    MetFree l (⟨"com/example/thin_gateway/thingateway/avro/AvroDecoder", "isAtEnd", "()Z"⟩ : MethodName) (head1 (Jvm.Cond.code (⟨"com/example/thin_gateway/thingateway/avro/AvroDecoder", "isAtEnd", "()Z"⟩ : MethodName) prog_1_method_2_code 1 (some .boolean) :: ws) ({ frames := 0, cells := 0, slots := 0, locals := 0 } : Room)) (fun a U => a = #[(.ref o0)] ∧ Z.Warmed39 U.vm ∧ U.heap = h0) (fun _ _ _ _ _ => True) (fun _ U o U' => ∃ v L, o = .returned v ∧ Q_rm8 Z o0 ia ka z vs n h0 n0 v U'.heap L ∧ FrameEnd U o U' L ({ frames := 0, cells := 0, slots := 0, locals := 0 } : Room).cells ({ frames := 0, cells := 0, slots := 0, locals := 0 } : Room).slots) := by
  refine MetFree.of_bodySF (plainFor_of_name pn_8) hisR ?_
  intro p e s m args below meth c s₁ Bd hml0 hP hK
  obtain ⟨rfl, hZ, hh⟩ := hP
  have hx := Bd.exec
  have hby := Bd.bytes
  have hml : c.maxLocals = 1 := hml0
  have hown : s.vm.findClass "com/example/thin_gateway/thingateway/avro/AvroDecoder" = some m.cls := findClass_of_methodNamed Bd.named
  have hnm := (name_of_methodNamed Bd.named Bd.method).1
  have X0 : Stand p l e ({ frames := 0, cells := 0, slots := 0, locals := 0 } : Room) s m #[(.ref o0)] below meth c s₁ [] 0 0 := Stand.of_body Bd
  have e0 : s₁.heap = h0 := by rw [← hh, Bd.state]; rfl
  have N0 := Fr.nil n0
  have Kp0 : Keep h0 h0 [] := Keep.refl _ _
  have K0 : Steps p.tables e below (s₁.setTop (entryFrame m #[(.ref o0)] 1)) (s₁.setTop (mkF m 0 #[.val (.ref o0)] [])) := castTop (ef_8 m o0) (Steps.refl _)
  have K1 : Steps p.tables e below _ (s₁.setTop (mkF m 1 #[.val (.ref o0)] [(.ref o0)])) := K0.trans (by
    show Steps p.tables e below (s₁.setTop (mkF m 0 #[.val (.ref o0)] [])) _
    refine XS.aloadN X0.here hx rfl (hb hby d8_0) rfl rfl ?_
    show Steps p.tables e below (s₁.setTop (mkF m 1 #[.val (.ref o0)] [(.ref o0)])) _
    exact Steps.refl _)
  obtain ⟨T2, X2, e2, st2⟩ := getF X0 hx hZ hown (host := "") (Or.inl (hw _ (List.mem_of_getElem? (i := 41) rfl))) Via.refl e0 F_position_o0 (g := (mkF m 1 #[.val (.ref o0)] [(.ref o0)])) rfl rfl (hb hby d8_1)
  have K3 : Steps p.tables e below _ (T2.setTop (mkF m 4 #[.val (.ref o0)] [(.int n)])) := K1.trans (st2 _ (Steps.refl _))
  have K4 : Steps p.tables e below _ (T2.setTop (mkF m 5 #[.val (.ref o0)] [(.ref o0), (.int n)])) := K3.trans (by
    show Steps p.tables e below (T2.setTop (mkF m 4 #[.val (.ref o0)] [(.int n)])) _
    refine XS.aloadN X2.here hx rfl (hb hby d8_4) rfl rfl ?_
    show Steps p.tables e below (T2.setTop (mkF m 5 #[.val (.ref o0)] [(.ref o0), (.int n)])) _
    exact Steps.refl _)
  obtain ⟨T5, X5, e5, st5⟩ := getF X2 hx hZ hown (host := "") (Or.inl (hw _ (List.mem_of_getElem? (i := 34) rfl))) Via.refl e2 F_input_o0 (g := (mkF m 5 #[.val (.ref o0)] [(.ref o0), (.int n)])) rfl rfl (hb hby d8_5)
  have K6 : Steps p.tables e below _ (T5.setTop (mkF m 8 #[.val (.ref o0)] [(.ref ia), (.int n)])) := K4.trans (st5 _ (Steps.refl _))
  have K7 : Steps p.tables e below _ (T5.setTop (mkF m 9 #[.val (.ref o0)] [(.int z), (.int n)])) := K6.trans (by
    show Steps p.tables e below (T5.setTop (mkF m 8 #[.val (.ref o0)] [(.ref ia), (.int n)])) _
    refine (own_len X5 hx hZ e5 V_ia (g := (mkF m 8 #[.val (.ref o0)] [(.ref ia), (.int n)])) rfl rfl (hb hby d8_8)).trans ?_
    show Steps p.tables e below (T5.setTop (mkF m 9 #[.val (.ref o0)] [(.int z), (.int n)])) _
    exact Steps.refl _)
  obtain ⟨v8_0, hv8_0, S8⟩ : ∃ (v8_0 : Int32), (if n = z then (1 : Int32) else (0 : Int32)) = v8_0 ∧ Steps p.tables e below (T5.setTop (mkF m 9 #[.val (.ref o0)] [(.int z), (.int n)])) (T5.setTop (mkF m 17 #[.val (.ref o0)] [(.int v8_0)])) := by
    have R8 := Steps.refl (tb := p.tables) (e := e) (below := below) (T5.setTop (mkF m 9 #[.val (.ref o0)] [(.int z), (.int n)]))
    by_cases hc9 : n = z
    · have K9 : Steps p.tables e below _ (T5.setTop (mkF m 17 #[.val (.ref o0)] [(.int (1 : Int32))])) := R8.trans (by
        show Steps p.tables e below (T5.setTop (mkF m 9 #[.val (.ref o0)] [(.int z), (.int n)])) _
        refine XS.icmpNo X5.here hx rfl (hb hby d8_9) rfl (teq hc9).2 ?_
        show Steps p.tables e below (T5.setTop (mkF m 12 #[.val (.ref o0)] [])) _
        refine XS.iconst X5.here hx rfl (hb hby d8_12) ?_
        show Steps p.tables e below (T5.setTop (mkF m 13 #[.val (.ref o0)] [(.int (1 : Int32))])) _
        refine XS.goto X5.here hx rfl (pc0 := 13) (pc' := 17) rfl (hb hby d8_13) (by decide) (by decide) ?_
        show Steps p.tables e below (T5.setTop (mkF m 17 #[.val (.ref o0)] [(.int (1 : Int32))])) _
        exact Steps.refl _)
      exact ⟨(1 : Int32), (by rw [if_pos hc9]), K9⟩
    · have K10 : Steps p.tables e below _ (T5.setTop (mkF m 17 #[.val (.ref o0)] [(.int (0 : Int32))])) := R8.trans (by
        show Steps p.tables e below (T5.setTop (mkF m 9 #[.val (.ref o0)] [(.int z), (.int n)])) _
        refine XS.icmpYes X5.here hx rfl (pc0 := 9) (pc' := 16) rfl (hb hby d8_9) rfl (feq hc9).2 (by decide) (by decide) ?_
        show Steps p.tables e below (T5.setTop (mkF m 16 #[.val (.ref o0)] [])) _
        refine XS.iconst X5.here hx rfl (hb hby d8_16) ?_
        show Steps p.tables e below (T5.setTop (mkF m 17 #[.val (.ref o0)] [(.int (0 : Int32))])) _
        exact Steps.refl _)
      exact ⟨(0 : Int32), (by rw [if_neg hc9]), K10⟩
  have K11 := K7.trans S8
  subst hv8_0
  obtain ⟨fs, hr, hrun, hended, hW, hsame⟩ := X5.leave (v := some (.int ((if n = z then (1 : Int32) else (0 : Int32)) &&& 1))) (fun h => by rw [Bd.returns] at h; cases h)
  refine ⟨_, _, K11.trans (retN X5 hx (t := .boolean) Bd.returns (by simp) (hb hby d8_17) hr), hrun, hended, _, _, rfl, ?_, ⟨_, rfl⟩, hW, hsame.mono (by decide) (by first | decide | omega)⟩
  show Q_rm8 Z o0 ia ka z vs n h0 n0 _ T5.heap _
  rw [e5]
  exact ⟨rfl, N0, rfl⟩
theorem d7_13 : decode prog_1_method_4_code 13 = .ok (.iload 5, 2) := by decide +kernel
theorem d7_15 : decode prog_1_method_4_code 15 = .ok (.ifCond .eq 115, 3) := by decide +kernel
theorem d7_18 : decode prog_1_method_4_code 18 = .ok (.aload_n 0, 1) := by decide +kernel
theorem d7_19 : decode prog_1_method_4_code 19 = .ok (.getfield 21, 3) := by decide +kernel
theorem d7_22 : decode prog_1_method_4_code 22 = .ok (.aload_n 0, 1) := by decide +kernel
theorem d7_23 : decode prog_1_method_4_code 23 = .ok (.getfield 17, 3) := by decide +kernel
theorem d7_26 : decode prog_1_method_4_code 26 = .ok (.arraylength, 1) := by decide +kernel
theorem d7_27 : decode prog_1_method_4_code 27 = .ok (.if_icmp .ne 17, 3) := by decide +kernel
theorem d7_44 : decode prog_1_method_4_code 44 = .ok (.aload_n 0, 1) := by decide +kernel
theorem d7_45 : decode prog_1_method_4_code 45 = .ok (.getfield 17, 3) := by decide +kernel
theorem d7_48 : decode prog_1_method_4_code 48 = .ok (.aload_n 0, 1) := by decide +kernel
theorem d7_49 : decode prog_1_method_4_code 49 = .ok (.getfield 21, 3) := by decide +kernel
theorem d7_52 : decode prog_1_method_4_code 52 = .ok (.baload, 1) := by decide +kernel
theorem d7_53 : decode prog_1_method_4_code 53 = .ok (.sipush 255, 3) := by decide +kernel
theorem d7_56 : decode prog_1_method_4_code 56 = .ok (.iand, 1) := by decide +kernel
theorem d7_57 : decode prog_1_method_4_code 57 = .ok (.istore 6, 2) := by decide +kernel
theorem d7_59 : decode prog_1_method_4_code 59 = .ok (.aload_n 0, 1) := by decide +kernel
theorem d7_60 : decode prog_1_method_4_code 60 = .ok (.dup, 1) := by decide +kernel
theorem d7_61 : decode prog_1_method_4_code 61 = .ok (.getfield 21, 3) := by decide +kernel
theorem d7_64 : decode prog_1_method_4_code 64 = .ok (.iconst 1, 1) := by decide +kernel
theorem d7_65 : decode prog_1_method_4_code 65 = .ok (.iadd, 1) := by decide +kernel
theorem d7_66 : decode prog_1_method_4_code 66 = .ok (.putfield 21, 3) := by decide +kernel
theorem d7_69 : decode prog_1_method_4_code 69 = .ok (.iload 4, 2) := by decide +kernel
theorem d7_71 : decode prog_1_method_4_code 71 = .ok (.bipush 63, 2) := by decide +kernel
theorem d7_73 : decode prog_1_method_4_code 73 = .ok (.if_icmp .ne 23, 3) := by decide +kernel
theorem d7_76 : decode prog_1_method_4_code 76 = .ok (.iload 6, 2) := by decide +kernel
theorem d7_78 : decode prog_1_method_4_code 78 = .ok (.iconst 1, 1) := by decide +kernel
theorem d7_79 : decode prog_1_method_4_code 79 = .ok (.if_icmp .le 17, 3) := by decide +kernel
theorem d7_96 : decode prog_1_method_4_code 96 = .ok (.lload_n 2, 1) := by decide +kernel
theorem d7_97 : decode prog_1_method_4_code 97 = .ok (.iload 6, 2) := by decide +kernel
theorem d7_99 : decode prog_1_method_4_code 99 = .ok (.bipush 127, 2) := by decide +kernel
theorem d7_101 : decode prog_1_method_4_code 101 = .ok (.iand, 1) := by decide +kernel
theorem d7_102 : decode prog_1_method_4_code 102 = .ok (.i2l, 1) := by decide +kernel
theorem d7_103 : decode prog_1_method_4_code 103 = .ok (.iload 4, 2) := by decide +kernel
theorem d7_105 : decode prog_1_method_4_code 105 = .ok (.lshl, 1) := by decide +kernel
theorem d7_106 : decode prog_1_method_4_code 106 = .ok (.lor, 1) := by decide +kernel
theorem d7_107 : decode prog_1_method_4_code 107 = .ok (.lstore_n 2, 1) := by decide +kernel
theorem d7_108 : decode prog_1_method_4_code 108 = .ok (.iload 6, 2) := by decide +kernel
theorem d7_110 : decode prog_1_method_4_code 110 = .ok (.sipush 128, 3) := by decide +kernel
theorem d7_113 : decode prog_1_method_4_code 113 = .ok (.iand, 1) := by decide +kernel
theorem d7_114 : decode prog_1_method_4_code 114 = .ok (.ifCond .eq 7, 3) := by decide +kernel
theorem d7_121 : decode prog_1_method_4_code 121 = .ok (.iconst 0, 1) := by decide +kernel
theorem d7_117 : decode prog_1_method_4_code 117 = .ok (.iconst 1, 1) := by decide +kernel
theorem d7_118 : decode prog_1_method_4_code 118 = .ok (.goto 4, 3) := by decide +kernel
theorem d7_122 : decode prog_1_method_4_code 122 = .ok (.istore 5, 2) := by decide +kernel
theorem d7_124 : decode prog_1_method_4_code 124 = .ok (.iinc 4 7, 3) := by decide +kernel
theorem d7_127 : decode prog_1_method_4_code 127 = .ok (.goto (-114), 3) := by decide +kernel
set_option maxRecDepth 65536 in
set_option maxHeartbeats 40000000 in
theorem rturn {p : Program} {l : Launch} {e : Env} {R : Room} {s : State} {m : MethodId} {args : Array Value} {below : List Frame} {meth : Method} {c : Code} {Z : State} {a0 : Array Value} {n0 : Nat} (hx : p.tables.exec = Jvm.exec) (hZ : Z.Warmed39 s.vm) (hw : ∀ d ∈ tables_1, d.before a0 Z = true) (hby : c.code = prog_1_method_4_code) (hml : c.maxLocals = 7) (hown : s.vm.findClass "com/example/thin_gateway/thingateway/avro/AvroDecoder" = some m.cls) {a ia : Addr} {ka : ClassId} {z : Int32} {vs : List Value} {st0 : Int32} (ga : n0 ≤ a) (nea : a ≠ ia) (T0 : State) (locs : List Loc) (h0 : Heap) (q : Int32) (r : Int64) (sh : Int32) (s6 : Slot) (h6 : One s6) (X0 : Stand p l e R s m args below meth c T0 locs 0 0) (e0 : T0.heap = h0) (N0 : Fr n0 locs) (E0 : Exa Z h0 a "com/example/thin_gateway/thingateway/avro/AvroDecoder") (FI : Fld Z h0 a "com/example/thin_gateway/thingateway/avro/AvroDecoder" "input" "[B" (.ref ia)) (FP : Fld Z h0 a "com/example/thin_gateway/thingateway/avro/AvroDecoder" "position" "I" (.int q)) (V0 : Arv Z h0 ia ka .byte z vs (.int (0 : Int32)))
    (hq : (¬ (q < (0 : Int32))) ∧ q < z) (hat : vs.getD q.toNatClampNeg (.int (0 : Int32)) = .int (own_by vs q)) (h63 : sh = (63 : Int32) → ¬ ((1 : Int32) < ((own_by vs q) &&& (255 : Int32)))) :
    ∃ (T' : State) (L' : List Loc) (h' : Heap), Stand p l e R s m args below meth c T' L' 0 0 ∧ T'.heap = h' ∧ Fr n0 L' ∧ Keep h0 h' [a] ∧ Exa Z h' a "com/example/thin_gateway/thingateway/avro/AvroDecoder" ∧ Fld Z h' a "com/example/thin_gateway/thingateway/avro/AvroDecoder" "input" "[B" (.ref ia) ∧ Fld Z h' a "com/example/thin_gateway/thingateway/avro/AvroDecoder" "position" "I" (.int (q + (1 : Int32))) ∧ Arv Z h' ia ka .byte z vs (.int (0 : Int32)) ∧ Steps p.tables e below (T0.setTop (mkF m 13 #[.val (.ref a), .val (.int st0), .val (.long r), .second, .val (.int sh), .val (.int (1 : Int32)), s6] [])) (T'.setTop (mkF m 13 #[.val (.ref a), .val (.int st0), .val (.long (own_res r (own_by vs q) sh)), .second, .val (.int (sh + (7 : Int32))), .val (.int (if (((own_by vs q) &&& (255 : Int32)) &&& (128 : Int32)) = (0 : Int32) then (0 : Int32) else (1 : Int32))), .val (.int ((own_by vs q) &&& (255 : Int32)))] [])) := by
  have K0 : Steps p.tables e below (T0.setTop (mkF m 13 #[.val (.ref a), .val (.int st0), .val (.long r), .second, .val (.int sh), .val (.int (1 : Int32)), s6] [])) (T0.setTop (mkF m 13 #[.val (.ref a), .val (.int st0), .val (.long r), .second, .val (.int sh), .val (.int (1 : Int32)), s6] [])) := Steps.refl _
  have K1 : Steps p.tables e below _ (T0.setTop (mkF m 19 #[.val (.ref a), .val (.int st0), .val (.long r), .second, .val (.int sh), .val (.int (1 : Int32)), s6] [(.ref a)])) := K0.trans (by
    show Steps p.tables e below (T0.setTop (mkF m 13 #[.val (.ref a), .val (.int st0), .val (.long r), .second, .val (.int sh), .val (.int (1 : Int32)), s6] [])) _
    refine XS.iload X0.here hx rfl (hb hby d7_13) rfl ?_
    show Steps p.tables e below (T0.setTop (mkF m 15 #[.val (.ref a), .val (.int st0), .val (.long r), .second, .val (.int sh), .val (.int (1 : Int32)), s6] [(.int (1 : Int32))])) _
    refine XS.ifNo X0.here hx rfl (hb hby d7_15) rfl ((if0 _ _).trans (feq (by decide : ¬ ((1 : Int32) = (0 : Int32)))).1) ?_
    show Steps p.tables e below (T0.setTop (mkF m 18 #[.val (.ref a), .val (.int st0), .val (.long r), .second, .val (.int sh), .val (.int (1 : Int32)), s6] [])) _
    refine XS.aloadN X0.here hx rfl (hb hby d7_18) rfl rfl ?_
    show Steps p.tables e below (T0.setTop (mkF m 19 #[.val (.ref a), .val (.int st0), .val (.long r), .second, .val (.int sh), .val (.int (1 : Int32)), s6] [(.ref a)])) _
    exact Steps.refl _)
  obtain ⟨T2, X2, e2, st2⟩ := getF X0 hx hZ hown (host := "") (Or.inl (hw _ (List.mem_of_getElem? (i := 41) rfl))) Via.refl e0 FP (g := (mkF m 19 #[.val (.ref a), .val (.int st0), .val (.long r), .second, .val (.int sh), .val (.int (1 : Int32)), s6] [(.ref a)])) rfl rfl (hb hby d7_19)
  have K3 : Steps p.tables e below _ (T2.setTop (mkF m 22 #[.val (.ref a), .val (.int st0), .val (.long r), .second, .val (.int sh), .val (.int (1 : Int32)), s6] [(.int q)])) := K1.trans (st2 _ (Steps.refl _))
  have K4 : Steps p.tables e below _ (T2.setTop (mkF m 23 #[.val (.ref a), .val (.int st0), .val (.long r), .second, .val (.int sh), .val (.int (1 : Int32)), s6] [(.ref a), (.int q)])) := K3.trans (by
    show Steps p.tables e below (T2.setTop (mkF m 22 #[.val (.ref a), .val (.int st0), .val (.long r), .second, .val (.int sh), .val (.int (1 : Int32)), s6] [(.int q)])) _
    refine XS.aloadN X2.here hx rfl (hb hby d7_22) rfl rfl ?_
    show Steps p.tables e below (T2.setTop (mkF m 23 #[.val (.ref a), .val (.int st0), .val (.long r), .second, .val (.int sh), .val (.int (1 : Int32)), s6] [(.ref a), (.int q)])) _
    exact Steps.refl _)
  obtain ⟨T5, X5, e5, st5⟩ := getF X2 hx hZ hown (host := "") (Or.inl (hw _ (List.mem_of_getElem? (i := 34) rfl))) Via.refl e2 FI (g := (mkF m 23 #[.val (.ref a), .val (.int st0), .val (.long r), .second, .val (.int sh), .val (.int (1 : Int32)), s6] [(.ref a), (.int q)])) rfl rfl (hb hby d7_23)
  have K6 : Steps p.tables e below _ (T5.setTop (mkF m 26 #[.val (.ref a), .val (.int st0), .val (.long r), .second, .val (.int sh), .val (.int (1 : Int32)), s6] [(.ref ia), (.int q)])) := K4.trans (st5 _ (Steps.refl _))
  have K8 : Steps p.tables e below _ (T5.setTop (mkF m 27 #[.val (.ref a), .val (.int st0), .val (.long r), .second, .val (.int sh), .val (.int (1 : Int32)), s6] [(.int z), (.int q)])) := K6.trans (by
    show Steps p.tables e below (T5.setTop (mkF m 26 #[.val (.ref a), .val (.int st0), .val (.long r), .second, .val (.int sh), .val (.int (1 : Int32)), s6] [(.ref ia), (.int q)])) _
    refine (own_len X5 hx hZ e5 V0 (g := (mkF m 26 #[.val (.ref a), .val (.int st0), .val (.long r), .second, .val (.int sh), .val (.int (1 : Int32)), s6] [(.ref ia), (.int q)])) rfl rfl (hb hby d7_26)).trans ?_
    show Steps p.tables e below (T5.setTop (mkF m 27 #[.val (.ref a), .val (.int st0), .val (.long r), .second, .val (.int sh), .val (.int (1 : Int32)), s6] [(.int z), (.int q)])) _
    exact Steps.refl _)
  have hc27_6 : ¬ (q = z) := (fun y => absurd hq.2 (by rw [y]; exact Int32.lt_irrefl))
  have K9 : Steps p.tables e below _ (T5.setTop (mkF m 45 #[.val (.ref a), .val (.int st0), .val (.long r), .second, .val (.int sh), .val (.int (1 : Int32)), s6] [(.ref a)])) := K8.trans (by
    show Steps p.tables e below (T5.setTop (mkF m 27 #[.val (.ref a), .val (.int st0), .val (.long r), .second, .val (.int sh), .val (.int (1 : Int32)), s6] [(.int z), (.int q)])) _
    refine XS.icmpYes X5.here hx rfl (pc0 := 27) (pc' := 44) rfl (hb hby d7_27) rfl (feq hc27_6).2 (by decide) (by decide) ?_
    show Steps p.tables e below (T5.setTop (mkF m 44 #[.val (.ref a), .val (.int st0), .val (.long r), .second, .val (.int sh), .val (.int (1 : Int32)), s6] [])) _
    refine XS.aloadN X5.here hx rfl (hb hby d7_44) rfl rfl ?_
    show Steps p.tables e below (T5.setTop (mkF m 45 #[.val (.ref a), .val (.int st0), .val (.long r), .second, .val (.int sh), .val (.int (1 : Int32)), s6] [(.ref a)])) _
    exact Steps.refl _)
  obtain ⟨T10, X10, e10, st10⟩ := getF X5 hx hZ hown (host := "") (Or.inl (hw _ (List.mem_of_getElem? (i := 34) rfl))) Via.refl e5 FI (g := (mkF m 45 #[.val (.ref a), .val (.int st0), .val (.long r), .second, .val (.int sh), .val (.int (1 : Int32)), s6] [(.ref a)])) rfl rfl (hb hby d7_45)
  have K11 : Steps p.tables e below _ (T10.setTop (mkF m 48 #[.val (.ref a), .val (.int st0), .val (.long r), .second, .val (.int sh), .val (.int (1 : Int32)), s6] [(.ref ia)])) := K9.trans (st10 _ (Steps.refl _))
  have K12 : Steps p.tables e below _ (T10.setTop (mkF m 49 #[.val (.ref a), .val (.int st0), .val (.long r), .second, .val (.int sh), .val (.int (1 : Int32)), s6] [(.ref a), (.ref ia)])) := K11.trans (by
    show Steps p.tables e below (T10.setTop (mkF m 48 #[.val (.ref a), .val (.int st0), .val (.long r), .second, .val (.int sh), .val (.int (1 : Int32)), s6] [(.ref ia)])) _
    refine XS.aloadN X10.here hx rfl (hb hby d7_48) rfl rfl ?_
    show Steps p.tables e below (T10.setTop (mkF m 49 #[.val (.ref a), .val (.int st0), .val (.long r), .second, .val (.int sh), .val (.int (1 : Int32)), s6] [(.ref a), (.ref ia)])) _
    exact Steps.refl _)
  obtain ⟨T13, X13, e13, st13⟩ := getF X10 hx hZ hown (host := "") (Or.inl (hw _ (List.mem_of_getElem? (i := 41) rfl))) Via.refl e10 FP (g := (mkF m 49 #[.val (.ref a), .val (.int st0), .val (.long r), .second, .val (.int sh), .val (.int (1 : Int32)), s6] [(.ref a), (.ref ia)])) rfl rfl (hb hby d7_49)
  have K14 : Steps p.tables e below _ (T13.setTop (mkF m 52 #[.val (.ref a), .val (.int st0), .val (.long r), .second, .val (.int sh), .val (.int (1 : Int32)), s6] [(.int q), (.ref ia)])) := K12.trans (st13 _ (Steps.refl _))
  have K15 : Steps p.tables e below _ (T13.setTop (mkF m 61 #[.val (.ref a), .val (.int st0), .val (.long r), .second, .val (.int sh), .val (.int (1 : Int32)), .val (.int ((own_by vs q) &&& (255 : Int32)))] [(.ref a), (.ref a)])) := K14.trans (by
    show Steps p.tables e below (T13.setTop (mkF m 52 #[.val (.ref a), .val (.int st0), .val (.long r), .second, .val (.int sh), .val (.int (1 : Int32)), s6] [(.int q), (.ref ia)])) _
    refine (own_ldB X13 hx hZ e13 V0 (j := q) hq hat (g := (mkF m 52 #[.val (.ref a), .val (.int st0), .val (.long r), .second, .val (.int sh), .val (.int (1 : Int32)), s6] [(.int q), (.ref ia)])) rfl rfl (hb hby d7_52)).trans ?_
    show Steps p.tables e below (T13.setTop (mkF m 53 #[.val (.ref a), .val (.int st0), .val (.long r), .second, .val (.int sh), .val (.int (1 : Int32)), s6] [(.int (own_by vs q))])) _
    refine XS.sipush X13.here hx rfl (hb hby d7_53) ?_
    show Steps p.tables e below (T13.setTop (mkF m 56 #[.val (.ref a), .val (.int st0), .val (.long r), .second, .val (.int sh), .val (.int (1 : Int32)), s6] [(.int (255 : Int32)), (.int (own_by vs q))])) _
    refine XS.iand X13.here hx rfl (hb hby d7_56) rfl ?_
    show Steps p.tables e below (T13.setTop (mkF m 57 #[.val (.ref a), .val (.int st0), .val (.long r), .second, .val (.int sh), .val (.int (1 : Int32)), s6] [(.int ((own_by vs q) &&& (255 : Int32)))])) _
    refine XS.istoreS X13.here hx rfl (hb hby d7_57) rfl rfl h6 ?_
    show Steps p.tables e below (T13.setTop (mkF m 59 #[.val (.ref a), .val (.int st0), .val (.long r), .second, .val (.int sh), .val (.int (1 : Int32)), .val (.int ((own_by vs q) &&& (255 : Int32)))] [])) _
    refine XS.aloadN X13.here hx rfl (hb hby d7_59) rfl rfl ?_
    show Steps p.tables e below (T13.setTop (mkF m 60 #[.val (.ref a), .val (.int st0), .val (.long r), .second, .val (.int sh), .val (.int (1 : Int32)), .val (.int ((own_by vs q) &&& (255 : Int32)))] [(.ref a)])) _
    refine XS.dup X13.here hx rfl (hb hby d7_60) rfl rfl ?_
    show Steps p.tables e below (T13.setTop (mkF m 61 #[.val (.ref a), .val (.int st0), .val (.long r), .second, .val (.int sh), .val (.int (1 : Int32)), .val (.int ((own_by vs q) &&& (255 : Int32)))] [(.ref a), (.ref a)])) _
    exact Steps.refl _)
  obtain ⟨T16, X16, e16, st16⟩ := getF X13 hx hZ hown (host := "") (Or.inl (hw _ (List.mem_of_getElem? (i := 41) rfl))) Via.refl e13 FP (g := (mkF m 61 #[.val (.ref a), .val (.int st0), .val (.long r), .second, .val (.int sh), .val (.int (1 : Int32)), .val (.int ((own_by vs q) &&& (255 : Int32)))] [(.ref a), (.ref a)])) rfl rfl (hb hby d7_61)
  have K17 : Steps p.tables e below _ (T16.setTop (mkF m 64 #[.val (.ref a), .val (.int st0), .val (.long r), .second, .val (.int sh), .val (.int (1 : Int32)), .val (.int ((own_by vs q) &&& (255 : Int32)))] [(.int q), (.ref a)])) := K15.trans (st16 _ (Steps.refl _))
  have K18 : Steps p.tables e below _ (T16.setTop (mkF m 66 #[.val (.ref a), .val (.int st0), .val (.long r), .second, .val (.int sh), .val (.int (1 : Int32)), .val (.int ((own_by vs q) &&& (255 : Int32)))] [(.int (q + (1 : Int32))), (.ref a)])) := K17.trans (by
    show Steps p.tables e below (T16.setTop (mkF m 64 #[.val (.ref a), .val (.int st0), .val (.long r), .second, .val (.int sh), .val (.int (1 : Int32)), .val (.int ((own_by vs q) &&& (255 : Int32)))] [(.int q), (.ref a)])) _
    refine XS.iconst X16.here hx rfl (hb hby d7_64) ?_
    show Steps p.tables e below (T16.setTop (mkF m 65 #[.val (.ref a), .val (.int st0), .val (.long r), .second, .val (.int sh), .val (.int (1 : Int32)), .val (.int ((own_by vs q) &&& (255 : Int32)))] [(.int (1 : Int32)), (.int q), (.ref a)])) _
    refine XS.iadd X16.here hx rfl (hb hby d7_65) rfl ?_
    show Steps p.tables e below (T16.setTop (mkF m 66 #[.val (.ref a), .val (.int st0), .val (.long r), .second, .val (.int sh), .val (.int (1 : Int32)), .val (.int ((own_by vs q) &&& (255 : Int32)))] [(.int (q + (1 : Int32))), (.ref a)])) _
    exact Steps.refl _)
  obtain ⟨T19, h19, X19, e19, W19, st19⟩ := putF X16 hx hZ hown (host := "") (Or.inl (hw _ (List.mem_of_getElem? (i := 41) rfl))) Via.refl e16 FP E0 (Or.inl (hw _ (List.mem_of_getElem? (i := 42) rfl))) (hw _ (List.mem_of_getElem? (i := 13) rfl)) (ty := .int) (by decide) rfl rfl (g := (mkF m 66 #[.val (.ref a), .val (.int st0), .val (.long r), .second, .val (.int sh), .val (.int (1 : Int32)), .val (.int ((own_by vs q) &&& (255 : Int32)))] [(.int (q + (1 : Int32))), (.ref a)])) rfl rfl (hb hby d7_66)
  have K20 : Steps p.tables e below _ (T19.setTop (mkF m 69 #[.val (.ref a), .val (.int st0), .val (.long r), .second, .val (.int sh), .val (.int (1 : Int32)), .val (.int ((own_by vs q) &&& (255 : Int32)))] [])) := K18.trans (st19 _ (Steps.refl _))
  have Fw19 : Fld Z h19 a "com/example/thin_gateway/thingateway/avro/AvroDecoder" "position" "I" (.int (q + (1 : Int32))) := FP.same W19
  have N19 := Fr.snoc X19 N0 ga
  have K21 : Steps p.tables e below _ (T19.setTop (mkF m 73 #[.val (.ref a), .val (.int st0), .val (.long r), .second, .val (.int sh), .val (.int (1 : Int32)), .val (.int ((own_by vs q) &&& (255 : Int32)))] [(.int (63 : Int32)), (.int sh)])) := K20.trans (by
    show Steps p.tables e below (T19.setTop (mkF m 69 #[.val (.ref a), .val (.int st0), .val (.long r), .second, .val (.int sh), .val (.int (1 : Int32)), .val (.int ((own_by vs q) &&& (255 : Int32)))] [])) _
    refine XS.iload X19.here hx rfl (hb hby d7_69) rfl ?_
    show Steps p.tables e below (T19.setTop (mkF m 71 #[.val (.ref a), .val (.int st0), .val (.long r), .second, .val (.int sh), .val (.int (1 : Int32)), .val (.int ((own_by vs q) &&& (255 : Int32)))] [(.int sh)])) _
    refine XS.bipush X19.here hx rfl (hb hby d7_71) ?_
    show Steps p.tables e below (T19.setTop (mkF m 73 #[.val (.ref a), .val (.int st0), .val (.long r), .second, .val (.int sh), .val (.int (1 : Int32)), .val (.int ((own_by vs q) &&& (255 : Int32)))] [(.int (63 : Int32)), (.int sh)])) _
    exact Steps.refl _)
  by_cases hc73 : sh = (63 : Int32)
  · have K23 : Steps p.tables e below _ (T19.setTop (mkF m 79 #[.val (.ref a), .val (.int st0), .val (.long r), .second, .val (.int sh), .val (.int (1 : Int32)), .val (.int ((own_by vs q) &&& (255 : Int32)))] [(.int (1 : Int32)), (.int ((own_by vs q) &&& (255 : Int32)))])) := K21.trans (by
      show Steps p.tables e below (T19.setTop (mkF m 73 #[.val (.ref a), .val (.int st0), .val (.long r), .second, .val (.int sh), .val (.int (1 : Int32)), .val (.int ((own_by vs q) &&& (255 : Int32)))] [(.int (63 : Int32)), (.int sh)])) _
      refine XS.icmpNo X19.here hx rfl (hb hby d7_73) rfl (teq hc73).2 ?_
      show Steps p.tables e below (T19.setTop (mkF m 76 #[.val (.ref a), .val (.int st0), .val (.long r), .second, .val (.int sh), .val (.int (1 : Int32)), .val (.int ((own_by vs q) &&& (255 : Int32)))] [])) _
      refine XS.iload X19.here hx rfl (hb hby d7_76) rfl ?_
      show Steps p.tables e below (T19.setTop (mkF m 78 #[.val (.ref a), .val (.int st0), .val (.long r), .second, .val (.int sh), .val (.int (1 : Int32)), .val (.int ((own_by vs q) &&& (255 : Int32)))] [(.int ((own_by vs q) &&& (255 : Int32)))])) _
      refine XS.iconst X19.here hx rfl (hb hby d7_78) ?_
      show Steps p.tables e below (T19.setTop (mkF m 79 #[.val (.ref a), .val (.int st0), .val (.long r), .second, .val (.int sh), .val (.int (1 : Int32)), .val (.int ((own_by vs q) &&& (255 : Int32)))] [(.int (1 : Int32)), (.int ((own_by vs q) &&& (255 : Int32)))])) _
      exact Steps.refl _)
    have hc79_21 : ¬ ((1 : Int32) < ((own_by vs q) &&& (255 : Int32))) := h63 hc73
    have K24 : Steps p.tables e below _ (T19.setTop (mkF m 114 #[.val (.ref a), .val (.int st0), .val (.long (r ||| (((((own_by vs q) &&& (255 : Int32)) &&& (127 : Int32)).toInt64) <<< (sh &&& 0x3f).toInt64))), .second, .val (.int sh), .val (.int (1 : Int32)), .val (.int ((own_by vs q) &&& (255 : Int32)))] [(.int (((own_by vs q) &&& (255 : Int32)) &&& (128 : Int32)))])) := K23.trans (by
      show Steps p.tables e below (T19.setTop (mkF m 79 #[.val (.ref a), .val (.int st0), .val (.long r), .second, .val (.int sh), .val (.int (1 : Int32)), .val (.int ((own_by vs q) &&& (255 : Int32)))] [(.int (1 : Int32)), (.int ((own_by vs q) &&& (255 : Int32)))])) _
      refine XS.icmpYes X19.here hx rfl (pc0 := 79) (pc' := 96) rfl (hb hby d7_79) rfl (flt hc79_21).2.2.2 (by decide) (by decide) ?_
      show Steps p.tables e below (T19.setTop (mkF m 96 #[.val (.ref a), .val (.int st0), .val (.long r), .second, .val (.int sh), .val (.int (1 : Int32)), .val (.int ((own_by vs q) &&& (255 : Int32)))] [])) _
      refine XS.lloadN X19.here hx rfl (hb hby d7_96) rfl ?_
      show Steps p.tables e below (T19.setTop (mkF m 97 #[.val (.ref a), .val (.int st0), .val (.long r), .second, .val (.int sh), .val (.int (1 : Int32)), .val (.int ((own_by vs q) &&& (255 : Int32)))] [(.long r)])) _
      refine XS.iload X19.here hx rfl (hb hby d7_97) rfl ?_
      show Steps p.tables e below (T19.setTop (mkF m 99 #[.val (.ref a), .val (.int st0), .val (.long r), .second, .val (.int sh), .val (.int (1 : Int32)), .val (.int ((own_by vs q) &&& (255 : Int32)))] [(.int ((own_by vs q) &&& (255 : Int32))), (.long r)])) _
      refine XS.bipush X19.here hx rfl (hb hby d7_99) ?_
      show Steps p.tables e below (T19.setTop (mkF m 101 #[.val (.ref a), .val (.int st0), .val (.long r), .second, .val (.int sh), .val (.int (1 : Int32)), .val (.int ((own_by vs q) &&& (255 : Int32)))] [(.int (127 : Int32)), (.int ((own_by vs q) &&& (255 : Int32))), (.long r)])) _
      refine XS.iand X19.here hx rfl (hb hby d7_101) rfl ?_
      show Steps p.tables e below (T19.setTop (mkF m 102 #[.val (.ref a), .val (.int st0), .val (.long r), .second, .val (.int sh), .val (.int (1 : Int32)), .val (.int ((own_by vs q) &&& (255 : Int32)))] [(.int (((own_by vs q) &&& (255 : Int32)) &&& (127 : Int32))), (.long r)])) _
      refine XS.i2l X19.here hx rfl (hb hby d7_102) rfl ?_
      show Steps p.tables e below (T19.setTop (mkF m 103 #[.val (.ref a), .val (.int st0), .val (.long r), .second, .val (.int sh), .val (.int (1 : Int32)), .val (.int ((own_by vs q) &&& (255 : Int32)))] [(.long ((((own_by vs q) &&& (255 : Int32)) &&& (127 : Int32)).toInt64)), (.long r)])) _
      refine XS.iload X19.here hx rfl (hb hby d7_103) rfl ?_
      show Steps p.tables e below (T19.setTop (mkF m 105 #[.val (.ref a), .val (.int st0), .val (.long r), .second, .val (.int sh), .val (.int (1 : Int32)), .val (.int ((own_by vs q) &&& (255 : Int32)))] [(.int sh), (.long ((((own_by vs q) &&& (255 : Int32)) &&& (127 : Int32)).toInt64)), (.long r)])) _
      refine XS.lshl X19.here hx rfl (hb hby d7_105) rfl ?_
      show Steps p.tables e below (T19.setTop (mkF m 106 #[.val (.ref a), .val (.int st0), .val (.long r), .second, .val (.int sh), .val (.int (1 : Int32)), .val (.int ((own_by vs q) &&& (255 : Int32)))] [(.long (((((own_by vs q) &&& (255 : Int32)) &&& (127 : Int32)).toInt64) <<< (sh &&& 0x3f).toInt64)), (.long r)])) _
      refine XS.lor X19.here hx rfl (hb hby d7_106) rfl ?_
      show Steps p.tables e below (T19.setTop (mkF m 107 #[.val (.ref a), .val (.int st0), .val (.long r), .second, .val (.int sh), .val (.int (1 : Int32)), .val (.int ((own_by vs q) &&& (255 : Int32)))] [(.long (r ||| (((((own_by vs q) &&& (255 : Int32)) &&& (127 : Int32)).toInt64) <<< (sh &&& 0x3f).toInt64)))])) _
      refine XS.lstoreN X19.here hx rfl (hb hby d7_107) rfl (l' := #[.val (.ref a), .val (.int st0), .val (.long (r ||| (((((own_by vs q) &&& (255 : Int32)) &&& (127 : Int32)).toInt64) <<< (sh &&& 0x3f).toInt64))), .second, .val (.int sh), .val (.int (1 : Int32)), .val (.int ((own_by vs q) &&& (255 : Int32)))]) rfl ?_
      show Steps p.tables e below (T19.setTop (mkF m 108 #[.val (.ref a), .val (.int st0), .val (.long (r ||| (((((own_by vs q) &&& (255 : Int32)) &&& (127 : Int32)).toInt64) <<< (sh &&& 0x3f).toInt64))), .second, .val (.int sh), .val (.int (1 : Int32)), .val (.int ((own_by vs q) &&& (255 : Int32)))] [])) _
      refine XS.iload X19.here hx rfl (hb hby d7_108) rfl ?_
      show Steps p.tables e below (T19.setTop (mkF m 110 #[.val (.ref a), .val (.int st0), .val (.long (r ||| (((((own_by vs q) &&& (255 : Int32)) &&& (127 : Int32)).toInt64) <<< (sh &&& 0x3f).toInt64))), .second, .val (.int sh), .val (.int (1 : Int32)), .val (.int ((own_by vs q) &&& (255 : Int32)))] [(.int ((own_by vs q) &&& (255 : Int32)))])) _
      refine XS.sipush X19.here hx rfl (hb hby d7_110) ?_
      show Steps p.tables e below (T19.setTop (mkF m 113 #[.val (.ref a), .val (.int st0), .val (.long (r ||| (((((own_by vs q) &&& (255 : Int32)) &&& (127 : Int32)).toInt64) <<< (sh &&& 0x3f).toInt64))), .second, .val (.int sh), .val (.int (1 : Int32)), .val (.int ((own_by vs q) &&& (255 : Int32)))] [(.int (128 : Int32)), (.int ((own_by vs q) &&& (255 : Int32)))])) _
      refine XS.iand X19.here hx rfl (hb hby d7_113) rfl ?_
      show Steps p.tables e below (T19.setTop (mkF m 114 #[.val (.ref a), .val (.int st0), .val (.long (r ||| (((((own_by vs q) &&& (255 : Int32)) &&& (127 : Int32)).toInt64) <<< (sh &&& 0x3f).toInt64))), .second, .val (.int sh), .val (.int (1 : Int32)), .val (.int ((own_by vs q) &&& (255 : Int32)))] [(.int (((own_by vs q) &&& (255 : Int32)) &&& (128 : Int32)))])) _
      exact Steps.refl _)
    obtain ⟨v25_0, hv25_0, S25⟩ : ∃ (v25_0 : Int32), (if (((own_by vs q) &&& (255 : Int32)) &&& (128 : Int32)) = (0 : Int32) then (0 : Int32) else (1 : Int32)) = v25_0 ∧ Steps p.tables e below (T19.setTop (mkF m 114 #[.val (.ref a), .val (.int st0), .val (.long (r ||| (((((own_by vs q) &&& (255 : Int32)) &&& (127 : Int32)).toInt64) <<< (sh &&& 0x3f).toInt64))), .second, .val (.int sh), .val (.int (1 : Int32)), .val (.int ((own_by vs q) &&& (255 : Int32)))] [(.int (((own_by vs q) &&& (255 : Int32)) &&& (128 : Int32)))])) (T19.setTop (mkF m 122 #[.val (.ref a), .val (.int st0), .val (.long (r ||| (((((own_by vs q) &&& (255 : Int32)) &&& (127 : Int32)).toInt64) <<< (sh &&& 0x3f).toInt64))), .second, .val (.int sh), .val (.int (1 : Int32)), .val (.int ((own_by vs q) &&& (255 : Int32)))] [(.int v25_0)])) := by
      have R25 := Steps.refl (tb := p.tables) (e := e) (below := below) (T19.setTop (mkF m 114 #[.val (.ref a), .val (.int st0), .val (.long (r ||| (((((own_by vs q) &&& (255 : Int32)) &&& (127 : Int32)).toInt64) <<< (sh &&& 0x3f).toInt64))), .second, .val (.int sh), .val (.int (1 : Int32)), .val (.int ((own_by vs q) &&& (255 : Int32)))] [(.int (((own_by vs q) &&& (255 : Int32)) &&& (128 : Int32)))]))
      by_cases hc114 : (((own_by vs q) &&& (255 : Int32)) &&& (128 : Int32)) = (0 : Int32)
      · have K26 : Steps p.tables e below _ (T19.setTop (mkF m 122 #[.val (.ref a), .val (.int st0), .val (.long (r ||| (((((own_by vs q) &&& (255 : Int32)) &&& (127 : Int32)).toInt64) <<< (sh &&& 0x3f).toInt64))), .second, .val (.int sh), .val (.int (1 : Int32)), .val (.int ((own_by vs q) &&& (255 : Int32)))] [(.int (0 : Int32))])) := R25.trans (by
          show Steps p.tables e below (T19.setTop (mkF m 114 #[.val (.ref a), .val (.int st0), .val (.long (r ||| (((((own_by vs q) &&& (255 : Int32)) &&& (127 : Int32)).toInt64) <<< (sh &&& 0x3f).toInt64))), .second, .val (.int sh), .val (.int (1 : Int32)), .val (.int ((own_by vs q) &&& (255 : Int32)))] [(.int (((own_by vs q) &&& (255 : Int32)) &&& (128 : Int32)))])) _
          refine XS.ifYes X19.here hx rfl (pc0 := 114) (pc' := 121) rfl (hb hby d7_114) rfl ((if0 _ _).trans (teq hc114).1) (by decide) (by decide) ?_
          show Steps p.tables e below (T19.setTop (mkF m 121 #[.val (.ref a), .val (.int st0), .val (.long (r ||| (((((own_by vs q) &&& (255 : Int32)) &&& (127 : Int32)).toInt64) <<< (sh &&& 0x3f).toInt64))), .second, .val (.int sh), .val (.int (1 : Int32)), .val (.int ((own_by vs q) &&& (255 : Int32)))] [])) _
          refine XS.iconst X19.here hx rfl (hb hby d7_121) ?_
          show Steps p.tables e below (T19.setTop (mkF m 122 #[.val (.ref a), .val (.int st0), .val (.long (r ||| (((((own_by vs q) &&& (255 : Int32)) &&& (127 : Int32)).toInt64) <<< (sh &&& 0x3f).toInt64))), .second, .val (.int sh), .val (.int (1 : Int32)), .val (.int ((own_by vs q) &&& (255 : Int32)))] [(.int (0 : Int32))])) _
          exact Steps.refl _)
        exact ⟨(0 : Int32), (by rw [if_pos hc114]), K26⟩
      · have K27 : Steps p.tables e below _ (T19.setTop (mkF m 122 #[.val (.ref a), .val (.int st0), .val (.long (r ||| (((((own_by vs q) &&& (255 : Int32)) &&& (127 : Int32)).toInt64) <<< (sh &&& 0x3f).toInt64))), .second, .val (.int sh), .val (.int (1 : Int32)), .val (.int ((own_by vs q) &&& (255 : Int32)))] [(.int (1 : Int32))])) := R25.trans (by
          show Steps p.tables e below (T19.setTop (mkF m 114 #[.val (.ref a), .val (.int st0), .val (.long (r ||| (((((own_by vs q) &&& (255 : Int32)) &&& (127 : Int32)).toInt64) <<< (sh &&& 0x3f).toInt64))), .second, .val (.int sh), .val (.int (1 : Int32)), .val (.int ((own_by vs q) &&& (255 : Int32)))] [(.int (((own_by vs q) &&& (255 : Int32)) &&& (128 : Int32)))])) _
          refine XS.ifNo X19.here hx rfl (hb hby d7_114) rfl ((if0 _ _).trans (feq hc114).1) ?_
          show Steps p.tables e below (T19.setTop (mkF m 117 #[.val (.ref a), .val (.int st0), .val (.long (r ||| (((((own_by vs q) &&& (255 : Int32)) &&& (127 : Int32)).toInt64) <<< (sh &&& 0x3f).toInt64))), .second, .val (.int sh), .val (.int (1 : Int32)), .val (.int ((own_by vs q) &&& (255 : Int32)))] [])) _
          refine XS.iconst X19.here hx rfl (hb hby d7_117) ?_
          show Steps p.tables e below (T19.setTop (mkF m 118 #[.val (.ref a), .val (.int st0), .val (.long (r ||| (((((own_by vs q) &&& (255 : Int32)) &&& (127 : Int32)).toInt64) <<< (sh &&& 0x3f).toInt64))), .second, .val (.int sh), .val (.int (1 : Int32)), .val (.int ((own_by vs q) &&& (255 : Int32)))] [(.int (1 : Int32))])) _
          refine XS.goto X19.here hx rfl (pc0 := 118) (pc' := 122) rfl (hb hby d7_118) (by decide) (by decide) ?_
          show Steps p.tables e below (T19.setTop (mkF m 122 #[.val (.ref a), .val (.int st0), .val (.long (r ||| (((((own_by vs q) &&& (255 : Int32)) &&& (127 : Int32)).toInt64) <<< (sh &&& 0x3f).toInt64))), .second, .val (.int sh), .val (.int (1 : Int32)), .val (.int ((own_by vs q) &&& (255 : Int32)))] [(.int (1 : Int32))])) _
          exact Steps.refl _)
        exact ⟨(1 : Int32), (by rw [if_neg hc114]), K27⟩
    have K28 := K24.trans S25
    have K29 : Steps p.tables e below _ (T19.setTop (mkF m 13 #[.val (.ref a), .val (.int st0), .val (.long (r ||| (((((own_by vs q) &&& (255 : Int32)) &&& (127 : Int32)).toInt64) <<< (sh &&& 0x3f).toInt64))), .second, .val (.int (sh + (7 : Int32))), .val (.int v25_0), .val (.int ((own_by vs q) &&& (255 : Int32)))] [])) := K28.trans (by
      show Steps p.tables e below (T19.setTop (mkF m 122 #[.val (.ref a), .val (.int st0), .val (.long (r ||| (((((own_by vs q) &&& (255 : Int32)) &&& (127 : Int32)).toInt64) <<< (sh &&& 0x3f).toInt64))), .second, .val (.int sh), .val (.int (1 : Int32)), .val (.int ((own_by vs q) &&& (255 : Int32)))] [(.int v25_0)])) _
      refine XS.istore X19.here hx rfl (hb hby d7_122) rfl (l' := #[.val (.ref a), .val (.int st0), .val (.long (r ||| (((((own_by vs q) &&& (255 : Int32)) &&& (127 : Int32)).toInt64) <<< (sh &&& 0x3f).toInt64))), .second, .val (.int sh), .val (.int v25_0), .val (.int ((own_by vs q) &&& (255 : Int32)))]) rfl ?_
      show Steps p.tables e below (T19.setTop (mkF m 124 #[.val (.ref a), .val (.int st0), .val (.long (r ||| (((((own_by vs q) &&& (255 : Int32)) &&& (127 : Int32)).toInt64) <<< (sh &&& 0x3f).toInt64))), .second, .val (.int sh), .val (.int v25_0), .val (.int ((own_by vs q) &&& (255 : Int32)))] [])) _
      refine XS.iinc X19.here hx rfl (hb hby d7_124) rfl (l' := #[.val (.ref a), .val (.int st0), .val (.long (r ||| (((((own_by vs q) &&& (255 : Int32)) &&& (127 : Int32)).toInt64) <<< (sh &&& 0x3f).toInt64))), .second, .val (.int (sh + (7 : Int32))), .val (.int v25_0), .val (.int ((own_by vs q) &&& (255 : Int32)))]) rfl ?_
      show Steps p.tables e below (T19.setTop (mkF m 127 #[.val (.ref a), .val (.int st0), .val (.long (r ||| (((((own_by vs q) &&& (255 : Int32)) &&& (127 : Int32)).toInt64) <<< (sh &&& 0x3f).toInt64))), .second, .val (.int (sh + (7 : Int32))), .val (.int v25_0), .val (.int ((own_by vs q) &&& (255 : Int32)))] [])) _
      refine XS.goto X19.here hx rfl (pc0 := 127) (pc' := 13) rfl (hb hby d7_127) (by decide) (by decide) ?_
      show Steps p.tables e below (T19.setTop (mkF m 13 #[.val (.ref a), .val (.int st0), .val (.long (r ||| (((((own_by vs q) &&& (255 : Int32)) &&& (127 : Int32)).toInt64) <<< (sh &&& 0x3f).toInt64))), .second, .val (.int (sh + (7 : Int32))), .val (.int v25_0), .val (.int ((own_by vs q) &&& (255 : Int32)))] [])) _
      exact Steps.refl _)
    subst hv25_0
    have E_36 : Exa Z h19 a "com/example/thin_gateway/thingateway/avro/AvroDecoder" := (E0.wr W19)
    have F_37 : Fld Z h19 a "com/example/thin_gateway/thingateway/avro/AvroDecoder" "input" "[B" (.ref ia) := (FI.other W19 (Or.inr (slot_ne (Or.inr (hw _ (List.mem_of_getElem? (i := 35) rfl))) (Or.inl (hw _ (List.mem_of_getElem? (i := 42) rfl))) (by decide) (t := (.array .byte)) (t' := .int) (by decide) (by decide))))
    have V_38 : Arv Z h19 ia ka .byte z vs (.int (0 : Int32)) := (V0.other W19 (Ne.symm nea))
    exact ⟨T19, _, h19, X19, e19, N19, Keep.of_wr W19, E_36, F_37, Fw19, V_38, K29⟩
  · have K30 : Steps p.tables e below _ (T19.setTop (mkF m 114 #[.val (.ref a), .val (.int st0), .val (.long (r ||| (((((own_by vs q) &&& (255 : Int32)) &&& (127 : Int32)).toInt64) <<< (sh &&& 0x3f).toInt64))), .second, .val (.int sh), .val (.int (1 : Int32)), .val (.int ((own_by vs q) &&& (255 : Int32)))] [(.int (((own_by vs q) &&& (255 : Int32)) &&& (128 : Int32)))])) := K21.trans (by
      show Steps p.tables e below (T19.setTop (mkF m 73 #[.val (.ref a), .val (.int st0), .val (.long r), .second, .val (.int sh), .val (.int (1 : Int32)), .val (.int ((own_by vs q) &&& (255 : Int32)))] [(.int (63 : Int32)), (.int sh)])) _
      refine XS.icmpYes X19.here hx rfl (pc0 := 73) (pc' := 96) rfl (hb hby d7_73) rfl (feq hc73).2 (by decide) (by decide) ?_
      show Steps p.tables e below (T19.setTop (mkF m 96 #[.val (.ref a), .val (.int st0), .val (.long r), .second, .val (.int sh), .val (.int (1 : Int32)), .val (.int ((own_by vs q) &&& (255 : Int32)))] [])) _
      refine XS.lloadN X19.here hx rfl (hb hby d7_96) rfl ?_
      show Steps p.tables e below (T19.setTop (mkF m 97 #[.val (.ref a), .val (.int st0), .val (.long r), .second, .val (.int sh), .val (.int (1 : Int32)), .val (.int ((own_by vs q) &&& (255 : Int32)))] [(.long r)])) _
      refine XS.iload X19.here hx rfl (hb hby d7_97) rfl ?_
      show Steps p.tables e below (T19.setTop (mkF m 99 #[.val (.ref a), .val (.int st0), .val (.long r), .second, .val (.int sh), .val (.int (1 : Int32)), .val (.int ((own_by vs q) &&& (255 : Int32)))] [(.int ((own_by vs q) &&& (255 : Int32))), (.long r)])) _
      refine XS.bipush X19.here hx rfl (hb hby d7_99) ?_
      show Steps p.tables e below (T19.setTop (mkF m 101 #[.val (.ref a), .val (.int st0), .val (.long r), .second, .val (.int sh), .val (.int (1 : Int32)), .val (.int ((own_by vs q) &&& (255 : Int32)))] [(.int (127 : Int32)), (.int ((own_by vs q) &&& (255 : Int32))), (.long r)])) _
      refine XS.iand X19.here hx rfl (hb hby d7_101) rfl ?_
      show Steps p.tables e below (T19.setTop (mkF m 102 #[.val (.ref a), .val (.int st0), .val (.long r), .second, .val (.int sh), .val (.int (1 : Int32)), .val (.int ((own_by vs q) &&& (255 : Int32)))] [(.int (((own_by vs q) &&& (255 : Int32)) &&& (127 : Int32))), (.long r)])) _
      refine XS.i2l X19.here hx rfl (hb hby d7_102) rfl ?_
      show Steps p.tables e below (T19.setTop (mkF m 103 #[.val (.ref a), .val (.int st0), .val (.long r), .second, .val (.int sh), .val (.int (1 : Int32)), .val (.int ((own_by vs q) &&& (255 : Int32)))] [(.long ((((own_by vs q) &&& (255 : Int32)) &&& (127 : Int32)).toInt64)), (.long r)])) _
      refine XS.iload X19.here hx rfl (hb hby d7_103) rfl ?_
      show Steps p.tables e below (T19.setTop (mkF m 105 #[.val (.ref a), .val (.int st0), .val (.long r), .second, .val (.int sh), .val (.int (1 : Int32)), .val (.int ((own_by vs q) &&& (255 : Int32)))] [(.int sh), (.long ((((own_by vs q) &&& (255 : Int32)) &&& (127 : Int32)).toInt64)), (.long r)])) _
      refine XS.lshl X19.here hx rfl (hb hby d7_105) rfl ?_
      show Steps p.tables e below (T19.setTop (mkF m 106 #[.val (.ref a), .val (.int st0), .val (.long r), .second, .val (.int sh), .val (.int (1 : Int32)), .val (.int ((own_by vs q) &&& (255 : Int32)))] [(.long (((((own_by vs q) &&& (255 : Int32)) &&& (127 : Int32)).toInt64) <<< (sh &&& 0x3f).toInt64)), (.long r)])) _
      refine XS.lor X19.here hx rfl (hb hby d7_106) rfl ?_
      show Steps p.tables e below (T19.setTop (mkF m 107 #[.val (.ref a), .val (.int st0), .val (.long r), .second, .val (.int sh), .val (.int (1 : Int32)), .val (.int ((own_by vs q) &&& (255 : Int32)))] [(.long (r ||| (((((own_by vs q) &&& (255 : Int32)) &&& (127 : Int32)).toInt64) <<< (sh &&& 0x3f).toInt64)))])) _
      refine XS.lstoreN X19.here hx rfl (hb hby d7_107) rfl (l' := #[.val (.ref a), .val (.int st0), .val (.long (r ||| (((((own_by vs q) &&& (255 : Int32)) &&& (127 : Int32)).toInt64) <<< (sh &&& 0x3f).toInt64))), .second, .val (.int sh), .val (.int (1 : Int32)), .val (.int ((own_by vs q) &&& (255 : Int32)))]) rfl ?_
      show Steps p.tables e below (T19.setTop (mkF m 108 #[.val (.ref a), .val (.int st0), .val (.long (r ||| (((((own_by vs q) &&& (255 : Int32)) &&& (127 : Int32)).toInt64) <<< (sh &&& 0x3f).toInt64))), .second, .val (.int sh), .val (.int (1 : Int32)), .val (.int ((own_by vs q) &&& (255 : Int32)))] [])) _
      refine XS.iload X19.here hx rfl (hb hby d7_108) rfl ?_
      show Steps p.tables e below (T19.setTop (mkF m 110 #[.val (.ref a), .val (.int st0), .val (.long (r ||| (((((own_by vs q) &&& (255 : Int32)) &&& (127 : Int32)).toInt64) <<< (sh &&& 0x3f).toInt64))), .second, .val (.int sh), .val (.int (1 : Int32)), .val (.int ((own_by vs q) &&& (255 : Int32)))] [(.int ((own_by vs q) &&& (255 : Int32)))])) _
      refine XS.sipush X19.here hx rfl (hb hby d7_110) ?_
      show Steps p.tables e below (T19.setTop (mkF m 113 #[.val (.ref a), .val (.int st0), .val (.long (r ||| (((((own_by vs q) &&& (255 : Int32)) &&& (127 : Int32)).toInt64) <<< (sh &&& 0x3f).toInt64))), .second, .val (.int sh), .val (.int (1 : Int32)), .val (.int ((own_by vs q) &&& (255 : Int32)))] [(.int (128 : Int32)), (.int ((own_by vs q) &&& (255 : Int32)))])) _
      refine XS.iand X19.here hx rfl (hb hby d7_113) rfl ?_
      show Steps p.tables e below (T19.setTop (mkF m 114 #[.val (.ref a), .val (.int st0), .val (.long (r ||| (((((own_by vs q) &&& (255 : Int32)) &&& (127 : Int32)).toInt64) <<< (sh &&& 0x3f).toInt64))), .second, .val (.int sh), .val (.int (1 : Int32)), .val (.int ((own_by vs q) &&& (255 : Int32)))] [(.int (((own_by vs q) &&& (255 : Int32)) &&& (128 : Int32)))])) _
      exact Steps.refl _)
    obtain ⟨v31_0, hv31_0, S31⟩ : ∃ (v31_0 : Int32), (if (((own_by vs q) &&& (255 : Int32)) &&& (128 : Int32)) = (0 : Int32) then (0 : Int32) else (1 : Int32)) = v31_0 ∧ Steps p.tables e below (T19.setTop (mkF m 114 #[.val (.ref a), .val (.int st0), .val (.long (r ||| (((((own_by vs q) &&& (255 : Int32)) &&& (127 : Int32)).toInt64) <<< (sh &&& 0x3f).toInt64))), .second, .val (.int sh), .val (.int (1 : Int32)), .val (.int ((own_by vs q) &&& (255 : Int32)))] [(.int (((own_by vs q) &&& (255 : Int32)) &&& (128 : Int32)))])) (T19.setTop (mkF m 122 #[.val (.ref a), .val (.int st0), .val (.long (r ||| (((((own_by vs q) &&& (255 : Int32)) &&& (127 : Int32)).toInt64) <<< (sh &&& 0x3f).toInt64))), .second, .val (.int sh), .val (.int (1 : Int32)), .val (.int ((own_by vs q) &&& (255 : Int32)))] [(.int v31_0)])) := by
      have R31 := Steps.refl (tb := p.tables) (e := e) (below := below) (T19.setTop (mkF m 114 #[.val (.ref a), .val (.int st0), .val (.long (r ||| (((((own_by vs q) &&& (255 : Int32)) &&& (127 : Int32)).toInt64) <<< (sh &&& 0x3f).toInt64))), .second, .val (.int sh), .val (.int (1 : Int32)), .val (.int ((own_by vs q) &&& (255 : Int32)))] [(.int (((own_by vs q) &&& (255 : Int32)) &&& (128 : Int32)))]))
      by_cases hc114 : (((own_by vs q) &&& (255 : Int32)) &&& (128 : Int32)) = (0 : Int32)
      · have K32 : Steps p.tables e below _ (T19.setTop (mkF m 122 #[.val (.ref a), .val (.int st0), .val (.long (r ||| (((((own_by vs q) &&& (255 : Int32)) &&& (127 : Int32)).toInt64) <<< (sh &&& 0x3f).toInt64))), .second, .val (.int sh), .val (.int (1 : Int32)), .val (.int ((own_by vs q) &&& (255 : Int32)))] [(.int (0 : Int32))])) := R31.trans (by
          show Steps p.tables e below (T19.setTop (mkF m 114 #[.val (.ref a), .val (.int st0), .val (.long (r ||| (((((own_by vs q) &&& (255 : Int32)) &&& (127 : Int32)).toInt64) <<< (sh &&& 0x3f).toInt64))), .second, .val (.int sh), .val (.int (1 : Int32)), .val (.int ((own_by vs q) &&& (255 : Int32)))] [(.int (((own_by vs q) &&& (255 : Int32)) &&& (128 : Int32)))])) _
          refine XS.ifYes X19.here hx rfl (pc0 := 114) (pc' := 121) rfl (hb hby d7_114) rfl ((if0 _ _).trans (teq hc114).1) (by decide) (by decide) ?_
          show Steps p.tables e below (T19.setTop (mkF m 121 #[.val (.ref a), .val (.int st0), .val (.long (r ||| (((((own_by vs q) &&& (255 : Int32)) &&& (127 : Int32)).toInt64) <<< (sh &&& 0x3f).toInt64))), .second, .val (.int sh), .val (.int (1 : Int32)), .val (.int ((own_by vs q) &&& (255 : Int32)))] [])) _
          refine XS.iconst X19.here hx rfl (hb hby d7_121) ?_
          show Steps p.tables e below (T19.setTop (mkF m 122 #[.val (.ref a), .val (.int st0), .val (.long (r ||| (((((own_by vs q) &&& (255 : Int32)) &&& (127 : Int32)).toInt64) <<< (sh &&& 0x3f).toInt64))), .second, .val (.int sh), .val (.int (1 : Int32)), .val (.int ((own_by vs q) &&& (255 : Int32)))] [(.int (0 : Int32))])) _
          exact Steps.refl _)
        exact ⟨(0 : Int32), (by rw [if_pos hc114]), K32⟩
      · have K33 : Steps p.tables e below _ (T19.setTop (mkF m 122 #[.val (.ref a), .val (.int st0), .val (.long (r ||| (((((own_by vs q) &&& (255 : Int32)) &&& (127 : Int32)).toInt64) <<< (sh &&& 0x3f).toInt64))), .second, .val (.int sh), .val (.int (1 : Int32)), .val (.int ((own_by vs q) &&& (255 : Int32)))] [(.int (1 : Int32))])) := R31.trans (by
          show Steps p.tables e below (T19.setTop (mkF m 114 #[.val (.ref a), .val (.int st0), .val (.long (r ||| (((((own_by vs q) &&& (255 : Int32)) &&& (127 : Int32)).toInt64) <<< (sh &&& 0x3f).toInt64))), .second, .val (.int sh), .val (.int (1 : Int32)), .val (.int ((own_by vs q) &&& (255 : Int32)))] [(.int (((own_by vs q) &&& (255 : Int32)) &&& (128 : Int32)))])) _
          refine XS.ifNo X19.here hx rfl (hb hby d7_114) rfl ((if0 _ _).trans (feq hc114).1) ?_
          show Steps p.tables e below (T19.setTop (mkF m 117 #[.val (.ref a), .val (.int st0), .val (.long (r ||| (((((own_by vs q) &&& (255 : Int32)) &&& (127 : Int32)).toInt64) <<< (sh &&& 0x3f).toInt64))), .second, .val (.int sh), .val (.int (1 : Int32)), .val (.int ((own_by vs q) &&& (255 : Int32)))] [])) _
          refine XS.iconst X19.here hx rfl (hb hby d7_117) ?_
          show Steps p.tables e below (T19.setTop (mkF m 118 #[.val (.ref a), .val (.int st0), .val (.long (r ||| (((((own_by vs q) &&& (255 : Int32)) &&& (127 : Int32)).toInt64) <<< (sh &&& 0x3f).toInt64))), .second, .val (.int sh), .val (.int (1 : Int32)), .val (.int ((own_by vs q) &&& (255 : Int32)))] [(.int (1 : Int32))])) _
          refine XS.goto X19.here hx rfl (pc0 := 118) (pc' := 122) rfl (hb hby d7_118) (by decide) (by decide) ?_
          show Steps p.tables e below (T19.setTop (mkF m 122 #[.val (.ref a), .val (.int st0), .val (.long (r ||| (((((own_by vs q) &&& (255 : Int32)) &&& (127 : Int32)).toInt64) <<< (sh &&& 0x3f).toInt64))), .second, .val (.int sh), .val (.int (1 : Int32)), .val (.int ((own_by vs q) &&& (255 : Int32)))] [(.int (1 : Int32))])) _
          exact Steps.refl _)
        exact ⟨(1 : Int32), (by rw [if_neg hc114]), K33⟩
    have K34 := K30.trans S31
    have K35 : Steps p.tables e below _ (T19.setTop (mkF m 13 #[.val (.ref a), .val (.int st0), .val (.long (r ||| (((((own_by vs q) &&& (255 : Int32)) &&& (127 : Int32)).toInt64) <<< (sh &&& 0x3f).toInt64))), .second, .val (.int (sh + (7 : Int32))), .val (.int v31_0), .val (.int ((own_by vs q) &&& (255 : Int32)))] [])) := K34.trans (by
      show Steps p.tables e below (T19.setTop (mkF m 122 #[.val (.ref a), .val (.int st0), .val (.long (r ||| (((((own_by vs q) &&& (255 : Int32)) &&& (127 : Int32)).toInt64) <<< (sh &&& 0x3f).toInt64))), .second, .val (.int sh), .val (.int (1 : Int32)), .val (.int ((own_by vs q) &&& (255 : Int32)))] [(.int v31_0)])) _
      refine XS.istore X19.here hx rfl (hb hby d7_122) rfl (l' := #[.val (.ref a), .val (.int st0), .val (.long (r ||| (((((own_by vs q) &&& (255 : Int32)) &&& (127 : Int32)).toInt64) <<< (sh &&& 0x3f).toInt64))), .second, .val (.int sh), .val (.int v31_0), .val (.int ((own_by vs q) &&& (255 : Int32)))]) rfl ?_
      show Steps p.tables e below (T19.setTop (mkF m 124 #[.val (.ref a), .val (.int st0), .val (.long (r ||| (((((own_by vs q) &&& (255 : Int32)) &&& (127 : Int32)).toInt64) <<< (sh &&& 0x3f).toInt64))), .second, .val (.int sh), .val (.int v31_0), .val (.int ((own_by vs q) &&& (255 : Int32)))] [])) _
      refine XS.iinc X19.here hx rfl (hb hby d7_124) rfl (l' := #[.val (.ref a), .val (.int st0), .val (.long (r ||| (((((own_by vs q) &&& (255 : Int32)) &&& (127 : Int32)).toInt64) <<< (sh &&& 0x3f).toInt64))), .second, .val (.int (sh + (7 : Int32))), .val (.int v31_0), .val (.int ((own_by vs q) &&& (255 : Int32)))]) rfl ?_
      show Steps p.tables e below (T19.setTop (mkF m 127 #[.val (.ref a), .val (.int st0), .val (.long (r ||| (((((own_by vs q) &&& (255 : Int32)) &&& (127 : Int32)).toInt64) <<< (sh &&& 0x3f).toInt64))), .second, .val (.int (sh + (7 : Int32))), .val (.int v31_0), .val (.int ((own_by vs q) &&& (255 : Int32)))] [])) _
      refine XS.goto X19.here hx rfl (pc0 := 127) (pc' := 13) rfl (hb hby d7_127) (by decide) (by decide) ?_
      show Steps p.tables e below (T19.setTop (mkF m 13 #[.val (.ref a), .val (.int st0), .val (.long (r ||| (((((own_by vs q) &&& (255 : Int32)) &&& (127 : Int32)).toInt64) <<< (sh &&& 0x3f).toInt64))), .second, .val (.int (sh + (7 : Int32))), .val (.int v31_0), .val (.int ((own_by vs q) &&& (255 : Int32)))] [])) _
      exact Steps.refl _)
    subst hv31_0
    have E_39 : Exa Z h19 a "com/example/thin_gateway/thingateway/avro/AvroDecoder" := (E0.wr W19)
    have F_40 : Fld Z h19 a "com/example/thin_gateway/thingateway/avro/AvroDecoder" "input" "[B" (.ref ia) := (FI.other W19 (Or.inr (slot_ne (Or.inr (hw _ (List.mem_of_getElem? (i := 35) rfl))) (Or.inl (hw _ (List.mem_of_getElem? (i := 42) rfl))) (by decide) (t := (.array .byte)) (t' := .int) (by decide) (by decide))))
    have V_41 : Arv Z h19 ia ka .byte z vs (.int (0 : Int32)) := (V0.other W19 (Ne.symm nea))
    exact ⟨T19, _, h19, X19, e19, N19, Keep.of_wr W19, E_39, F_40, Fw19, V_41, K35⟩
theorem rleave {p : Program} {l : Launch} {e : Env} {R : Room} {s : State} {m : MethodId} {args : Array Value} {below : List Frame} {meth : Method} {c : Code} {Z : State} {a0 : Array Value} {n0 : Nat} (hx : p.tables.exec = Jvm.exec) (hZ : Z.Warmed39 s.vm) (hw : ∀ d ∈ tables_1, d.before a0 Z = true) (hby : c.code = prog_1_method_4_code) (hml : c.maxLocals = 7) (hown : s.vm.findClass "com/example/thin_gateway/thingateway/avro/AvroDecoder" = some m.cls) {a : Addr} {st0 : Int32} (T0 : State) (locs : List Loc) (r : Int64) (sh : Int32) (s6 : Slot) (X0 : Stand p l e R s m args below meth c T0 locs 0 0) : Steps p.tables e below (T0.setTop (mkF m 13 #[.val (.ref a), .val (.int st0), .val (.long r), .second, .val (.int sh), .val (.int (0 : Int32)), s6] [])) (T0.setTop (mkF m 130 #[.val (.ref a), .val (.int st0), .val (.long r), .second, .val (.int sh), .val (.int (0 : Int32)), s6] [])) := by
  have K0 : Steps p.tables e below (T0.setTop (mkF m 13 #[.val (.ref a), .val (.int st0), .val (.long r), .second, .val (.int sh), .val (.int (0 : Int32)), s6] [])) (T0.setTop (mkF m 13 #[.val (.ref a), .val (.int st0), .val (.long r), .second, .val (.int sh), .val (.int (0 : Int32)), s6] [])) := Steps.refl _
  have K2 : Steps p.tables e below _ (T0.setTop (mkF m 15 #[.val (.ref a), .val (.int st0), .val (.long r), .second, .val (.int sh), .val (.int (0 : Int32)), s6] [(.int (0 : Int32))])) := K0.trans (by
    show Steps p.tables e below (T0.setTop (mkF m 13 #[.val (.ref a), .val (.int st0), .val (.long r), .second, .val (.int sh), .val (.int (0 : Int32)), s6] [])) _
    refine XS.iload X0.here hx rfl (hb hby d7_13) rfl ?_
    show Steps p.tables e below (T0.setTop (mkF m 15 #[.val (.ref a), .val (.int st0), .val (.long r), .second, .val (.int sh), .val (.int (0 : Int32)), s6] [(.int (0 : Int32))])) _
    exact Steps.refl _)
  have hc15_0 : (0 : Int32) = (0 : Int32) := rfl
  have K3 : Steps p.tables e below _ (T0.setTop (mkF m 130 #[.val (.ref a), .val (.int st0), .val (.long r), .second, .val (.int sh), .val (.int (0 : Int32)), s6] [])) := K2.trans (by
    show Steps p.tables e below (T0.setTop (mkF m 15 #[.val (.ref a), .val (.int st0), .val (.long r), .second, .val (.int sh), .val (.int (0 : Int32)), s6] [(.int (0 : Int32))])) _
    refine XS.ifYes X0.here hx rfl (pc0 := 15) (pc' := 130) rfl (hb hby d7_15) rfl ((if0 _ _).trans (teq hc15_0).1) (by decide) (by decide) ?_
    show Steps p.tables e below (T0.setTop (mkF m 130 #[.val (.ref a), .val (.int st0), .val (.long r), .second, .val (.int sh), .val (.int (0 : Int32)), s6] [])) _
    exact Steps.refl _)
  exact K3
set_option maxHeartbeats 4000000 in
theorem rloop {p : Program} {l : Launch} {e : Env} {R : Room} {s : State} {m : MethodId} {args : Array Value} {below : List Frame} {meth : Method} {c : Code} {Z : State} {a0 : Array Value} {n0 : Nat} (hx : p.tables.exec = Jvm.exec) (hZ : Z.Warmed39 s.vm) (hw : ∀ d ∈ tables_1, d.before a0 Z = true) (hby : c.code = prog_1_method_4_code) (hml : c.maxLocals = 7) (hown : s.vm.findClass "com/example/thin_gateway/thingateway/avro/AvroDecoder" = some m.cls) {a ia : Addr} {ka : ClassId} {z : Int32} {vs : List Value} {st0 : Int32} (ga : n0 ≤ a) (nea : a ≠ ia) : ∀ (k : Nat) (T0 : State) (locs : List Loc) (h0 : Heap) (q : Int32) (r : Int64) (sh : Int32) (s6 : Slot) (h6 : One s6) (X0 : Stand p l e R s m args below meth c T0 locs 0 0) (e0 : T0.heap = h0) (N0 : Fr n0 locs) (E0 : Exa Z h0 a "com/example/thin_gateway/thingateway/avro/AvroDecoder") (FI : Fld Z h0 a "com/example/thin_gateway/thingateway/avro/AvroDecoder" "input" "[B" (.ref ia)) (FP : Fld Z h0 a "com/example/thin_gateway/thingateway/avro/AvroDecoder" "position" "I" (.int q)) (V0 : Arv Z h0 ia ka .byte z vs (.int (0 : Int32))) (hk : rok k vs z q sh),
    ∃ (T' : State) (L' : List Loc) (h' : Heap) (sh' : Int32) (s' : Slot), Stand p l e R s m args below meth c T' L' 0 0 ∧ T'.heap = h' ∧ Fr n0 L' ∧ Keep h0 h' [a] ∧ Exa Z h' a "com/example/thin_gateway/thingateway/avro/AvroDecoder" ∧ Fld Z h' a "com/example/thin_gateway/thingateway/avro/AvroDecoder" "input" "[B" (.ref ia) ∧ Fld Z h' a "com/example/thin_gateway/thingateway/avro/AvroDecoder" "position" "I" (.int (rl k vs q r sh).2) ∧ Arv Z h' ia ka .byte z vs (.int (0 : Int32)) ∧ Steps p.tables e below (T0.setTop (mkF m 13 #[.val (.ref a), .val (.int st0), .val (.long r), .second, .val (.int sh), .val (.int (1 : Int32)), s6] [])) (T'.setTop (mkF m 130 #[.val (.ref a), .val (.int st0), .val (.long (rl k vs q r sh).1), .second, .val (.int sh'), .val (.int (0 : Int32)), s'] [])) := by
  intro k
  induction k with
  | zero => intro T0 locs h0 q r sh s6 h6 X0 e0 N0 E0 FI FP V0 hk; exact hk.elim
  | succ k ih =>
    intro T0 locs h0 q r sh s6 h6 X0 e0 N0 E0 FI FP V0 hk
    obtain ⟨hq, hat, h63, hnx⟩ := hk
    obtain ⟨T1, L1, h1, X1, e1, N1, Kp1, E1, FI1, FP1, V1, S1⟩ := rturn hx hZ hw hby hml hown ga nea T0 locs h0 q r sh s6 h6 X0 e0 N0 E0 FI FP V0 hq hat h63
    by_cases hc : (((own_by vs q) &&& (255 : Int32)) &&& (128 : Int32)) = (0 : Int32)
    · have z1 : rl (k + 1) vs q r sh = (own_res r (own_by vs q) sh, q + (1 : Int32)) := by simp only [rl]; rw [if_pos hc]
      rw [z1]
      rw [if_pos hc] at S1
      exact ⟨T1, L1, h1, _, _, X1, e1, N1, Kp1, E1, FI1, FP1, V1, S1.trans (rleave (n0 := n0) hx hZ hw hby hml hown T1 L1 _ _ _ X1)⟩
    · have z1 : rl (k + 1) vs q r sh = rl k vs (q + (1 : Int32)) (own_res r (own_by vs q) sh) (sh + (7 : Int32)) := by simp only [rl]; rw [if_neg hc]
      rw [z1]
      rw [if_neg hc] at S1
      obtain ⟨T2, L2, h2, sh2, s2, X2, e2, N2, Kp2, E2, FI2, FP2, V2, S2⟩ := ih T1 L1 h1 _ _ _ _ (One.val (w := .int ((own_by vs q) &&& (255 : Int32))) rfl) X1 e1 N1 E1 FI1 FP1 V1 (hnx.resolve_left hc)
      exact ⟨T2, L2, h2, sh2, s2, X2, e2, N2, Kp1.trans Kp2 (fun x hx => Or.inl hx), E2, FI2, FP2, V2, S1.trans S2⟩
theorem d7_0 : decode prog_1_method_4_code 0 = .ok (.aload_n 0, 1) := by decide +kernel
theorem d7_1 : decode prog_1_method_4_code 1 = .ok (.getfield 21, 3) := by decide +kernel
theorem d7_4 : decode prog_1_method_4_code 4 = .ok (.istore_n 1, 1) := by decide +kernel
theorem d7_5 : decode prog_1_method_4_code 5 = .ok (.lconst 0, 1) := by decide +kernel
theorem d7_6 : decode prog_1_method_4_code 6 = .ok (.lstore_n 2, 1) := by decide +kernel
theorem d7_7 : decode prog_1_method_4_code 7 = .ok (.iconst 0, 1) := by decide +kernel
theorem d7_8 : decode prog_1_method_4_code 8 = .ok (.istore 4, 2) := by decide +kernel
theorem d7_10 : decode prog_1_method_4_code 10 = .ok (.iconst 1, 1) := by decide +kernel
theorem d7_11 : decode prog_1_method_4_code 11 = .ok (.istore 5, 2) := by decide +kernel
theorem d7_130 : decode prog_1_method_4_code 130 = .ok (.lload_n 2, 1) := by decide +kernel
theorem d7_131 : decode prog_1_method_4_code 131 = .ok (.iconst 1, 1) := by decide +kernel
theorem d7_132 : decode prog_1_method_4_code 132 = .ok (.lushr, 1) := by decide +kernel
theorem d7_133 : decode prog_1_method_4_code 133 = .ok (.lload_n 2, 1) := by decide +kernel
theorem d7_134 : decode prog_1_method_4_code 134 = .ok (.lconst 1, 1) := by decide +kernel
theorem d7_135 : decode prog_1_method_4_code 135 = .ok (.land, 1) := by decide +kernel
theorem d7_136 : decode prog_1_method_4_code 136 = .ok (.lneg, 1) := by decide +kernel
theorem d7_137 : decode prog_1_method_4_code 137 = .ok (.lxor, 1) := by decide +kernel
def f_rm7 (vs : List Value) (n : Int32) : Int64 := ((((rl 10 vs n (0 : Int64) (0 : Int32)).1.toUInt64 >>> ((1 : Int32) &&& 0x3f).toInt64.toUInt64).toInt64) ^^^ (-((rl 10 vs n (0 : Int64) (0 : Int32)).1 &&& (1 : Int64))))
def Q_rm7 (Z : State) (o0 : Addr) (ia : Addr) (ka : ClassId) (z : Int32) (vs : List Value) (n : Int32) (h0 : Heap) (n0 : Nat) (v : Option Value) (h : Heap) (L : List Loc) : Prop := v = some (.long (f_rm7 vs n)) ∧ Fr n0 L ∧ Keep h0 h [o0] ∧ Exa Z h o0 "com/example/thin_gateway/thingateway/avro/AvroDecoder" ∧ Fld Z h o0 "com/example/thin_gateway/thingateway/avro/AvroDecoder" "input" "[B" (.ref ia) ∧ Fld Z h o0 "com/example/thin_gateway/thingateway/avro/AvroDecoder" "position" "I" (.int (rl 10 vs n (0 : Int64) (0 : Int32)).2)
theorem pn_7 : plainName "com/example/thin_gateway/thingateway/avro/AvroDecoder" = true := by first | (simp [plainName, overriddenIn]; done) | decide +kernel
theorem ef_7 (m : MethodId) (x0 : Addr) : entryFrame m #[(.ref x0)] 7 = mkF m 0 #[.val (.ref x0), .unset, .unset, .unset, .unset, .unset, .unset] [] := by first | (simp [entryFrame, mkF, argsToLocals, Value.category]; done) | rfl
theorem d7_138 : decode prog_1_method_4_code 138 = .ok (.lreturn, 1) := by decide +kernel
set_option maxRecDepth 65536 in
set_option maxHeartbeats 40000000 in
theorem rm7 (l : Launch) (Z : State) (a0 : Array Value) (hw : ∀ d ∈ tables_1, d.before a0 Z = true) (ws : List Jvm.Cond) (o0 : Addr) (ia : Addr) (ka : ClassId) (z : Int32) (vs : List Value) (n : Int32) (h0 : Heap) (n0 : Nat) (Z0 : n0 ≤ h0.size) (E_o0 : Exa Z h0 o0 "com/example/thin_gateway/thingateway/avro/AvroDecoder") (F_input_o0 : Fld Z h0 o0 "com/example/thin_gateway/thingateway/avro/AvroDecoder" "input" "[B" (.ref ia)) (F_position_o0 : Fld Z h0 o0 "com/example/thin_gateway/thingateway/avro/AvroDecoder" "position" "I" (.int n)) (V_ia : Arv Z h0 ia ka .byte z vs (.int (0 : Int32))) (ne_o0_ia : o0 ≠ ia) (g_o0 : n0 ≤ o0) (hok : rok 10 vs z n (0 : Int32)) :
    MetFree l (⟨"com/example/thin_gateway/thingateway/avro/AvroDecoder", "readLong", "()J"⟩ : MethodName) (head1 (Jvm.Cond.code (⟨"com/example/thin_gateway/thingateway/avro/AvroDecoder", "readLong", "()J"⟩ : MethodName) prog_1_method_4_code 7 (some .long) :: ws) ({ frames := 0, cells := 0, slots := 0, locals := 0 } : Room)) (fun a U => a = #[(.ref o0)] ∧ Z.Warmed39 U.vm ∧ U.heap = h0) (fun _ _ _ _ _ => True) (fun _ U o U' => ∃ v L, o = .returned v ∧ Q_rm7 Z o0 ia ka z vs n h0 n0 v U'.heap L ∧ FrameEnd U o U' L ({ frames := 0, cells := 0, slots := 0, locals := 0 } : Room).cells ({ frames := 0, cells := 0, slots := 0, locals := 0 } : Room).slots) := by
  refine MetFree.of_bodySF (plainFor_of_name pn_7) hisR ?_
  intro p e s m args below meth c s₁ Bd hml0 hP hK
  obtain ⟨rfl, hZ, hh⟩ := hP
  have hx := Bd.exec
  have hby := Bd.bytes
  have hml : c.maxLocals = 7 := hml0
  have hown : s.vm.findClass "com/example/thin_gateway/thingateway/avro/AvroDecoder" = some m.cls := findClass_of_methodNamed Bd.named
  have hnm := (name_of_methodNamed Bd.named Bd.method).1
  have X0 : Stand p l e ({ frames := 0, cells := 0, slots := 0, locals := 0 } : Room) s m #[(.ref o0)] below meth c s₁ [] 0 0 := Stand.of_body Bd
  have e0 : s₁.heap = h0 := by rw [← hh, Bd.state]; rfl
  have N0 := Fr.nil n0
  have Kp0 : Keep h0 h0 [o0] := Keep.refl _ _
  have K0 : Steps p.tables e below (s₁.setTop (entryFrame m #[(.ref o0)] 7)) (s₁.setTop (mkF m 0 #[.val (.ref o0), .unset, .unset, .unset, .unset, .unset, .unset] [])) := castTop (ef_7 m o0) (Steps.refl _)
  have K1 : Steps p.tables e below _ (s₁.setTop (mkF m 1 #[.val (.ref o0), .unset, .unset, .unset, .unset, .unset, .unset] [(.ref o0)])) := K0.trans (by
    show Steps p.tables e below (s₁.setTop (mkF m 0 #[.val (.ref o0), .unset, .unset, .unset, .unset, .unset, .unset] [])) _
    refine XS.aloadN X0.here hx rfl (hb hby d7_0) rfl rfl ?_
    show Steps p.tables e below (s₁.setTop (mkF m 1 #[.val (.ref o0), .unset, .unset, .unset, .unset, .unset, .unset] [(.ref o0)])) _
    exact Steps.refl _)
  obtain ⟨T2, X2, e2, st2⟩ := getF X0 hx hZ hown (host := "") (Or.inl (hw _ (List.mem_of_getElem? (i := 41) rfl))) Via.refl e0 F_position_o0 (g := (mkF m 1 #[.val (.ref o0), .unset, .unset, .unset, .unset, .unset, .unset] [(.ref o0)])) rfl rfl (hb hby d7_1)
  have K3 : Steps p.tables e below _ (T2.setTop (mkF m 4 #[.val (.ref o0), .unset, .unset, .unset, .unset, .unset, .unset] [(.int n)])) := K1.trans (st2 _ (Steps.refl _))
  have K4 : Steps p.tables e below _ (T2.setTop (mkF m 13 #[.val (.ref o0), .val (.int n), .val (.long (0 : Int64)), .second, .val (.int (0 : Int32)), .val (.int (1 : Int32)), .unset] [])) := K3.trans (by
    show Steps p.tables e below (T2.setTop (mkF m 4 #[.val (.ref o0), .unset, .unset, .unset, .unset, .unset, .unset] [(.int n)])) _
    refine XS.istoreN X2.here hx rfl (hb hby d7_4) rfl (l' := #[.val (.ref o0), .val (.int n), .unset, .unset, .unset, .unset, .unset]) rfl ?_
    show Steps p.tables e below (T2.setTop (mkF m 5 #[.val (.ref o0), .val (.int n), .unset, .unset, .unset, .unset, .unset] [])) _
    refine XS.lconst X2.here hx rfl (hb hby d7_5) ?_
    show Steps p.tables e below (T2.setTop (mkF m 6 #[.val (.ref o0), .val (.int n), .unset, .unset, .unset, .unset, .unset] [(.long (0 : Int64))])) _
    refine XS.lstoreN X2.here hx rfl (hb hby d7_6) rfl (l' := #[.val (.ref o0), .val (.int n), .val (.long (0 : Int64)), .second, .unset, .unset, .unset]) rfl ?_
    show Steps p.tables e below (T2.setTop (mkF m 7 #[.val (.ref o0), .val (.int n), .val (.long (0 : Int64)), .second, .unset, .unset, .unset] [])) _
    refine XS.iconst X2.here hx rfl (hb hby d7_7) ?_
    show Steps p.tables e below (T2.setTop (mkF m 8 #[.val (.ref o0), .val (.int n), .val (.long (0 : Int64)), .second, .unset, .unset, .unset] [(.int (0 : Int32))])) _
    refine XS.istore X2.here hx rfl (hb hby d7_8) rfl (l' := #[.val (.ref o0), .val (.int n), .val (.long (0 : Int64)), .second, .val (.int (0 : Int32)), .unset, .unset]) rfl ?_
    show Steps p.tables e below (T2.setTop (mkF m 10 #[.val (.ref o0), .val (.int n), .val (.long (0 : Int64)), .second, .val (.int (0 : Int32)), .unset, .unset] [])) _
    refine XS.iconst X2.here hx rfl (hb hby d7_10) ?_
    show Steps p.tables e below (T2.setTop (mkF m 11 #[.val (.ref o0), .val (.int n), .val (.long (0 : Int64)), .second, .val (.int (0 : Int32)), .unset, .unset] [(.int (1 : Int32))])) _
    refine XS.istore X2.here hx rfl (hb hby d7_11) rfl (l' := #[.val (.ref o0), .val (.int n), .val (.long (0 : Int64)), .second, .val (.int (0 : Int32)), .val (.int (1 : Int32)), .unset]) rfl ?_
    show Steps p.tables e below (T2.setTop (mkF m 13 #[.val (.ref o0), .val (.int n), .val (.long (0 : Int64)), .second, .val (.int (0 : Int32)), .val (.int (1 : Int32)), .unset] [])) _
    exact Steps.refl _)
  obtain ⟨T5, L5, h5, sh5, s5, X5, e5, N5, Kp5, E5, FI5, FP5, V5, S5⟩ := rloop hx hZ hw hby hml hown g_o0 ne_o0_ia 10 T2 _ _ n (0 : Int64) (0 : Int32) .unset One.u X2 e2 N0 E_o0 F_input_o0 F_position_o0 V_ia hok
  have K6 := K4.trans S5
  have K7 : Steps p.tables e below _ (T5.setTop (mkF m 138 #[.val (.ref o0), .val (.int n), .val (.long (rl 10 vs n (0 : Int64) (0 : Int32)).1), .second, .val (.int sh5), .val (.int (0 : Int32)), s5] [(.long ((((rl 10 vs n (0 : Int64) (0 : Int32)).1.toUInt64 >>> ((1 : Int32) &&& 0x3f).toInt64.toUInt64).toInt64) ^^^ (-((rl 10 vs n (0 : Int64) (0 : Int32)).1 &&& (1 : Int64)))))])) := K6.trans (by
    show Steps p.tables e below (T5.setTop (mkF m 130 #[.val (.ref o0), .val (.int n), .val (.long (rl 10 vs n (0 : Int64) (0 : Int32)).1), .second, .val (.int sh5), .val (.int (0 : Int32)), s5] [])) _
    refine XS.lloadN X5.here hx rfl (hb hby d7_130) rfl ?_
    show Steps p.tables e below (T5.setTop (mkF m 131 #[.val (.ref o0), .val (.int n), .val (.long (rl 10 vs n (0 : Int64) (0 : Int32)).1), .second, .val (.int sh5), .val (.int (0 : Int32)), s5] [(.long (rl 10 vs n (0 : Int64) (0 : Int32)).1)])) _
    refine XS.iconst X5.here hx rfl (hb hby d7_131) ?_
    show Steps p.tables e below (T5.setTop (mkF m 132 #[.val (.ref o0), .val (.int n), .val (.long (rl 10 vs n (0 : Int64) (0 : Int32)).1), .second, .val (.int sh5), .val (.int (0 : Int32)), s5] [(.int (1 : Int32)), (.long (rl 10 vs n (0 : Int64) (0 : Int32)).1)])) _
    refine XS.lushr X5.here hx rfl (hb hby d7_132) rfl ?_
    show Steps p.tables e below (T5.setTop (mkF m 133 #[.val (.ref o0), .val (.int n), .val (.long (rl 10 vs n (0 : Int64) (0 : Int32)).1), .second, .val (.int sh5), .val (.int (0 : Int32)), s5] [(.long (((rl 10 vs n (0 : Int64) (0 : Int32)).1.toUInt64 >>> ((1 : Int32) &&& 0x3f).toInt64.toUInt64).toInt64))])) _
    refine XS.lloadN X5.here hx rfl (hb hby d7_133) rfl ?_
    show Steps p.tables e below (T5.setTop (mkF m 134 #[.val (.ref o0), .val (.int n), .val (.long (rl 10 vs n (0 : Int64) (0 : Int32)).1), .second, .val (.int sh5), .val (.int (0 : Int32)), s5] [(.long (rl 10 vs n (0 : Int64) (0 : Int32)).1), (.long (((rl 10 vs n (0 : Int64) (0 : Int32)).1.toUInt64 >>> ((1 : Int32) &&& 0x3f).toInt64.toUInt64).toInt64))])) _
    refine XS.lconst X5.here hx rfl (hb hby d7_134) ?_
    show Steps p.tables e below (T5.setTop (mkF m 135 #[.val (.ref o0), .val (.int n), .val (.long (rl 10 vs n (0 : Int64) (0 : Int32)).1), .second, .val (.int sh5), .val (.int (0 : Int32)), s5] [(.long (1 : Int64)), (.long (rl 10 vs n (0 : Int64) (0 : Int32)).1), (.long (((rl 10 vs n (0 : Int64) (0 : Int32)).1.toUInt64 >>> ((1 : Int32) &&& 0x3f).toInt64.toUInt64).toInt64))])) _
    refine XS.land X5.here hx rfl (hb hby d7_135) rfl ?_
    show Steps p.tables e below (T5.setTop (mkF m 136 #[.val (.ref o0), .val (.int n), .val (.long (rl 10 vs n (0 : Int64) (0 : Int32)).1), .second, .val (.int sh5), .val (.int (0 : Int32)), s5] [(.long ((rl 10 vs n (0 : Int64) (0 : Int32)).1 &&& (1 : Int64))), (.long (((rl 10 vs n (0 : Int64) (0 : Int32)).1.toUInt64 >>> ((1 : Int32) &&& 0x3f).toInt64.toUInt64).toInt64))])) _
    refine XS.lneg X5.here hx rfl (hb hby d7_136) rfl ?_
    show Steps p.tables e below (T5.setTop (mkF m 137 #[.val (.ref o0), .val (.int n), .val (.long (rl 10 vs n (0 : Int64) (0 : Int32)).1), .second, .val (.int sh5), .val (.int (0 : Int32)), s5] [(.long (-((rl 10 vs n (0 : Int64) (0 : Int32)).1 &&& (1 : Int64)))), (.long (((rl 10 vs n (0 : Int64) (0 : Int32)).1.toUInt64 >>> ((1 : Int32) &&& 0x3f).toInt64.toUInt64).toInt64))])) _
    refine XS.lxor X5.here hx rfl (hb hby d7_137) rfl ?_
    show Steps p.tables e below (T5.setTop (mkF m 138 #[.val (.ref o0), .val (.int n), .val (.long (rl 10 vs n (0 : Int64) (0 : Int32)).1), .second, .val (.int sh5), .val (.int (0 : Int32)), s5] [(.long ((((rl 10 vs n (0 : Int64) (0 : Int32)).1.toUInt64 >>> ((1 : Int32) &&& 0x3f).toInt64.toUInt64).toInt64) ^^^ (-((rl 10 vs n (0 : Int64) (0 : Int32)).1 &&& (1 : Int64)))))])) _
    exact Steps.refl _)
  obtain ⟨fs, hr, hrun, hended, hW, hsame⟩ := X5.leave (v := some (.long ((((rl 10 vs n (0 : Int64) (0 : Int32)).1.toUInt64 >>> ((1 : Int32) &&& 0x3f).toInt64.toUInt64).toInt64) ^^^ (-((rl 10 vs n (0 : Int64) (0 : Int32)).1 &&& (1 : Int64)))))) (fun h => by rw [Bd.returns] at h; cases h)
  have K_8 : Keep h0 h5 [o0] := (Kp0.trans Kp5 (allS (Or.inl (List.mem_of_getElem? (i := 0) rfl)) all0))
  refine ⟨_, _, K7.trans (retOut X5 hx Bd.returns rfl (Or.inr (Or.inl ⟨rfl, rfl, _, rfl⟩)) (hb hby d7_138) hr), hrun, hended, _, _, rfl, ?_, ⟨_, rfl⟩, hW, hsame.mono (by decide) (by first | decide | omega)⟩
  show Q_rm7 Z o0 ia ka z vs n h0 n0 _ T5.heap _
  rw [e5]
  exact ⟨rfl, N5, K_8, E5, FI5, FP5⟩
theorem d1_0 : decode method_2_code 0 = .ok (.lload_n 0, 1) := by decide +kernel
theorem d1_1 : decode method_2_code 1 = .ok (.ldc2_w 7, 3) := by decide +kernel
theorem d1_4 : decode method_2_code 4 = .ok (.lcmp, 1) := by decide +kernel
theorem d1_5 : decode method_2_code 5 = .ok (.ifCond .ge 5, 3) := by decide +kernel
theorem d1_8 : decode method_2_code 8 = .ok (.iconst 1, 1) := by decide +kernel
theorem d1_10 : decode method_2_code 10 = .ok (.lload_n 0, 1) := by decide +kernel
theorem d1_11 : decode method_2_code 11 = .ok (.ldc2_w 9, 3) := by decide +kernel
theorem d1_14 : decode method_2_code 14 = .ok (.lcmp, 1) := by decide +kernel
theorem d1_15 : decode method_2_code 15 = .ok (.ifCond .ge 5, 3) := by decide +kernel
theorem d1_18 : decode method_2_code 18 = .ok (.iconst 2, 1) := by decide +kernel
theorem d1_20 : decode method_2_code 20 = .ok (.lload_n 0, 1) := by decide +kernel
theorem d1_21 : decode method_2_code 21 = .ok (.ldc2_w 11, 3) := by decide +kernel
theorem d1_24 : decode method_2_code 24 = .ok (.lcmp, 1) := by decide +kernel
theorem d1_25 : decode method_2_code 25 = .ok (.ifCond .ge 5, 3) := by decide +kernel
theorem d1_28 : decode method_2_code 28 = .ok (.iconst 3, 1) := by decide +kernel
theorem d1_30 : decode method_2_code 30 = .ok (.lload_n 0, 1) := by decide +kernel
theorem d1_31 : decode method_2_code 31 = .ok (.ldc2_w 13, 3) := by decide +kernel
theorem d1_34 : decode method_2_code 34 = .ok (.lcmp, 1) := by decide +kernel
theorem d1_35 : decode method_2_code 35 = .ok (.ifCond .ge 5, 3) := by decide +kernel
theorem d1_38 : decode method_2_code 38 = .ok (.iconst 4, 1) := by decide +kernel
theorem d1_40 : decode method_2_code 40 = .ok (.iconst 5, 1) := by decide +kernel
def f_rm1 (q0 : Int64) : Int32 := (if q0 < (128 : Int64) then (1 : Int32) else (if q0 < (16384 : Int64) then (2 : Int32) else (if q0 < (2097152 : Int64) then (3 : Int32) else (if q0 < (268435456 : Int64) then (4 : Int32) else (5 : Int32)))))
def Q_rm1 (Z : State) (q0 : Int64) (h0 : Heap) (n0 : Nat) (v : Option Value) (h : Heap) (L : List Loc) : Prop := v = some (.int (f_rm1 q0)) ∧ Fr n0 L ∧ h = h0
theorem pn_1 : plainName "com/example/thin_gateway/thingateway/avro/AvroDecoderReadIntPinLaw" = true := by first | (simp [plainName, overriddenIn]; done) | decide +kernel
theorem ef_1 (m : MethodId) (x0 : Int64) : entryFrame m #[(.long x0)] 2 = mkF m 0 #[.val (.long x0), .second] [] := by first | (simp [entryFrame, mkF, argsToLocals, Value.category]; done) | rfl
theorem d1_9 : decode method_2_code 9 = .ok (.ireturn, 1) := by decide +kernel
theorem d1_19 : decode method_2_code 19 = .ok (.ireturn, 1) := by decide +kernel
theorem d1_29 : decode method_2_code 29 = .ok (.ireturn, 1) := by decide +kernel
theorem d1_39 : decode method_2_code 39 = .ok (.ireturn, 1) := by decide +kernel
theorem d1_41 : decode method_2_code 41 = .ok (.ireturn, 1) := by decide +kernel
set_option maxRecDepth 65536 in
set_option maxHeartbeats 40000000 in
theorem rm1 (l : Launch) (Z : State) (a0 : Array Value) (hw : ∀ d ∈ tables_1, d.before a0 Z = true) (ws : List Jvm.Cond) (q0 : Int64) (h0 : Heap) (n0 : Nat) (Z0 : n0 ≤ h0.size) :
    MetFree l (⟨"com/example/thin_gateway/thingateway/avro/AvroDecoderReadIntPinLaw", "minLen", "(J)I"⟩ : MethodName) (head1 (Jvm.Cond.code (⟨"com/example/thin_gateway/thingateway/avro/AvroDecoderReadIntPinLaw", "minLen", "(J)I"⟩ : MethodName) method_2_code 2 (some .int) :: ws) ({ frames := 0, cells := 0, slots := 0, locals := 0 } : Room)) (fun a U => a = #[(.long q0)] ∧ Z.Warmed39 U.vm ∧ U.heap = h0) (fun _ _ _ _ _ => True) (fun _ U o U' => ∃ v L, o = .returned v ∧ Q_rm1 Z q0 h0 n0 v U'.heap L ∧ FrameEnd U o U' L ({ frames := 0, cells := 0, slots := 0, locals := 0 } : Room).cells ({ frames := 0, cells := 0, slots := 0, locals := 0 } : Room).slots) := by
  refine MetFree.of_bodySF (plainFor_of_name pn_1) hisR ?_
  intro p e s m args below meth c s₁ Bd hml0 hP hK
  obtain ⟨rfl, hZ, hh⟩ := hP
  have hx := Bd.exec
  have hby := Bd.bytes
  have hml : c.maxLocals = 2 := hml0
  have hown : s.vm.findClass "com/example/thin_gateway/thingateway/avro/AvroDecoderReadIntPinLaw" = some m.cls := findClass_of_methodNamed Bd.named
  have hnm := (name_of_methodNamed Bd.named Bd.method).1
  have X0 : Stand p l e ({ frames := 0, cells := 0, slots := 0, locals := 0 } : Room) s m #[(.long q0)] below meth c s₁ [] 0 0 := Stand.of_body Bd
  have e0 : s₁.heap = h0 := by rw [← hh, Bd.state]; rfl
  have N0 := Fr.nil n0
  have Kp0 : Keep h0 h0 [] := Keep.refl _ _
  have K0 : Steps p.tables e below (s₁.setTop (entryFrame m #[(.long q0)] 2)) (s₁.setTop (mkF m 0 #[.val (.long q0), .second] [])) := castTop (ef_1 m q0) (Steps.refl _)
  have K1 : Steps p.tables e below _ (s₁.setTop (mkF m 5 #[.val (.long q0), .second] [(.int (lcmpW q0 (128 : Int64)))])) := K0.trans (by
    show Steps p.tables e below (s₁.setTop (mkF m 0 #[.val (.long q0), .second] [])) _
    refine XS.lloadN X0.here hx rfl (hb hby d1_0) rfl ?_
    show Steps p.tables e below (s₁.setTop (mkF m 1 #[.val (.long q0), .second] [(.long q0)])) _
    refine X0.ldc2Long hx hown (mvT hZ (hw _ (List.mem_of_getElem? (i := 5) rfl))) (g := (mkF m 1 #[.val (.long q0), .second] [(.long q0)])) rfl (hb hby d1_1) _ ?_
    show Steps p.tables e below (s₁.setTop (mkF m 4 #[.val (.long q0), .second] [(.long (128 : Int64)), (.long q0)])) _
    refine XS.lcmp X0.here hx rfl (hb hby d1_4) rfl ?_
    show Steps p.tables e below (s₁.setTop (mkF m 5 #[.val (.long q0), .second] [(.int (lcmpW q0 (128 : Int64)))])) _
    exact Steps.refl _)
  by_cases hc5 : q0 < (128 : Int64)
  · have K2 : Steps p.tables e below _ (s₁.setTop (mkF m 9 #[.val (.long q0), .second] [(.int (1 : Int32))])) := K1.trans (by
      show Steps p.tables e below (s₁.setTop (mkF m 5 #[.val (.long q0), .second] [(.int (lcmpW q0 (128 : Int64)))])) _
      refine XS.ifNo X0.here hx rfl (hb hby d1_5) rfl ((if0 _ _).trans (tlt ((lw_lt q0 (128 : Int64)).mpr hc5)).2.1) ?_
      show Steps p.tables e below (s₁.setTop (mkF m 8 #[.val (.long q0), .second] [])) _
      refine XS.iconst X0.here hx rfl (hb hby d1_8) ?_
      show Steps p.tables e below (s₁.setTop (mkF m 9 #[.val (.long q0), .second] [(.int (1 : Int32))])) _
      exact Steps.refl _)
    obtain ⟨fs, hr, hrun, hended, hW, hsame⟩ := X0.leave (v := some (.int (1 : Int32))) (fun h => by rw [Bd.returns] at h; cases h)
    refine ⟨_, _, K2.trans (retOut X0 hx Bd.returns rfl (Or.inl ⟨rfl, Or.inl rfl, _, rfl⟩) (hb hby d1_9) hr), hrun, hended, _, _, rfl, ?_, ⟨_, rfl⟩, hW, hsame.mono (by decide) (by first | decide | omega)⟩
    show Q_rm1 Z q0 h0 n0 _ s₁.heap _
    rw [e0]
    exact ⟨(by unfold f_rm1; rw [if_pos hc5]), N0, rfl⟩
  · have K3 : Steps p.tables e below _ (s₁.setTop (mkF m 15 #[.val (.long q0), .second] [(.int (lcmpW q0 (16384 : Int64)))])) := K1.trans (by
      show Steps p.tables e below (s₁.setTop (mkF m 5 #[.val (.long q0), .second] [(.int (lcmpW q0 (128 : Int64)))])) _
      refine XS.ifYes X0.here hx rfl (pc0 := 5) (pc' := 10) rfl (hb hby d1_5) rfl ((if0 _ _).trans (flt (fun z => hc5 ((lw_lt q0 (128 : Int64)).mp z))).2.1) (by decide) (by decide) ?_
      show Steps p.tables e below (s₁.setTop (mkF m 10 #[.val (.long q0), .second] [])) _
      refine XS.lloadN X0.here hx rfl (hb hby d1_10) rfl ?_
      show Steps p.tables e below (s₁.setTop (mkF m 11 #[.val (.long q0), .second] [(.long q0)])) _
      refine X0.ldc2Long hx hown (mvT hZ (hw _ (List.mem_of_getElem? (i := 55) rfl))) (g := (mkF m 11 #[.val (.long q0), .second] [(.long q0)])) rfl (hb hby d1_11) _ ?_
      show Steps p.tables e below (s₁.setTop (mkF m 14 #[.val (.long q0), .second] [(.long (16384 : Int64)), (.long q0)])) _
      refine XS.lcmp X0.here hx rfl (hb hby d1_14) rfl ?_
      show Steps p.tables e below (s₁.setTop (mkF m 15 #[.val (.long q0), .second] [(.int (lcmpW q0 (16384 : Int64)))])) _
      exact Steps.refl _)
    by_cases hc15 : q0 < (16384 : Int64)
    · have K4 : Steps p.tables e below _ (s₁.setTop (mkF m 19 #[.val (.long q0), .second] [(.int (2 : Int32))])) := K3.trans (by
        show Steps p.tables e below (s₁.setTop (mkF m 15 #[.val (.long q0), .second] [(.int (lcmpW q0 (16384 : Int64)))])) _
        refine XS.ifNo X0.here hx rfl (hb hby d1_15) rfl ((if0 _ _).trans (tlt ((lw_lt q0 (16384 : Int64)).mpr hc15)).2.1) ?_
        show Steps p.tables e below (s₁.setTop (mkF m 18 #[.val (.long q0), .second] [])) _
        refine XS.iconst X0.here hx rfl (hb hby d1_18) ?_
        show Steps p.tables e below (s₁.setTop (mkF m 19 #[.val (.long q0), .second] [(.int (2 : Int32))])) _
        exact Steps.refl _)
      obtain ⟨fs, hr, hrun, hended, hW, hsame⟩ := X0.leave (v := some (.int (2 : Int32))) (fun h => by rw [Bd.returns] at h; cases h)
      refine ⟨_, _, K4.trans (retOut X0 hx Bd.returns rfl (Or.inl ⟨rfl, Or.inl rfl, _, rfl⟩) (hb hby d1_19) hr), hrun, hended, _, _, rfl, ?_, ⟨_, rfl⟩, hW, hsame.mono (by decide) (by first | decide | omega)⟩
      show Q_rm1 Z q0 h0 n0 _ s₁.heap _
      rw [e0]
      exact ⟨(by unfold f_rm1; rw [if_neg hc5, if_pos hc15]), N0, rfl⟩
    · have K5 : Steps p.tables e below _ (s₁.setTop (mkF m 25 #[.val (.long q0), .second] [(.int (lcmpW q0 (2097152 : Int64)))])) := K3.trans (by
        show Steps p.tables e below (s₁.setTop (mkF m 15 #[.val (.long q0), .second] [(.int (lcmpW q0 (16384 : Int64)))])) _
        refine XS.ifYes X0.here hx rfl (pc0 := 15) (pc' := 20) rfl (hb hby d1_15) rfl ((if0 _ _).trans (flt (fun z => hc15 ((lw_lt q0 (16384 : Int64)).mp z))).2.1) (by decide) (by decide) ?_
        show Steps p.tables e below (s₁.setTop (mkF m 20 #[.val (.long q0), .second] [])) _
        refine XS.lloadN X0.here hx rfl (hb hby d1_20) rfl ?_
        show Steps p.tables e below (s₁.setTop (mkF m 21 #[.val (.long q0), .second] [(.long q0)])) _
        refine X0.ldc2Long hx hown (mvT hZ (hw _ (List.mem_of_getElem? (i := 56) rfl))) (g := (mkF m 21 #[.val (.long q0), .second] [(.long q0)])) rfl (hb hby d1_21) _ ?_
        show Steps p.tables e below (s₁.setTop (mkF m 24 #[.val (.long q0), .second] [(.long (2097152 : Int64)), (.long q0)])) _
        refine XS.lcmp X0.here hx rfl (hb hby d1_24) rfl ?_
        show Steps p.tables e below (s₁.setTop (mkF m 25 #[.val (.long q0), .second] [(.int (lcmpW q0 (2097152 : Int64)))])) _
        exact Steps.refl _)
      by_cases hc25 : q0 < (2097152 : Int64)
      · have K6 : Steps p.tables e below _ (s₁.setTop (mkF m 29 #[.val (.long q0), .second] [(.int (3 : Int32))])) := K5.trans (by
          show Steps p.tables e below (s₁.setTop (mkF m 25 #[.val (.long q0), .second] [(.int (lcmpW q0 (2097152 : Int64)))])) _
          refine XS.ifNo X0.here hx rfl (hb hby d1_25) rfl ((if0 _ _).trans (tlt ((lw_lt q0 (2097152 : Int64)).mpr hc25)).2.1) ?_
          show Steps p.tables e below (s₁.setTop (mkF m 28 #[.val (.long q0), .second] [])) _
          refine XS.iconst X0.here hx rfl (hb hby d1_28) ?_
          show Steps p.tables e below (s₁.setTop (mkF m 29 #[.val (.long q0), .second] [(.int (3 : Int32))])) _
          exact Steps.refl _)
        obtain ⟨fs, hr, hrun, hended, hW, hsame⟩ := X0.leave (v := some (.int (3 : Int32))) (fun h => by rw [Bd.returns] at h; cases h)
        refine ⟨_, _, K6.trans (retOut X0 hx Bd.returns rfl (Or.inl ⟨rfl, Or.inl rfl, _, rfl⟩) (hb hby d1_29) hr), hrun, hended, _, _, rfl, ?_, ⟨_, rfl⟩, hW, hsame.mono (by decide) (by first | decide | omega)⟩
        show Q_rm1 Z q0 h0 n0 _ s₁.heap _
        rw [e0]
        exact ⟨(by unfold f_rm1; rw [if_neg hc5, if_neg hc15, if_pos hc25]), N0, rfl⟩
      · have K7 : Steps p.tables e below _ (s₁.setTop (mkF m 35 #[.val (.long q0), .second] [(.int (lcmpW q0 (268435456 : Int64)))])) := K5.trans (by
          show Steps p.tables e below (s₁.setTop (mkF m 25 #[.val (.long q0), .second] [(.int (lcmpW q0 (2097152 : Int64)))])) _
          refine XS.ifYes X0.here hx rfl (pc0 := 25) (pc' := 30) rfl (hb hby d1_25) rfl ((if0 _ _).trans (flt (fun z => hc25 ((lw_lt q0 (2097152 : Int64)).mp z))).2.1) (by decide) (by decide) ?_
          show Steps p.tables e below (s₁.setTop (mkF m 30 #[.val (.long q0), .second] [])) _
          refine XS.lloadN X0.here hx rfl (hb hby d1_30) rfl ?_
          show Steps p.tables e below (s₁.setTop (mkF m 31 #[.val (.long q0), .second] [(.long q0)])) _
          refine X0.ldc2Long hx hown (mvT hZ (hw _ (List.mem_of_getElem? (i := 57) rfl))) (g := (mkF m 31 #[.val (.long q0), .second] [(.long q0)])) rfl (hb hby d1_31) _ ?_
          show Steps p.tables e below (s₁.setTop (mkF m 34 #[.val (.long q0), .second] [(.long (268435456 : Int64)), (.long q0)])) _
          refine XS.lcmp X0.here hx rfl (hb hby d1_34) rfl ?_
          show Steps p.tables e below (s₁.setTop (mkF m 35 #[.val (.long q0), .second] [(.int (lcmpW q0 (268435456 : Int64)))])) _
          exact Steps.refl _)
        by_cases hc35 : q0 < (268435456 : Int64)
        · have K8 : Steps p.tables e below _ (s₁.setTop (mkF m 39 #[.val (.long q0), .second] [(.int (4 : Int32))])) := K7.trans (by
            show Steps p.tables e below (s₁.setTop (mkF m 35 #[.val (.long q0), .second] [(.int (lcmpW q0 (268435456 : Int64)))])) _
            refine XS.ifNo X0.here hx rfl (hb hby d1_35) rfl ((if0 _ _).trans (tlt ((lw_lt q0 (268435456 : Int64)).mpr hc35)).2.1) ?_
            show Steps p.tables e below (s₁.setTop (mkF m 38 #[.val (.long q0), .second] [])) _
            refine XS.iconst X0.here hx rfl (hb hby d1_38) ?_
            show Steps p.tables e below (s₁.setTop (mkF m 39 #[.val (.long q0), .second] [(.int (4 : Int32))])) _
            exact Steps.refl _)
          obtain ⟨fs, hr, hrun, hended, hW, hsame⟩ := X0.leave (v := some (.int (4 : Int32))) (fun h => by rw [Bd.returns] at h; cases h)
          refine ⟨_, _, K8.trans (retOut X0 hx Bd.returns rfl (Or.inl ⟨rfl, Or.inl rfl, _, rfl⟩) (hb hby d1_39) hr), hrun, hended, _, _, rfl, ?_, ⟨_, rfl⟩, hW, hsame.mono (by decide) (by first | decide | omega)⟩
          show Q_rm1 Z q0 h0 n0 _ s₁.heap _
          rw [e0]
          exact ⟨(by unfold f_rm1; rw [if_neg hc5, if_neg hc15, if_neg hc25, if_pos hc35]), N0, rfl⟩
        · have K9 : Steps p.tables e below _ (s₁.setTop (mkF m 41 #[.val (.long q0), .second] [(.int (5 : Int32))])) := K7.trans (by
            show Steps p.tables e below (s₁.setTop (mkF m 35 #[.val (.long q0), .second] [(.int (lcmpW q0 (268435456 : Int64)))])) _
            refine XS.ifYes X0.here hx rfl (pc0 := 35) (pc' := 40) rfl (hb hby d1_35) rfl ((if0 _ _).trans (flt (fun z => hc35 ((lw_lt q0 (268435456 : Int64)).mp z))).2.1) (by decide) (by decide) ?_
            show Steps p.tables e below (s₁.setTop (mkF m 40 #[.val (.long q0), .second] [])) _
            refine XS.iconst X0.here hx rfl (hb hby d1_40) ?_
            show Steps p.tables e below (s₁.setTop (mkF m 41 #[.val (.long q0), .second] [(.int (5 : Int32))])) _
            exact Steps.refl _)
          obtain ⟨fs, hr, hrun, hended, hW, hsame⟩ := X0.leave (v := some (.int (5 : Int32))) (fun h => by rw [Bd.returns] at h; cases h)
          refine ⟨_, _, K9.trans (retOut X0 hx Bd.returns rfl (Or.inl ⟨rfl, Or.inl rfl, _, rfl⟩) (hb hby d1_41) hr), hrun, hended, _, _, rfl, ?_, ⟨_, rfl⟩, hW, hsame.mono (by decide) (by first | decide | omega)⟩
          show Q_rm1 Z q0 h0 n0 _ s₁.heap _
          rw [e0]
          exact ⟨(by unfold f_rm1; rw [if_neg hc5, if_neg hc15, if_neg hc25, if_neg hc35]), N0, rfl⟩
theorem d2_0 : decode method_3_code 0 = .ok (.iload_n 0, 1) := by decide +kernel
theorem d2_1 : decode method_3_code 1 = .ok (.iload_n 3, 1) := by decide +kernel
theorem d2_2 : decode method_3_code 2 = .ok (.if_icmp .ge 35, 3) := by decide +kernel
theorem d2_5 : decode method_3_code 5 = .ok (.lload_n 1, 1) := by decide +kernel
theorem d2_6 : decode method_3_code 6 = .ok (.bipush 7, 2) := by decide +kernel
theorem d2_8 : decode method_3_code 8 = .ok (.iload_n 0, 1) := by decide +kernel
theorem d2_9 : decode method_3_code 9 = .ok (.imul, 1) := by decide +kernel
theorem d2_10 : decode method_3_code 10 = .ok (.lushr, 1) := by decide +kernel
theorem d2_11 : decode method_3_code 11 = .ok (.ldc2_w 15, 3) := by decide +kernel
theorem d2_14 : decode method_3_code 14 = .ok (.land, 1) := by decide +kernel
theorem d2_15 : decode method_3_code 15 = .ok (.l2i, 1) := by decide +kernel
theorem d2_16 : decode method_3_code 16 = .ok (.istore 4, 2) := by decide +kernel
theorem d2_18 : decode method_3_code 18 = .ok (.iload_n 0, 1) := by decide +kernel
theorem d2_19 : decode method_3_code 19 = .ok (.iload_n 3, 1) := by decide +kernel
theorem d2_20 : decode method_3_code 20 = .ok (.iconst 1, 1) := by decide +kernel
theorem d2_21 : decode method_3_code 21 = .ok (.isub, 1) := by decide +kernel
theorem d2_22 : decode method_3_code 22 = .ok (.if_icmp .ge 11, 3) := by decide +kernel
theorem d2_25 : decode method_3_code 25 = .ok (.iload 4, 2) := by decide +kernel
theorem d2_27 : decode method_3_code 27 = .ok (.sipush 128, 3) := by decide +kernel
theorem d2_30 : decode method_3_code 30 = .ok (.ior, 1) := by decide +kernel
theorem d2_31 : decode method_3_code 31 = .ok (.i2b, 1) := by decide +kernel
theorem d2_33 : decode method_3_code 33 = .ok (.iload 4, 2) := by decide +kernel
theorem d2_35 : decode method_3_code 35 = .ok (.i2b, 1) := by decide +kernel
theorem d2_37 : decode method_3_code 37 = .ok (.iload_n 0, 1) := by decide +kernel
theorem d2_38 : decode method_3_code 38 = .ok (.bipush 9, 2) := by decide +kernel
theorem d2_40 : decode method_3_code 40 = .ok (.if_icmp .ge 6, 3) := by decide +kernel
theorem d2_43 : decode method_3_code 43 = .ok (.bipush (-128), 2) := by decide +kernel
theorem d2_46 : decode method_3_code 46 = .ok (.iconst 0, 1) := by decide +kernel
def f_rm2 (p0 : Int32) (q1 : Int64) (p2 : Int32) : Int32 := (if p0 < p2 then (if p0 < (p2 - (1 : Int32)) then (((((((q1.toUInt64 >>> (((7 : Int32) * p0) &&& 0x3f).toInt64.toUInt64).toInt64) &&& (127 : Int64)).toInt32) ||| (128 : Int32)).toInt8.toInt32).toInt8.toInt32) else ((((((q1.toUInt64 >>> (((7 : Int32) * p0) &&& 0x3f).toInt64.toUInt64).toInt64) &&& (127 : Int64)).toInt32).toInt8.toInt32).toInt8.toInt32)) else (if p0 < (9 : Int32) then ((-128 : Int32).toInt8.toInt32) else ((0 : Int32).toInt8.toInt32)))
def Q_rm2 (Z : State) (p0 : Int32) (q1 : Int64) (p2 : Int32) (h0 : Heap) (n0 : Nat) (v : Option Value) (h : Heap) (L : List Loc) : Prop := v = some (.int (f_rm2 p0 q1 p2)) ∧ Fr n0 L ∧ h = h0
theorem pn_2 : plainName "com/example/thin_gateway/thingateway/avro/AvroDecoderReadIntPinLaw" = true := by first | (simp [plainName, overriddenIn]; done) | decide +kernel
theorem ef_2 (m : MethodId) (x0 : Int32) (x1 : Int64) (x2 : Int32) : entryFrame m #[(.int x0), (.long x1), (.int x2)] 5 = mkF m 0 #[.val (.int x0), .val (.long x1), .second, .val (.int x2), .unset] [] := by first | (simp [entryFrame, mkF, argsToLocals, Value.category]; done) | rfl
theorem d2_32 : decode method_3_code 32 = .ok (.ireturn, 1) := by decide +kernel
theorem d2_36 : decode method_3_code 36 = .ok (.ireturn, 1) := by decide +kernel
theorem d2_45 : decode method_3_code 45 = .ok (.ireturn, 1) := by decide +kernel
theorem d2_47 : decode method_3_code 47 = .ok (.ireturn, 1) := by decide +kernel
set_option maxRecDepth 65536 in
set_option maxHeartbeats 40000000 in
theorem rm2 (l : Launch) (Z : State) (a0 : Array Value) (hw : ∀ d ∈ tables_1, d.before a0 Z = true) (ws : List Jvm.Cond) (p0 : Int32) (q1 : Int64) (p2 : Int32) (h0 : Heap) (n0 : Nat) (Z0 : n0 ≤ h0.size) :
    MetFree l (⟨"com/example/thin_gateway/thingateway/avro/AvroDecoderReadIntPinLaw", "at", "(IJI)B"⟩ : MethodName) (head1 (Jvm.Cond.code (⟨"com/example/thin_gateway/thingateway/avro/AvroDecoderReadIntPinLaw", "at", "(IJI)B"⟩ : MethodName) method_3_code 5 (some .byte) :: ws) ({ frames := 0, cells := 0, slots := 0, locals := 0 } : Room)) (fun a U => a = #[(.int p0), (.long q1), (.int p2)] ∧ Z.Warmed39 U.vm ∧ U.heap = h0) (fun _ _ _ _ _ => True) (fun _ U o U' => ∃ v L, o = .returned v ∧ Q_rm2 Z p0 q1 p2 h0 n0 v U'.heap L ∧ FrameEnd U o U' L ({ frames := 0, cells := 0, slots := 0, locals := 0 } : Room).cells ({ frames := 0, cells := 0, slots := 0, locals := 0 } : Room).slots) := by
  refine MetFree.of_bodySF (plainFor_of_name pn_2) hisR ?_
  intro p e s m args below meth c s₁ Bd hml0 hP hK
  obtain ⟨rfl, hZ, hh⟩ := hP
  have hx := Bd.exec
  have hby := Bd.bytes
  have hml : c.maxLocals = 5 := hml0
  have hown : s.vm.findClass "com/example/thin_gateway/thingateway/avro/AvroDecoderReadIntPinLaw" = some m.cls := findClass_of_methodNamed Bd.named
  have hnm := (name_of_methodNamed Bd.named Bd.method).1
  have X0 : Stand p l e ({ frames := 0, cells := 0, slots := 0, locals := 0 } : Room) s m #[(.int p0), (.long q1), (.int p2)] below meth c s₁ [] 0 0 := Stand.of_body Bd
  have e0 : s₁.heap = h0 := by rw [← hh, Bd.state]; rfl
  have N0 := Fr.nil n0
  have Kp0 : Keep h0 h0 [] := Keep.refl _ _
  have K0 : Steps p.tables e below (s₁.setTop (entryFrame m #[(.int p0), (.long q1), (.int p2)] 5)) (s₁.setTop (mkF m 0 #[.val (.int p0), .val (.long q1), .second, .val (.int p2), .unset] [])) := castTop (ef_2 m p0 q1 p2) (Steps.refl _)
  have K1 : Steps p.tables e below _ (s₁.setTop (mkF m 2 #[.val (.int p0), .val (.long q1), .second, .val (.int p2), .unset] [(.int p2), (.int p0)])) := K0.trans (by
    show Steps p.tables e below (s₁.setTop (mkF m 0 #[.val (.int p0), .val (.long q1), .second, .val (.int p2), .unset] [])) _
    refine XS.iloadN X0.here hx rfl (hb hby d2_0) rfl ?_
    show Steps p.tables e below (s₁.setTop (mkF m 1 #[.val (.int p0), .val (.long q1), .second, .val (.int p2), .unset] [(.int p0)])) _
    refine XS.iloadN X0.here hx rfl (hb hby d2_1) rfl ?_
    show Steps p.tables e below (s₁.setTop (mkF m 2 #[.val (.int p0), .val (.long q1), .second, .val (.int p2), .unset] [(.int p2), (.int p0)])) _
    exact Steps.refl _)
  by_cases hc2 : p0 < p2
  · have K2 : Steps p.tables e below _ (s₁.setTop (mkF m 22 #[.val (.int p0), .val (.long q1), .second, .val (.int p2), .val (.int ((((q1.toUInt64 >>> (((7 : Int32) * p0) &&& 0x3f).toInt64.toUInt64).toInt64) &&& (127 : Int64)).toInt32))] [(.int (p2 - (1 : Int32))), (.int p0)])) := K1.trans (by
      show Steps p.tables e below (s₁.setTop (mkF m 2 #[.val (.int p0), .val (.long q1), .second, .val (.int p2), .unset] [(.int p2), (.int p0)])) _
      refine XS.icmpNo X0.here hx rfl (hb hby d2_2) rfl (tlt hc2).2.1 ?_
      show Steps p.tables e below (s₁.setTop (mkF m 5 #[.val (.int p0), .val (.long q1), .second, .val (.int p2), .unset] [])) _
      refine XS.lloadN X0.here hx rfl (hb hby d2_5) rfl ?_
      show Steps p.tables e below (s₁.setTop (mkF m 6 #[.val (.int p0), .val (.long q1), .second, .val (.int p2), .unset] [(.long q1)])) _
      refine XS.bipush X0.here hx rfl (hb hby d2_6) ?_
      show Steps p.tables e below (s₁.setTop (mkF m 8 #[.val (.int p0), .val (.long q1), .second, .val (.int p2), .unset] [(.int (7 : Int32)), (.long q1)])) _
      refine XS.iloadN X0.here hx rfl (hb hby d2_8) rfl ?_
      show Steps p.tables e below (s₁.setTop (mkF m 9 #[.val (.int p0), .val (.long q1), .second, .val (.int p2), .unset] [(.int p0), (.int (7 : Int32)), (.long q1)])) _
      refine XS.imul X0.here hx rfl (hb hby d2_9) rfl ?_
      show Steps p.tables e below (s₁.setTop (mkF m 10 #[.val (.int p0), .val (.long q1), .second, .val (.int p2), .unset] [(.int ((7 : Int32) * p0)), (.long q1)])) _
      refine XS.lushr X0.here hx rfl (hb hby d2_10) rfl ?_
      show Steps p.tables e below (s₁.setTop (mkF m 11 #[.val (.int p0), .val (.long q1), .second, .val (.int p2), .unset] [(.long ((q1.toUInt64 >>> (((7 : Int32) * p0) &&& 0x3f).toInt64.toUInt64).toInt64))])) _
      refine X0.ldc2Long hx hown (mvT hZ (hw _ (List.mem_of_getElem? (i := 11) rfl))) (g := (mkF m 11 #[.val (.int p0), .val (.long q1), .second, .val (.int p2), .unset] [(.long ((q1.toUInt64 >>> (((7 : Int32) * p0) &&& 0x3f).toInt64.toUInt64).toInt64))])) rfl (hb hby d2_11) _ ?_
      show Steps p.tables e below (s₁.setTop (mkF m 14 #[.val (.int p0), .val (.long q1), .second, .val (.int p2), .unset] [(.long (127 : Int64)), (.long ((q1.toUInt64 >>> (((7 : Int32) * p0) &&& 0x3f).toInt64.toUInt64).toInt64))])) _
      refine XS.land X0.here hx rfl (hb hby d2_14) rfl ?_
      show Steps p.tables e below (s₁.setTop (mkF m 15 #[.val (.int p0), .val (.long q1), .second, .val (.int p2), .unset] [(.long (((q1.toUInt64 >>> (((7 : Int32) * p0) &&& 0x3f).toInt64.toUInt64).toInt64) &&& (127 : Int64)))])) _
      refine XS.l2i X0.here hx rfl (hb hby d2_15) rfl ?_
      show Steps p.tables e below (s₁.setTop (mkF m 16 #[.val (.int p0), .val (.long q1), .second, .val (.int p2), .unset] [(.int ((((q1.toUInt64 >>> (((7 : Int32) * p0) &&& 0x3f).toInt64.toUInt64).toInt64) &&& (127 : Int64)).toInt32))])) _
      refine XS.istore X0.here hx rfl (hb hby d2_16) rfl (l' := #[.val (.int p0), .val (.long q1), .second, .val (.int p2), .val (.int ((((q1.toUInt64 >>> (((7 : Int32) * p0) &&& 0x3f).toInt64.toUInt64).toInt64) &&& (127 : Int64)).toInt32))]) rfl ?_
      show Steps p.tables e below (s₁.setTop (mkF m 18 #[.val (.int p0), .val (.long q1), .second, .val (.int p2), .val (.int ((((q1.toUInt64 >>> (((7 : Int32) * p0) &&& 0x3f).toInt64.toUInt64).toInt64) &&& (127 : Int64)).toInt32))] [])) _
      refine XS.iloadN X0.here hx rfl (hb hby d2_18) rfl ?_
      show Steps p.tables e below (s₁.setTop (mkF m 19 #[.val (.int p0), .val (.long q1), .second, .val (.int p2), .val (.int ((((q1.toUInt64 >>> (((7 : Int32) * p0) &&& 0x3f).toInt64.toUInt64).toInt64) &&& (127 : Int64)).toInt32))] [(.int p0)])) _
      refine XS.iloadN X0.here hx rfl (hb hby d2_19) rfl ?_
      show Steps p.tables e below (s₁.setTop (mkF m 20 #[.val (.int p0), .val (.long q1), .second, .val (.int p2), .val (.int ((((q1.toUInt64 >>> (((7 : Int32) * p0) &&& 0x3f).toInt64.toUInt64).toInt64) &&& (127 : Int64)).toInt32))] [(.int p2), (.int p0)])) _
      refine XS.iconst X0.here hx rfl (hb hby d2_20) ?_
      show Steps p.tables e below (s₁.setTop (mkF m 21 #[.val (.int p0), .val (.long q1), .second, .val (.int p2), .val (.int ((((q1.toUInt64 >>> (((7 : Int32) * p0) &&& 0x3f).toInt64.toUInt64).toInt64) &&& (127 : Int64)).toInt32))] [(.int (1 : Int32)), (.int p2), (.int p0)])) _
      refine XS.isub X0.here hx rfl (hb hby d2_21) rfl ?_
      show Steps p.tables e below (s₁.setTop (mkF m 22 #[.val (.int p0), .val (.long q1), .second, .val (.int p2), .val (.int ((((q1.toUInt64 >>> (((7 : Int32) * p0) &&& 0x3f).toInt64.toUInt64).toInt64) &&& (127 : Int64)).toInt32))] [(.int (p2 - (1 : Int32))), (.int p0)])) _
      exact Steps.refl _)
    by_cases hc22 : p0 < (p2 - (1 : Int32))
    · have K3 : Steps p.tables e below _ (s₁.setTop (mkF m 32 #[.val (.int p0), .val (.long q1), .second, .val (.int p2), .val (.int ((((q1.toUInt64 >>> (((7 : Int32) * p0) &&& 0x3f).toInt64.toUInt64).toInt64) &&& (127 : Int64)).toInt32))] [(.int ((((((q1.toUInt64 >>> (((7 : Int32) * p0) &&& 0x3f).toInt64.toUInt64).toInt64) &&& (127 : Int64)).toInt32) ||| (128 : Int32)).toInt8.toInt32))])) := K2.trans (by
        show Steps p.tables e below (s₁.setTop (mkF m 22 #[.val (.int p0), .val (.long q1), .second, .val (.int p2), .val (.int ((((q1.toUInt64 >>> (((7 : Int32) * p0) &&& 0x3f).toInt64.toUInt64).toInt64) &&& (127 : Int64)).toInt32))] [(.int (p2 - (1 : Int32))), (.int p0)])) _
        refine XS.icmpNo X0.here hx rfl (hb hby d2_22) rfl (tlt hc22).2.1 ?_
        show Steps p.tables e below (s₁.setTop (mkF m 25 #[.val (.int p0), .val (.long q1), .second, .val (.int p2), .val (.int ((((q1.toUInt64 >>> (((7 : Int32) * p0) &&& 0x3f).toInt64.toUInt64).toInt64) &&& (127 : Int64)).toInt32))] [])) _
        refine XS.iload X0.here hx rfl (hb hby d2_25) rfl ?_
        show Steps p.tables e below (s₁.setTop (mkF m 27 #[.val (.int p0), .val (.long q1), .second, .val (.int p2), .val (.int ((((q1.toUInt64 >>> (((7 : Int32) * p0) &&& 0x3f).toInt64.toUInt64).toInt64) &&& (127 : Int64)).toInt32))] [(.int ((((q1.toUInt64 >>> (((7 : Int32) * p0) &&& 0x3f).toInt64.toUInt64).toInt64) &&& (127 : Int64)).toInt32))])) _
        refine XS.sipush X0.here hx rfl (hb hby d2_27) ?_
        show Steps p.tables e below (s₁.setTop (mkF m 30 #[.val (.int p0), .val (.long q1), .second, .val (.int p2), .val (.int ((((q1.toUInt64 >>> (((7 : Int32) * p0) &&& 0x3f).toInt64.toUInt64).toInt64) &&& (127 : Int64)).toInt32))] [(.int (128 : Int32)), (.int ((((q1.toUInt64 >>> (((7 : Int32) * p0) &&& 0x3f).toInt64.toUInt64).toInt64) &&& (127 : Int64)).toInt32))])) _
        refine XS.ior X0.here hx rfl (hb hby d2_30) rfl ?_
        show Steps p.tables e below (s₁.setTop (mkF m 31 #[.val (.int p0), .val (.long q1), .second, .val (.int p2), .val (.int ((((q1.toUInt64 >>> (((7 : Int32) * p0) &&& 0x3f).toInt64.toUInt64).toInt64) &&& (127 : Int64)).toInt32))] [(.int (((((q1.toUInt64 >>> (((7 : Int32) * p0) &&& 0x3f).toInt64.toUInt64).toInt64) &&& (127 : Int64)).toInt32) ||| (128 : Int32)))])) _
        refine XS.i2b X0.here hx rfl (hb hby d2_31) rfl ?_
        show Steps p.tables e below (s₁.setTop (mkF m 32 #[.val (.int p0), .val (.long q1), .second, .val (.int p2), .val (.int ((((q1.toUInt64 >>> (((7 : Int32) * p0) &&& 0x3f).toInt64.toUInt64).toInt64) &&& (127 : Int64)).toInt32))] [(.int ((((((q1.toUInt64 >>> (((7 : Int32) * p0) &&& 0x3f).toInt64.toUInt64).toInt64) &&& (127 : Int64)).toInt32) ||| (128 : Int32)).toInt8.toInt32))])) _
        exact Steps.refl _)
      obtain ⟨fs, hr, hrun, hended, hW, hsame⟩ := X0.leave (v := some (.int (((((((q1.toUInt64 >>> (((7 : Int32) * p0) &&& 0x3f).toInt64.toUInt64).toInt64) &&& (127 : Int64)).toInt32) ||| (128 : Int32)).toInt8.toInt32).toInt8.toInt32))) (fun h => by rw [Bd.returns] at h; cases h)
      refine ⟨_, _, K3.trans (retN X0 hx (t := .byte) Bd.returns (by simp) (hb hby d2_32) hr), hrun, hended, _, _, rfl, ?_, ⟨_, rfl⟩, hW, hsame.mono (by decide) (by first | decide | omega)⟩
      show Q_rm2 Z p0 q1 p2 h0 n0 _ s₁.heap _
      rw [e0]
      exact ⟨(by unfold f_rm2; rw [if_pos hc2, if_pos hc22]), N0, rfl⟩
    · have K4 : Steps p.tables e below _ (s₁.setTop (mkF m 36 #[.val (.int p0), .val (.long q1), .second, .val (.int p2), .val (.int ((((q1.toUInt64 >>> (((7 : Int32) * p0) &&& 0x3f).toInt64.toUInt64).toInt64) &&& (127 : Int64)).toInt32))] [(.int (((((q1.toUInt64 >>> (((7 : Int32) * p0) &&& 0x3f).toInt64.toUInt64).toInt64) &&& (127 : Int64)).toInt32).toInt8.toInt32))])) := K2.trans (by
        show Steps p.tables e below (s₁.setTop (mkF m 22 #[.val (.int p0), .val (.long q1), .second, .val (.int p2), .val (.int ((((q1.toUInt64 >>> (((7 : Int32) * p0) &&& 0x3f).toInt64.toUInt64).toInt64) &&& (127 : Int64)).toInt32))] [(.int (p2 - (1 : Int32))), (.int p0)])) _
        refine XS.icmpYes X0.here hx rfl (pc0 := 22) (pc' := 33) rfl (hb hby d2_22) rfl (flt hc22).2.1 (by decide) (by decide) ?_
        show Steps p.tables e below (s₁.setTop (mkF m 33 #[.val (.int p0), .val (.long q1), .second, .val (.int p2), .val (.int ((((q1.toUInt64 >>> (((7 : Int32) * p0) &&& 0x3f).toInt64.toUInt64).toInt64) &&& (127 : Int64)).toInt32))] [])) _
        refine XS.iload X0.here hx rfl (hb hby d2_33) rfl ?_
        show Steps p.tables e below (s₁.setTop (mkF m 35 #[.val (.int p0), .val (.long q1), .second, .val (.int p2), .val (.int ((((q1.toUInt64 >>> (((7 : Int32) * p0) &&& 0x3f).toInt64.toUInt64).toInt64) &&& (127 : Int64)).toInt32))] [(.int ((((q1.toUInt64 >>> (((7 : Int32) * p0) &&& 0x3f).toInt64.toUInt64).toInt64) &&& (127 : Int64)).toInt32))])) _
        refine XS.i2b X0.here hx rfl (hb hby d2_35) rfl ?_
        show Steps p.tables e below (s₁.setTop (mkF m 36 #[.val (.int p0), .val (.long q1), .second, .val (.int p2), .val (.int ((((q1.toUInt64 >>> (((7 : Int32) * p0) &&& 0x3f).toInt64.toUInt64).toInt64) &&& (127 : Int64)).toInt32))] [(.int (((((q1.toUInt64 >>> (((7 : Int32) * p0) &&& 0x3f).toInt64.toUInt64).toInt64) &&& (127 : Int64)).toInt32).toInt8.toInt32))])) _
        exact Steps.refl _)
      obtain ⟨fs, hr, hrun, hended, hW, hsame⟩ := X0.leave (v := some (.int ((((((q1.toUInt64 >>> (((7 : Int32) * p0) &&& 0x3f).toInt64.toUInt64).toInt64) &&& (127 : Int64)).toInt32).toInt8.toInt32).toInt8.toInt32))) (fun h => by rw [Bd.returns] at h; cases h)
      refine ⟨_, _, K4.trans (retN X0 hx (t := .byte) Bd.returns (by simp) (hb hby d2_36) hr), hrun, hended, _, _, rfl, ?_, ⟨_, rfl⟩, hW, hsame.mono (by decide) (by first | decide | omega)⟩
      show Q_rm2 Z p0 q1 p2 h0 n0 _ s₁.heap _
      rw [e0]
      exact ⟨(by unfold f_rm2; rw [if_pos hc2, if_neg hc22]), N0, rfl⟩
  · have K5 : Steps p.tables e below _ (s₁.setTop (mkF m 40 #[.val (.int p0), .val (.long q1), .second, .val (.int p2), .unset] [(.int (9 : Int32)), (.int p0)])) := K1.trans (by
      show Steps p.tables e below (s₁.setTop (mkF m 2 #[.val (.int p0), .val (.long q1), .second, .val (.int p2), .unset] [(.int p2), (.int p0)])) _
      refine XS.icmpYes X0.here hx rfl (pc0 := 2) (pc' := 37) rfl (hb hby d2_2) rfl (flt hc2).2.1 (by decide) (by decide) ?_
      show Steps p.tables e below (s₁.setTop (mkF m 37 #[.val (.int p0), .val (.long q1), .second, .val (.int p2), .unset] [])) _
      refine XS.iloadN X0.here hx rfl (hb hby d2_37) rfl ?_
      show Steps p.tables e below (s₁.setTop (mkF m 38 #[.val (.int p0), .val (.long q1), .second, .val (.int p2), .unset] [(.int p0)])) _
      refine XS.bipush X0.here hx rfl (hb hby d2_38) ?_
      show Steps p.tables e below (s₁.setTop (mkF m 40 #[.val (.int p0), .val (.long q1), .second, .val (.int p2), .unset] [(.int (9 : Int32)), (.int p0)])) _
      exact Steps.refl _)
    by_cases hc40 : p0 < (9 : Int32)
    · have K6 : Steps p.tables e below _ (s₁.setTop (mkF m 45 #[.val (.int p0), .val (.long q1), .second, .val (.int p2), .unset] [(.int (-128 : Int32))])) := K5.trans (by
        show Steps p.tables e below (s₁.setTop (mkF m 40 #[.val (.int p0), .val (.long q1), .second, .val (.int p2), .unset] [(.int (9 : Int32)), (.int p0)])) _
        refine XS.icmpNo X0.here hx rfl (hb hby d2_40) rfl (tlt hc40).2.1 ?_
        show Steps p.tables e below (s₁.setTop (mkF m 43 #[.val (.int p0), .val (.long q1), .second, .val (.int p2), .unset] [])) _
        refine XS.bipush X0.here hx rfl (hb hby d2_43) ?_
        show Steps p.tables e below (s₁.setTop (mkF m 45 #[.val (.int p0), .val (.long q1), .second, .val (.int p2), .unset] [(.int (-128 : Int32))])) _
        exact Steps.refl _)
      obtain ⟨fs, hr, hrun, hended, hW, hsame⟩ := X0.leave (v := some (.int ((-128 : Int32).toInt8.toInt32))) (fun h => by rw [Bd.returns] at h; cases h)
      refine ⟨_, _, K6.trans (retN X0 hx (t := .byte) Bd.returns (by simp) (hb hby d2_45) hr), hrun, hended, _, _, rfl, ?_, ⟨_, rfl⟩, hW, hsame.mono (by decide) (by first | decide | omega)⟩
      show Q_rm2 Z p0 q1 p2 h0 n0 _ s₁.heap _
      rw [e0]
      exact ⟨(by unfold f_rm2; rw [if_neg hc2, if_pos hc40]), N0, rfl⟩
    · have K7 : Steps p.tables e below _ (s₁.setTop (mkF m 47 #[.val (.int p0), .val (.long q1), .second, .val (.int p2), .unset] [(.int (0 : Int32))])) := K5.trans (by
        show Steps p.tables e below (s₁.setTop (mkF m 40 #[.val (.int p0), .val (.long q1), .second, .val (.int p2), .unset] [(.int (9 : Int32)), (.int p0)])) _
        refine XS.icmpYes X0.here hx rfl (pc0 := 40) (pc' := 46) rfl (hb hby d2_40) rfl (flt hc40).2.1 (by decide) (by decide) ?_
        show Steps p.tables e below (s₁.setTop (mkF m 46 #[.val (.int p0), .val (.long q1), .second, .val (.int p2), .unset] [])) _
        refine XS.iconst X0.here hx rfl (hb hby d2_46) ?_
        show Steps p.tables e below (s₁.setTop (mkF m 47 #[.val (.int p0), .val (.long q1), .second, .val (.int p2), .unset] [(.int (0 : Int32))])) _
        exact Steps.refl _)
      obtain ⟨fs, hr, hrun, hended, hW, hsame⟩ := X0.leave (v := some (.int ((0 : Int32).toInt8.toInt32))) (fun h => by rw [Bd.returns] at h; cases h)
      refine ⟨_, _, K7.trans (retN X0 hx (t := .byte) Bd.returns (by simp) (hb hby d2_47) hr), hrun, hended, _, _, rfl, ?_, ⟨_, rfl⟩, hW, hsame.mono (by decide) (by first | decide | omega)⟩
      show Q_rm2 Z p0 q1 p2 h0 n0 _ s₁.heap _
      rw [e0]
      exact ⟨(by unfold f_rm2; rw [if_neg hc2, if_neg hc40]), N0, rfl⟩
theorem d6_0 : decode prog_1_method_3_code 0 = .ok (.aload_n 0, 1) := by decide +kernel
theorem d6_1 : decode prog_1_method_3_code 1 = .ok (.getfield 21, 3) := by decide +kernel
theorem d6_4 : decode prog_1_method_3_code 4 = .ok (.istore_n 1, 1) := by decide +kernel
theorem d6_5 : decode prog_1_method_3_code 5 = .ok (.aload_n 0, 1) := by decide +kernel
theorem pd_1 : parseMethodDescriptor "()J" = some ⟨[], some .long⟩ := by decide +kernel
theorem d6_6 : decode prog_1_method_3_code 6 = .ok (.invokevirtual 25, 3) := by decide +kernel
theorem d6_9 : decode prog_1_method_3_code 9 = .ok (.lstore_n 2, 1) := by decide +kernel
theorem d6_10 : decode prog_1_method_3_code 10 = .ok (.lload_n 2, 1) := by decide +kernel
theorem d6_11 : decode prog_1_method_3_code 11 = .ok (.ldc2_w 31, 3) := by decide +kernel
theorem d6_14 : decode prog_1_method_3_code 14 = .ok (.lcmp, 1) := by decide +kernel
theorem d6_15 : decode prog_1_method_3_code 15 = .ok (.ifCond .lt 11, 3) := by decide +kernel
theorem d6_18 : decode prog_1_method_3_code 18 = .ok (.lload_n 2, 1) := by decide +kernel
theorem d6_19 : decode prog_1_method_3_code 19 = .ok (.ldc2_w 33, 3) := by decide +kernel
theorem d6_22 : decode prog_1_method_3_code 22 = .ok (.lcmp, 1) := by decide +kernel
theorem d6_23 : decode prog_1_method_3_code 23 = .ok (.ifCond .le 17, 3) := by decide +kernel
theorem d6_40 : decode prog_1_method_3_code 40 = .ok (.lload_n 2, 1) := by decide +kernel
theorem d6_41 : decode prog_1_method_3_code 41 = .ok (.l2i, 1) := by decide +kernel
def f_rm6 (vs : List Value) (n : Int32) : Int32 := ((f_rm7 vs n).toInt32)
def Q_rm6 (Z : State) (o0 : Addr) (ia : Addr) (ka : ClassId) (z : Int32) (vs : List Value) (n : Int32) (h0 : Heap) (n0 : Nat) (v : Option Value) (h : Heap) (L : List Loc) : Prop := v = some (.int (f_rm6 vs n)) ∧ Fr n0 L ∧ Keep h0 h [o0] ∧ Exa Z h o0 "com/example/thin_gateway/thingateway/avro/AvroDecoder" ∧ Fld Z h o0 "com/example/thin_gateway/thingateway/avro/AvroDecoder" "input" "[B" (.ref ia) ∧ Fld Z h o0 "com/example/thin_gateway/thingateway/avro/AvroDecoder" "position" "I" (.int (rl 10 vs n (0 : Int64) (0 : Int32)).2)
theorem pn_6 : plainName "com/example/thin_gateway/thingateway/avro/AvroDecoder" = true := by first | (simp [plainName, overriddenIn]; done) | decide +kernel
theorem ef_6 (m : MethodId) (x0 : Addr) : entryFrame m #[(.ref x0)] 4 = mkF m 0 #[.val (.ref x0), .unset, .unset, .unset] [] := by first | (simp [entryFrame, mkF, argsToLocals, Value.category]; done) | rfl
theorem d6_42 : decode prog_1_method_3_code 42 = .ok (.ireturn, 1) := by decide +kernel
set_option maxRecDepth 65536 in
set_option maxHeartbeats 40000000 in
theorem rm6 (l : Launch) (Z : State) (a0 : Array Value) (hw : ∀ d ∈ tables_1, d.before a0 Z = true) (ws : List Jvm.Cond) (o0 : Addr) (ia : Addr) (ka : ClassId) (z : Int32) (vs : List Value) (n : Int32) (h0 : Heap) (n0 : Nat) (Z0 : n0 ≤ h0.size) (E_o0 : Exa Z h0 o0 "com/example/thin_gateway/thingateway/avro/AvroDecoder") (F_input_o0 : Fld Z h0 o0 "com/example/thin_gateway/thingateway/avro/AvroDecoder" "input" "[B" (.ref ia)) (F_position_o0 : Fld Z h0 o0 "com/example/thin_gateway/thingateway/avro/AvroDecoder" "position" "I" (.int n)) (V_ia : Arv Z h0 ia ka .byte z vs (.int (0 : Int32))) (ne_o0_ia : o0 ≠ ia) (g_o0 : n0 ≤ o0) (hok : rok 10 vs z n (0 : Int32)) (hlo : ¬ ((f_rm7 vs n) < (-2147483648 : Int64))) (hhi : ¬ ((2147483647 : Int64) < (f_rm7 vs n))) :
    MetFree l (⟨"com/example/thin_gateway/thingateway/avro/AvroDecoder", "readInt", "()I"⟩ : MethodName) (head1 (Jvm.Cond.code (⟨"com/example/thin_gateway/thingateway/avro/AvroDecoder", "readInt", "()I"⟩ : MethodName) prog_1_method_3_code 4 (some .int) :: ws) ({ frames := 1, cells := 0, slots := 0, locals := 18 } : Room)) (fun a U => a = #[(.ref o0)] ∧ Z.Warmed39 U.vm ∧ U.heap = h0) (fun _ _ _ _ _ => True) (fun _ U o U' => ∃ v L, o = .returned v ∧ Q_rm6 Z o0 ia ka z vs n h0 n0 v U'.heap L ∧ FrameEnd U o U' L ({ frames := 1, cells := 0, slots := 0, locals := 18 } : Room).cells ({ frames := 1, cells := 0, slots := 0, locals := 18 } : Room).slots) := by
  refine MetFree.of_bodySF (plainFor_of_name pn_6) hisR ?_
  intro p e s m args below meth c s₁ Bd hml0 hP hK
  obtain ⟨rfl, hZ, hh⟩ := hP
  have hx := Bd.exec
  have hby := Bd.bytes
  have hml : c.maxLocals = 4 := hml0
  have hown : s.vm.findClass "com/example/thin_gateway/thingateway/avro/AvroDecoder" = some m.cls := findClass_of_methodNamed Bd.named
  have hnm := (name_of_methodNamed Bd.named Bd.method).1
  have X0 : Stand p l e ({ frames := 1, cells := 0, slots := 0, locals := 18 } : Room) s m #[(.ref o0)] below meth c s₁ [] 0 0 := Stand.of_body Bd
  have e0 : s₁.heap = h0 := by rw [← hh, Bd.state]; rfl
  have N0 := Fr.nil n0
  have Kp0 : Keep h0 h0 [o0] := Keep.refl _ _
  have K0 : Steps p.tables e below (s₁.setTop (entryFrame m #[(.ref o0)] 4)) (s₁.setTop (mkF m 0 #[.val (.ref o0), .unset, .unset, .unset] [])) := castTop (ef_6 m o0) (Steps.refl _)
  have K1 : Steps p.tables e below _ (s₁.setTop (mkF m 1 #[.val (.ref o0), .unset, .unset, .unset] [(.ref o0)])) := K0.trans (by
    show Steps p.tables e below (s₁.setTop (mkF m 0 #[.val (.ref o0), .unset, .unset, .unset] [])) _
    refine XS.aloadN X0.here hx rfl (hb hby d6_0) rfl rfl ?_
    show Steps p.tables e below (s₁.setTop (mkF m 1 #[.val (.ref o0), .unset, .unset, .unset] [(.ref o0)])) _
    exact Steps.refl _)
  obtain ⟨T2, X2, e2, st2⟩ := getF X0 hx hZ hown (host := "") (Or.inl (hw _ (List.mem_of_getElem? (i := 41) rfl))) Via.refl e0 F_position_o0 (g := (mkF m 1 #[.val (.ref o0), .unset, .unset, .unset] [(.ref o0)])) rfl rfl (hb hby d6_1)
  have K3 : Steps p.tables e below _ (T2.setTop (mkF m 4 #[.val (.ref o0), .unset, .unset, .unset] [(.int n)])) := K1.trans (st2 _ (Steps.refl _))
  have K4 : Steps p.tables e below _ (T2.setTop (mkF m 6 #[.val (.ref o0), .val (.int n), .unset, .unset] [(.ref o0)])) := K3.trans (by
    show Steps p.tables e below (T2.setTop (mkF m 4 #[.val (.ref o0), .unset, .unset, .unset] [(.int n)])) _
    refine XS.istoreN X2.here hx rfl (hb hby d6_4) rfl (l' := #[.val (.ref o0), .val (.int n), .unset, .unset]) rfl ?_
    show Steps p.tables e below (T2.setTop (mkF m 5 #[.val (.ref o0), .val (.int n), .unset, .unset] [])) _
    refine XS.aloadN X2.here hx rfl (hb hby d6_5) rfl rfl ?_
    show Steps p.tables e below (T2.setTop (mkF m 6 #[.val (.ref o0), .val (.int n), .unset, .unset] [(.ref o0)])) _
    exact Steps.refl _)
  obtain ⟨cq5, kq5, q5a, q5b, q5c⟩ := isOf hZ e2 E_o0
  obtain ⟨_, _, ⟨T5, L5, k5, n5⟩, -, X5, ⟨Lc5, hQ5, l5, y5, z5⟩, st5⟩ := X2.virtualBack hx (y := (⟨"com/example/thin_gateway/thingateway/avro/AvroDecoder", "readLong", "()J"⟩ : MethodName)) (z := (⟨"com/example/thin_gateway/thingateway/avro/AvroDecoder", "readLong", "()J"⟩ : MethodName)) hown (mvT hZ (hw _ (List.mem_of_getElem? (i := 43) rfl))) (mvT hZ (hw _ (List.mem_of_getElem? (i := 44) rfl))) (notFace_of_selects (args := #[]) (mvT hZ (hw _ (List.mem_of_getElem? (i := 46) rfl)))) (mvT hZ (hw _ (List.mem_of_getElem? (i := 46) rfl))) (mvT hZ (hw _ (List.mem_of_getElem? (i := 45) rfl))) (by decide) (backOf (W := 0) (rm7 l Z a0 hw [] o0 ia ka z vs n h0 n0 Z0 E_o0 F_input_o0 F_position_o0 V_ia ne_o0_ia g_o0 (hok)) hZ (hw _ (List.mem_of_getElem? (i := 47) rfl)) (hw _ (List.mem_of_getElem? (i := 14) rfl)) (by decide) (by decide)) q5a q5c (g := (mkF m 6 #[.val (.ref o0), .val (.int n), .unset, .unset] [(.ref o0)])) rfl (by rw [hml]; rfl) K4 (argsL := []) (rest := []) (lenOf pd_1 rfl) rfl (by show 2 * 0 + _ ≤ _; exact Nat.le_of_eq rfl) (hb hby d6_6) (fun _ _ => ⟨rfl, e2, (by decide : 0 + 0 ≤ _), (by decide : 0 + 0 ≤ _)⟩)
  dsimp only [Pt.U, Pt.locs, Pt.cells, Pt.slots] at X5 l5 y5 z5 st5 hQ5
  subst l5 y5 z5
  obtain ⟨rfl, N5, Kp5, Q5_0, Q5_1, Q5_2⟩ := hQ5
  have N5' := Fr.app N0 N5
  have K6 : Steps p.tables e below _ (T5.setTop (mkF m 9 #[.val (.ref o0), .val (.int n), .unset, .unset] [(.long (f_rm7 vs n))])) := st5
  have K8 : Steps p.tables e below _ (T5.setTop (mkF m 15 #[.val (.ref o0), .val (.int n), .val (.long (f_rm7 vs n)), .second] [(.int (lcmpW (f_rm7 vs n) (-2147483648 : Int64)))])) := K6.trans (by
    show Steps p.tables e below (T5.setTop (mkF m 9 #[.val (.ref o0), .val (.int n), .unset, .unset] [(.long (f_rm7 vs n))])) _
    refine XS.lstoreN X5.here hx rfl (hb hby d6_9) rfl (l' := #[.val (.ref o0), .val (.int n), .val (.long (f_rm7 vs n)), .second]) rfl ?_
    show Steps p.tables e below (T5.setTop (mkF m 10 #[.val (.ref o0), .val (.int n), .val (.long (f_rm7 vs n)), .second] [])) _
    refine XS.lloadN X5.here hx rfl (hb hby d6_10) rfl ?_
    show Steps p.tables e below (T5.setTop (mkF m 11 #[.val (.ref o0), .val (.int n), .val (.long (f_rm7 vs n)), .second] [(.long (f_rm7 vs n))])) _
    refine X5.ldc2Long hx hown (mvT hZ (hw _ (List.mem_of_getElem? (i := 48) rfl))) (g := (mkF m 11 #[.val (.ref o0), .val (.int n), .val (.long (f_rm7 vs n)), .second] [(.long (f_rm7 vs n))])) rfl (hb hby d6_11) _ ?_
    show Steps p.tables e below (T5.setTop (mkF m 14 #[.val (.ref o0), .val (.int n), .val (.long (f_rm7 vs n)), .second] [(.long (-2147483648 : Int64)), (.long (f_rm7 vs n))])) _
    refine XS.lcmp X5.here hx rfl (hb hby d6_14) rfl ?_
    show Steps p.tables e below (T5.setTop (mkF m 15 #[.val (.ref o0), .val (.int n), .val (.long (f_rm7 vs n)), .second] [(.int (lcmpW (f_rm7 vs n) (-2147483648 : Int64)))])) _
    exact Steps.refl _)
  have hc15_6 : ¬ ((f_rm7 vs n) < (-2147483648 : Int64)) := hlo
  have K10 : Steps p.tables e below _ (T5.setTop (mkF m 23 #[.val (.ref o0), .val (.int n), .val (.long (f_rm7 vs n)), .second] [(.int (lcmpW (f_rm7 vs n) (2147483647 : Int64)))])) := K8.trans (by
    show Steps p.tables e below (T5.setTop (mkF m 15 #[.val (.ref o0), .val (.int n), .val (.long (f_rm7 vs n)), .second] [(.int (lcmpW (f_rm7 vs n) (-2147483648 : Int64)))])) _
    refine XS.ifNo X5.here hx rfl (hb hby d6_15) rfl ((if0 _ _).trans (flt (fun z => hc15_6 ((lw_lt (f_rm7 vs n) (-2147483648 : Int64)).mp z))).1) ?_
    show Steps p.tables e below (T5.setTop (mkF m 18 #[.val (.ref o0), .val (.int n), .val (.long (f_rm7 vs n)), .second] [])) _
    refine XS.lloadN X5.here hx rfl (hb hby d6_18) rfl ?_
    show Steps p.tables e below (T5.setTop (mkF m 19 #[.val (.ref o0), .val (.int n), .val (.long (f_rm7 vs n)), .second] [(.long (f_rm7 vs n))])) _
    refine X5.ldc2Long hx hown (mvT hZ (hw _ (List.mem_of_getElem? (i := 49) rfl))) (g := (mkF m 19 #[.val (.ref o0), .val (.int n), .val (.long (f_rm7 vs n)), .second] [(.long (f_rm7 vs n))])) rfl (hb hby d6_19) _ ?_
    show Steps p.tables e below (T5.setTop (mkF m 22 #[.val (.ref o0), .val (.int n), .val (.long (f_rm7 vs n)), .second] [(.long (2147483647 : Int64)), (.long (f_rm7 vs n))])) _
    refine XS.lcmp X5.here hx rfl (hb hby d6_22) rfl ?_
    show Steps p.tables e below (T5.setTop (mkF m 23 #[.val (.ref o0), .val (.int n), .val (.long (f_rm7 vs n)), .second] [(.int (lcmpW (f_rm7 vs n) (2147483647 : Int64)))])) _
    exact Steps.refl _)
  have hc23_8 : ¬ ((2147483647 : Int64) < (f_rm7 vs n)) := hhi
  have K11 : Steps p.tables e below _ (T5.setTop (mkF m 42 #[.val (.ref o0), .val (.int n), .val (.long (f_rm7 vs n)), .second] [(.int ((f_rm7 vs n).toInt32))])) := K10.trans (by
    show Steps p.tables e below (T5.setTop (mkF m 23 #[.val (.ref o0), .val (.int n), .val (.long (f_rm7 vs n)), .second] [(.int (lcmpW (f_rm7 vs n) (2147483647 : Int64)))])) _
    refine XS.ifYes X5.here hx rfl (pc0 := 23) (pc' := 40) rfl (hb hby d6_23) rfl ((if0 _ _).trans (flt (fun z => hc23_8 ((lw_gt (f_rm7 vs n) (2147483647 : Int64)).mp z))).2.2.2) (by decide) (by decide) ?_
    show Steps p.tables e below (T5.setTop (mkF m 40 #[.val (.ref o0), .val (.int n), .val (.long (f_rm7 vs n)), .second] [])) _
    refine XS.lloadN X5.here hx rfl (hb hby d6_40) rfl ?_
    show Steps p.tables e below (T5.setTop (mkF m 41 #[.val (.ref o0), .val (.int n), .val (.long (f_rm7 vs n)), .second] [(.long (f_rm7 vs n))])) _
    refine XS.l2i X5.here hx rfl (hb hby d6_41) rfl ?_
    show Steps p.tables e below (T5.setTop (mkF m 42 #[.val (.ref o0), .val (.int n), .val (.long (f_rm7 vs n)), .second] [(.int ((f_rm7 vs n).toInt32))])) _
    exact Steps.refl _)
  obtain ⟨fs, hr, hrun, hended, hW, hsame⟩ := X5.leave (v := some (.int ((f_rm7 vs n).toInt32))) (fun h => by rw [Bd.returns] at h; cases h)
  have K_12 : Keep h0 T5.heap [o0] := (Kp0.trans Kp5 (allS (Or.inl (List.mem_of_getElem? (i := 0) rfl)) all0))
  refine ⟨_, _, K11.trans (retOut X5 hx Bd.returns rfl (Or.inl ⟨rfl, Or.inl rfl, _, rfl⟩) (hb hby d6_42) hr), hrun, hended, _, _, rfl, ?_, ⟨_, rfl⟩, hW, hsame.mono (by decide) (by first | decide | omega)⟩
  show Q_rm6 Z o0 ia ka z vs n h0 n0 _ T5.heap _
  exact ⟨rfl, N5', K_12, Q5_0, Q5_1, Q5_2⟩
theorem own_nm {zz : Int64} {k : Int32} (h : f_rm1 zz = k) (hz : 0 ≤ zz.toInt ∧ zz.toInt < 4294967296) : (1 ≤ k.toInt ∧ k.toInt ≤ 5) ∧ zz.toInt % 18446744073709551616 < 2 ^ (7 * k.toInt.toNat) := by
  unfold f_rm1 at h
  by_cases c1 : zz < (128 : Int64)
  · rw [if_pos c1] at h
    subst h
    rw [own_lt64, show (128 : Int64).toInt = 128 from rfl] at c1
    refine ⟨by decide, ?_⟩
    show zz.toInt % 18446744073709551616 < (2 : Int) ^ 7
    omega
  rw [if_neg c1] at h
  by_cases c2 : zz < (16384 : Int64)
  · rw [if_pos c2] at h
    subst h
    rw [own_lt64, show (16384 : Int64).toInt = 16384 from rfl] at c2
    refine ⟨by decide, ?_⟩
    show zz.toInt % 18446744073709551616 < (2 : Int) ^ 14
    omega
  rw [if_neg c2] at h
  by_cases c3 : zz < (2097152 : Int64)
  · rw [if_pos c3] at h
    subst h
    rw [own_lt64, show (2097152 : Int64).toInt = 2097152 from rfl] at c3
    refine ⟨by decide, ?_⟩
    show zz.toInt % 18446744073709551616 < (2 : Int) ^ 21
    omega
  rw [if_neg c3] at h
  by_cases c4 : zz < (268435456 : Int64)
  · rw [if_pos c4] at h
    subst h
    rw [own_lt64, show (268435456 : Int64).toInt = 268435456 from rfl] at c4
    refine ⟨by decide, ?_⟩
    show zz.toInt % 18446744073709551616 < (2 : Int) ^ 28
    omega
  rw [if_neg c4] at h
  subst h
  refine ⟨by decide, ?_⟩
  show zz.toInt % 18446744073709551616 < (2 : Int) ^ 35
  omega
theorem own_zr {v : Int32} {zz : Int64} (hzz : ((((v <<< ((1 : Int32) &&& 31)) ^^^ (v >>> ((31 : Int32) &&& 31))).toInt64) &&& (4294967295 : Int64)) = zz) : zz.toInt = (if 0 ≤ v.toInt then 2 * v.toInt else -2 * v.toInt - 1) ∧ (0 ≤ zz.toInt ∧ zz.toInt < 4294967296) := by
  have h1 := Jvm.RoadKit.c_maskL (((v <<< ((1 : Int32) &&& 31)) ^^^ (v >>> ((31 : Int32) &&& 31))).toInt64) (4294967295 : Int64) 32 (by decide) (by decide)
  rw [hzz, Jvm.RoadKit.c_i2l] at h1
  have h2 := own_zzi v
  have e : ((2 ^ 32 : Nat) : Int) = 4294967296 := by decide
  rw [e] at h1
  rw [← h2, ← h1]
  refine ⟨rfl, ?_⟩
  omega
theorem own_el3 {zz : Int64} {m s0 s1 s2 s3 s4 s5 s6 s7 s8 s9 : Int32} {vs : List Value} (hs0 : (f_rm2 (0 : Int32) zz m) = s0) (hs1 : (f_rm2 (1 : Int32) zz m) = s1) (hs2 : (f_rm2 (2 : Int32) zz m) = s2) (hs3 : (f_rm2 (3 : Int32) zz m) = s3) (hs4 : (f_rm2 (4 : Int32) zz m) = s4) (hs5 : (f_rm2 (5 : Int32) zz m) = s5) (hs6 : (f_rm2 (6 : Int32) zz m) = s6) (hs7 : (f_rm2 (7 : Int32) zz m) = s7) (hs8 : (f_rm2 (8 : Int32) zz m) = s8) (hs9 : (f_rm2 (9 : Int32) zz m) = s9) (hvs : [(.int (s0.toInt8.toInt32)), (.int (s1.toInt8.toInt32)), (.int (s2.toInt8.toInt32)), (.int (s3.toInt8.toInt32)), (.int (s4.toInt8.toInt32)), (.int (s5.toInt8.toInt32)), (.int (s6.toInt8.toInt32)), (.int (s7.toInt8.toInt32)), (.int (s8.toInt8.toInt32)), (.int (s9.toInt8.toInt32))] = vs) : ∀ q : Int32, 0 ≤ q.toInt → q.toInt < 10 → vs.getD q.toNatClampNeg (.int (0 : Int32)) = .int (own_by vs q) ∧ own_by vs q = (f_rm2 q zz m).toInt8.toInt32 := by
  intro q h1 h2
  have hc : q = 0 ∨ q = 1 ∨ q = 2 ∨ q = 3 ∨ q = 4 ∨ q = 5 ∨ q = 6 ∨ q = 7 ∨ q = 8 ∨ q = 9 := by
    simp only [← Int32.toInt_inj]
    show q.toInt = 0 ∨ q.toInt = 1 ∨ q.toInt = 2 ∨ q.toInt = 3 ∨ q.toInt = 4 ∨ q.toInt = 5 ∨ q.toInt = 6 ∨ q.toInt = 7 ∨ q.toInt = 8 ∨ q.toInt = 9
    omega
  subst hvs
  rcases hc with e | e | e | e | e | e | e | e | e | e
  · subst e; rw [hs0]; exact own_e _ (0 : Int32) 0 (s0.toInt8.toInt32) (by decide) rfl
  · subst e; rw [hs1]; exact own_e _ (1 : Int32) 1 (s1.toInt8.toInt32) (by decide) rfl
  · subst e; rw [hs2]; exact own_e _ (2 : Int32) 2 (s2.toInt8.toInt32) (by decide) rfl
  · subst e; rw [hs3]; exact own_e _ (3 : Int32) 3 (s3.toInt8.toInt32) (by decide) rfl
  · subst e; rw [hs4]; exact own_e _ (4 : Int32) 4 (s4.toInt8.toInt32) (by decide) rfl
  · subst e; rw [hs5]; exact own_e _ (5 : Int32) 5 (s5.toInt8.toInt32) (by decide) rfl
  · subst e; rw [hs6]; exact own_e _ (6 : Int32) 6 (s6.toInt8.toInt32) (by decide) rfl
  · subst e; rw [hs7]; exact own_e _ (7 : Int32) 7 (s7.toInt8.toInt32) (by decide) rfl
  · subst e; rw [hs8]; exact own_e _ (8 : Int32) 8 (s8.toInt8.toInt32) (by decide) rfl
  · subst e; rw [hs9]; exact own_e _ (9 : Int32) 9 (s9.toInt8.toInt32) (by decide) rfl
theorem own_ok3 {zz : Int64} {m : Int32} {vs : List Value} (El : ∀ q : Int32, 0 ≤ q.toInt → q.toInt < 10 → vs.getD q.toNatClampNeg (.int (0 : Int32)) = .int (own_by vs q) ∧ own_by vs q = (f_rm2 q zz m).toInt8.toInt32) (hm : 1 ≤ m.toInt ∧ m.toInt ≤ 10) : own_okb vs 0 m.toInt (zz.toInt % 18446744073709551616) := by
  intro i q hi hq
  obtain ⟨a, b⟩ := El q (by omega) (by omega)
  refine ⟨a, ?_⟩
  have e1 := own_z1
  have s := Jvm.RoadKit.c_isub m (1 : Int32)
  have s' := Jvm.RoadKit.rng32 (m - (1 : Int32))
  have n1 : q < m := by rw [own_lt32]; omega
  have ei : q.toInt.toNat = i := by omega
  rw [b]
  unfold f_rm2
  rw [if_pos n1]
  by_cases c : q < (m - (1 : Int32))
  · have c' := own_lt32.mp c
    rw [if_pos c]
    simp only [own_bb]
    rw [own_bytehi zz q (by omega), ei, if_pos (by omega)]
  · have c' : ¬ q.toInt < (m - (1 : Int32)).toInt := fun h => c (own_lt32.mpr h)
    rw [if_neg c]
    simp only [own_bb]
    rw [own_bytelo zz q (by omega), ei, if_neg (by omega), Int.add_zero]
theorem own_ok3b {zz : Int64} {m : Int32} {vs : List Value} (El : ∀ q : Int32, 0 ≤ q.toInt → q.toInt < 10 → vs.getD q.toNatClampNeg (.int (0 : Int32)) = .int (own_by vs q) ∧ own_by vs q = (f_rm2 q zz m).toInt8.toInt32) (hm : 1 ≤ m.toInt ∧ m.toInt ≤ 10) : own_okb vs m.toInt (10 - m.toInt) 0 := by
  intro i q hi hq
  obtain ⟨a, b⟩ := El q (by omega) (by omega)
  refine ⟨a, ?_⟩
  have n1 : ¬ q < m := by rw [own_lt32]; omega
  rw [b]
  unfold f_rm2
  rw [if_neg n1, Int.zero_ediv]
  by_cases c : q < (9 : Int32)
  · have c' := own_lt32.mp c
    rw [own_z9] at c'
    rw [if_pos c, if_pos (by omega)]
    decide
  · have c' : ¬ q.toInt < (9 : Int32).toInt := fun h => c (own_lt32.mpr h)
    rw [own_z9] at c'
    rw [if_neg c, if_neg (by omega)]
    decide
theorem own_main3 {v k p1 m : Int32} {zz : Int64} {vs : List Value} (hzz : ((((v <<< ((1 : Int32) &&& 31)) ^^^ (v >>> ((31 : Int32) &&& 31))).toInt64) &&& (4294967295 : Int64)) = zz) (hk : f_rm1 zz = k) (hm : (k + ((p1 &&& (2147483647 : Int32)) % ((11 : Int32) - k))) = m) (El : ∀ q : Int32, 0 ≤ q.toInt → q.toInt < 10 → vs.getD q.toNatClampNeg (.int (0 : Int32)) = .int (own_by vs q) ∧ own_by vs q = (f_rm2 q zz m).toInt8.toInt32) :
    rok 10 vs (10 : Int32) (0 : Int32) (0 : Int32) ∧ (rl 10 vs (0 : Int32) (0 : Int64) (0 : Int32)).2 = m ∧ (¬ (f_rm7 vs (0 : Int32) < (-2147483648 : Int64))) ∧ (¬ ((2147483647 : Int64) < f_rm7 vs (0 : Int32))) ∧ f_rm6 vs (0 : Int32) = v ∧ (1 ≤ m.toInt ∧ m.toInt ≤ 10) ∧ (m < (10 : Int32) → rok 10 vs (10 : Int32) m (0 : Int32) ∧ (rl 10 vs m (0 : Int64) (0 : Int32)).2 = (10 : Int32) ∧ (¬ (f_rm7 vs m < (-2147483648 : Int64))) ∧ (¬ ((2147483647 : Int64) < f_rm7 vs m)) ∧ f_rm6 vs m = (0 : Int32)) := by
  obtain ⟨z1, z2⟩ := own_zr hzz
  obtain ⟨k1, k2⟩ := own_nm hk z2
  have mr := own_mr k p1 m (by omega) hm
  have m1 : 1 ≤ m.toInt ∧ m.toInt ≤ 10 := by omega
  have e10 := own_z10
  have gv := Jvm.RoadKit.rng32 v
  obtain ⟨a1, a2, a3⟩ := own_rd0 vs (10 : Int32) (0 : Int32) 0 m.toInt (zz.toInt % 18446744073709551616) (by omega) (by omega) (by omega) (by omega) (by omega) (own_ok3 El m1) rfl
  have pm := own_pm (zz.toInt % 18446744073709551616) k.toInt.toNat m.toInt.toNat (by omega) k2
  rw [Int.emod_eq_of_lt (by omega) pm] at a3
  have w1 : (f_rm7 vs (0 : Int32)).toInt = v.toInt := by
    unfold f_rm7
    rw [own_uz]
    by_cases c : 0 ≤ v.toInt
    · rw [if_pos c] at z1
      rw [if_pos (by omega)]; omega
    · rw [if_neg c] at z1
      rw [if_neg (by omega)]; omega
  have lo : (-2147483648 : Int64).toInt = -2147483648 := rfl
  have hi : (2147483647 : Int64).toInt = 2147483647 := rfl
  have f6 : ∀ (n u : Int32), (f_rm7 vs n).toInt = u.toInt → f_rm6 vs n = u := by
    intro n u h
    apply Int32.toInt_inj.mp
    unfold f_rm6
    have c := Jvm.RoadKit.c_l2i (f_rm7 vs n)
    have c' := Jvm.RoadKit.rng32 ((f_rm7 vs n).toInt32)
    have c'' := Jvm.RoadKit.rng32 u
    omega
  refine ⟨a1, Int32.toInt_inj.mp (by omega), by rw [own_lt64, lo, w1]; omega, by rw [own_lt64, hi, w1]; omega, f6 _ _ w1, m1, ?_⟩
  intro hl
  rw [own_lt32, own_z10] at hl
  obtain ⟨b1, b2, b3⟩ := own_rd0 vs (10 : Int32) m m.toInt (10 - m.toInt) 0 (by omega) (by omega) (by omega) (by omega) (by omega) (own_ok3b El m1) rfl
  rw [Int.zero_emod] at b3
  have w2 : (f_rm7 vs m).toInt = (0 : Int32).toInt := by
    unfold f_rm7
    rw [own_uz, if_pos (by omega), own_z0]; omega
  have z0 := own_z0
  exact ⟨b1, Int32.toInt_inj.mp (by omega), by rw [own_lt64, lo, w2]; omega, by rw [own_lt64, hi, w2]; omega, f6 _ _ w2⟩
theorem own_nk {v k : Int32} {zz : Int64} (hzz : ((((v <<< ((1 : Int32) &&& 31)) ^^^ (v >>> ((31 : Int32) &&& 31))).toInt64) &&& (4294967295 : Int64)) = zz) (hk : f_rm1 zz = k) : 1 ≤ k.toInt ∧ k.toInt ≤ 10 := by
  have h := (own_nm hk (own_zr hzz).2).1
  omega
theorem own_ne10 {m r : Int32} (h : ((if m = (10 : Int32) then (1 : Int32) else (0 : Int32)) &&& 1) = r) (hm : m < (10 : Int32)) : r = (0 : Int32) := by
  have n : ¬ m = (10 : Int32) := by intro c; rw [c] at hm; exact Int32.lt_irrefl hm
  rw [if_neg n] at h
  exact h.symm

theorem pd_2 : parseMethodDescriptor "(J)I" = some ⟨[.long], some .int⟩ := by decide +kernel
theorem pd_3 : parseMethodDescriptor "(IJI)B" = some ⟨[.int, .long, .int], some .byte⟩ := by decide +kernel
theorem pd_4 : parseMethodDescriptor "([B)V" = some ⟨[(.array .byte)], none⟩ := by decide +kernel
theorem pd_5 : parseMethodDescriptor "()I" = some ⟨[], some .int⟩ := by decide +kernel
theorem pd_6 : parseMethodDescriptor "()Z" = some ⟨[], some .boolean⟩ := by decide +kernel
def Q_rm0 (n0 : Nat) (v : Option Value) (L : List Loc) : Prop := v = some (.int 1) ∧ Fr n0 L
theorem pn_0 : plainName "com/example/thin_gateway/thingateway/avro/AvroDecoderReadIntPinLaw" = true := by first | (simp [plainName, overriddenIn]; done) | decide +kernel
theorem ef_0 (m : MethodId) (x0 : Int32) (x1 : Int32) : entryFrame m #[(.int x0), (.int x1)] maxLocals = mkF m 0 #[.val (.int x0), .val (.int x1), .unset, .unset, .unset, .unset, .unset, .unset, .unset, .unset] [] := by first | (simp [entryFrame, mkF, argsToLocals, Value.category, maxLocals]; done) | rfl
set_option maxRecDepth 65536 in
set_option maxHeartbeats 4000000 in
theorem own_law_0 (p0 : Int32) (p1 : Int32) (zz : Int64) (r4 : Int32) (mm : Int32) (r13 : Int32) (r20 : Int32) (r27 : Int32) (r34 : Int32) (r41 : Int32) (r48 : Int32) (r55 : Int32) (r62 : Int32) (r69 : Int32) (r76 : Int32) (vsb : List Value) (r92 : Int32) (s97_0 : Slot) (v97_1 : Int32) (r124 : Int32) (hzz : ((((p0 <<< ((1 : Int32) &&& 31)) ^^^ (p0 >>> ((31 : Int32) &&& 31))).toInt64) &&& (4294967295 : Int64)) = zz) (hr4 : (f_rm1 zz) = r4) (hmm : (r4 + ((p1 &&& (2147483647 : Int32)) % ((11 : Int32) - r4))) = mm) (hr13 : (f_rm2 (0 : Int32) zz mm) = r13) (hr20 : (f_rm2 (1 : Int32) zz mm) = r20) (hr27 : (f_rm2 (2 : Int32) zz mm) = r27) (hr34 : (f_rm2 (3 : Int32) zz mm) = r34) (hr41 : (f_rm2 (4 : Int32) zz mm) = r41) (hr48 : (f_rm2 (5 : Int32) zz mm) = r48) (hr55 : (f_rm2 (6 : Int32) zz mm) = r55) (hr62 : (f_rm2 (7 : Int32) zz mm) = r62) (hr69 : (f_rm2 (8 : Int32) zz mm) = r69) (hr76 : (f_rm2 (9 : Int32) zz mm) = r76) (hvsb : [(.int (r13.toInt8.toInt32)), (.int (r20.toInt8.toInt32)), (.int (r27.toInt8.toInt32)), (.int (r34.toInt8.toInt32)), (.int (r41.toInt8.toInt32)), (.int (r48.toInt8.toInt32)), (.int (r55.toInt8.toInt32)), (.int (r62.toInt8.toInt32)), (.int (r69.toInt8.toInt32)), (.int (r76.toInt8.toInt32))] = vsb) (hr92 : (f_rm6 vsb (0 : Int32)) = r92) (hs97_0 : (if mm < (10 : Int32) then (Slot.val (.int (f_rm6 vsb mm))) else (Slot.unset)) = s97_0) (hv97_1 : (if mm < (10 : Int32) then (10 : Int32) else mm) = v97_1) (hr124 : ((if v97_1 = (10 : Int32) then (1 : Int32) else (0 : Int32)) &&& 1) = r124) (hc180_93 : r92 = p0) : (r124 &&& 1) = (1 : Int32) := by
  have hM := own_main3 hzz hr4 hmm (own_el3 hr13 hr20 hr27 hr34 hr41 hr48 hr55 hr62 hr69 hr76 hvsb)
  have m1 := hM.2.2.2.2.2.1
  have e : v97_1 = (10 : Int32) := by
    rw [← hv97_1]
    by_cases c : mm < (10 : Int32)
    · rw [if_pos c]
    · rw [if_neg c]
      apply Int32.toInt_inj.mp
      have z := own_z10
      have g : ¬ mm.toInt < (10 : Int32).toInt := fun h => c (own_lt32.mpr h)
      omega
  rw [if_pos e] at hr124
  subst hr124
  rfl
set_option maxRecDepth 65536 in
set_option maxHeartbeats 40000000 in
theorem rm0 (l : Launch) (Z : State) (a0 : Array Value) (hw : ∀ d ∈ tables_1, d.before a0 Z = true) (ws : List Jvm.Cond) (p0 : Int32) (p1 : Int32) (h0 : Heap) (n0 : Nat) (Z0 : n0 ≤ h0.size) :
    MetFree l x (head1 (Jvm.Cond.code x code maxLocals ret :: ws) room_1) (fun a U => a = #[(.int p0), (.int p1)] ∧ Z.Warmed39 U.vm ∧ U.heap = h0) (fun _ _ _ _ _ => True) (fun _ U o U' => ∃ v L, o = .returned v ∧ Q_rm0 n0 v L ∧ ReturnedEndW U o U' L 4 36) := by
  refine MetFree.of_bodySF (plainFor_of_name pn_0) hisR ?_
  intro p e s m args below meth c s₁ Bd hml0 hP hK
  obtain ⟨rfl, hZ, hh⟩ := hP
  have hx := Bd.exec
  have hby := Bd.bytes
  have hml : c.maxLocals = 10 := hml0
  have hown : s.vm.findClass "com/example/thin_gateway/thingateway/avro/AvroDecoderReadIntPinLaw" = some m.cls := findClass_of_methodNamed Bd.named
  have hnm := (name_of_methodNamed Bd.named Bd.method).1
  have X0 : Stand p l e room_1 s m #[(.int p0), (.int p1)] below meth c s₁ [] 0 0 := Stand.of_body Bd
  have e0 : s₁.heap = h0 := by rw [← hh, Bd.state]; rfl
  have N0 := Fr.nil n0
  have K0 : Steps p.tables e below (s₁.setTop (entryFrame m #[(.int p0), (.int p1)] maxLocals)) (s₁.setTop (mkF m 0 #[.val (.int p0), .val (.int p1), .unset, .unset, .unset, .unset, .unset, .unset, .unset, .unset] [])) := castTop (ef_0 m p0 p1) (Steps.refl _)
  have K1 : Steps p.tables e below _ (s₁.setTop (mkF m 13 #[.val (.int p0), .val (.int p1), .unset, .unset, .unset, .unset, .unset, .unset, .unset, .unset] [(.long ((((p0 <<< ((1 : Int32) &&& 31)) ^^^ (p0 >>> ((31 : Int32) &&& 31))).toInt64) &&& (4294967295 : Int64)))])) := K0.trans (by
    refine XS.iloadN X0.here hx rfl (hb hby at_0) rfl ?_
    refine XS.iconst X0.here hx rfl (hb hby at_1) ?_
    refine XS.ishl X0.here hx rfl (hb hby at_2) rfl ?_
    refine XS.iloadN X0.here hx rfl (hb hby at_3) rfl ?_
    refine XS.bipush X0.here hx rfl (hb hby at_4) ?_
    show Steps p.tables e below (s₁.setTop (mkF m 6 #[.val (.int p0), .val (.int p1), .unset, .unset, .unset, .unset, .unset, .unset, .unset, .unset] [(.int (31 : Int32)), (.int p0), (.int (p0 <<< ((1 : Int32) &&& 31)))])) _
    refine XS.ishr X0.here hx rfl (hb hby at_6) rfl ?_
    refine XS.ixor X0.here hx rfl (hb hby at_7) rfl ?_
    refine XS.i2l X0.here hx rfl (hb hby at_8) rfl ?_
    refine X0.ldc2Long hx hown (mvT hZ (hw _ (List.mem_of_getElem? (i := 0) rfl))) (g := (mkF m 9 #[.val (.int p0), .val (.int p1), .unset, .unset, .unset, .unset, .unset, .unset, .unset, .unset] [(.long (((p0 <<< ((1 : Int32) &&& 31)) ^^^ (p0 >>> ((31 : Int32) &&& 31))).toInt64))])) rfl (hb hby at_9) _ ?_
    refine XS.land X0.here hx rfl (hb hby at_12) rfl ?_
    show Steps p.tables e below (s₁.setTop (mkF m 13 #[.val (.int p0), .val (.int p1), .unset, .unset, .unset, .unset, .unset, .unset, .unset, .unset] [(.long ((((p0 <<< ((1 : Int32) &&& 31)) ^^^ (p0 >>> ((31 : Int32) &&& 31))).toInt64) &&& (4294967295 : Int64)))])) _
    exact Steps.refl _)
  obtain ⟨zz, hzz⟩ : ∃ z : Int64, ((((p0 <<< ((1 : Int32) &&& 31)) ^^^ (p0 >>> ((31 : Int32) &&& 31))).toInt64) &&& (4294967295 : Int64)) = z := ⟨_, rfl⟩
  rw [hzz] at K1
  have K2 : Steps p.tables e below _ (s₁.setTop (mkF m 15 #[.val (.int p0), .val (.int p1), .val (.long zz), .second, .unset, .unset, .unset, .unset, .unset, .unset] [(.long zz)])) := K1.trans (by
    refine XS.lstoreN X0.here hx rfl (hb hby at_13) rfl (l' := #[.val (.int p0), .val (.int p1), .val (.long zz), .second, .unset, .unset, .unset, .unset, .unset, .unset]) rfl ?_
    refine XS.lloadN X0.here hx rfl (hb hby at_14) rfl ?_
    exact Steps.refl _)
  obtain ⟨_, _, ⟨T3, L3, k3, n3⟩, -, X3, ⟨Lc3, hQ3, l3, y3, z3⟩, st3⟩ := Jvm.LawKit.callS X0 hx (y := (⟨"com/example/thin_gateway/thingateway/avro/AvroDecoderReadIntPinLaw", "minLen", "(J)I"⟩ : MethodName)) hown (mvT hZ (hw _ (List.mem_of_getElem? (i := 1) rfl))) (mvT hZ (hw _ (List.mem_of_getElem? (i := 2) rfl))) (mvT hZ (hw _ (List.mem_of_getElem? (i := 3) rfl))) (mvT hZ (hw _ (List.mem_of_getElem? (i := 4) rfl))) (by decide) (backOf (W := 0) (rm1 l Z a0 hw [] zz h0 n0 Z0 ) hZ (hw _ (List.mem_of_getElem? (i := 4) rfl)) (hw _ (List.mem_of_getElem? (i := 3) rfl)) (by decide) (by decide)) (g := (mkF m 15 #[.val (.int p0), .val (.int p1), .val (.long zz), .second, .unset, .unset, .unset, .unset, .unset, .unset] [(.long zz)])) rfl (by rw [hml]; rfl) (argsL := [(.long zz)]) (rest := []) (lenOf pd_2 rfl) rfl (by show 2 * 0 + _ ≤ _; exact Nat.le_of_eq rfl) (hb hby at_15) (fun _ _ => ⟨rfl, e0, (by decide : 0 + 0 ≤ _), (by decide : 0 + 0 ≤ _)⟩)
  dsimp only [Pt.U, Pt.locs, Pt.cells, Pt.slots] at X3 l3 y3 z3 st3 hQ3
  subst l3 y3 z3
  obtain ⟨rfl, N3, eh3⟩ := hQ3
  have N3' := Fr.app N0 N3
  obtain ⟨Lg3, Xg3, Ng3⟩ : ∃ Lg, Stand p l e room_1 s m #[(.int p0), (.int p1)] below meth c T3 Lg 0 0 ∧ Fr n0 Lg := ⟨_, X3, N3'⟩
  have K5 : Steps p.tables e below _ (T3.setTop (mkF m 18 #[.val (.int p0), .val (.int p1), .val (.long zz), .second, .unset, .unset, .unset, .unset, .unset, .unset] [(.int (f_rm1 zz))])) := K2.trans (st3 _ (Steps.refl _))
  obtain ⟨r4, hr4⟩ : ∃ z : Int32, (f_rm1 zz) = z := ⟨_, rfl⟩
  rw [hr4] at K5
  have K6 : Steps p.tables e below _ (T3.setTop (mkF m 33 #[.val (.int p0), .val (.int p1), .val (.long zz), .second, .val (.int r4), .unset, .unset, .unset, .unset, .unset] [(.int (r4 + ((p1 &&& (2147483647 : Int32)) % ((11 : Int32) - r4))))])) := K5.trans (by
    refine XS.istore Xg3.here hx rfl (hb hby at_18) rfl (l' := #[.val (.int p0), .val (.int p1), .val (.long zz), .second, .val (.int r4), .unset, .unset, .unset, .unset, .unset]) rfl ?_
    refine XS.iload Xg3.here hx rfl (hb hby at_20) rfl ?_
    refine XS.iloadN Xg3.here hx rfl (hb hby at_22) rfl ?_
    refine Xg3.ldcInt hx hown (mvT hZ (hw _ (List.mem_of_getElem? (i := 6) rfl))) (g := (mkF m 23 #[.val (.int p0), .val (.int p1), .val (.long zz), .second, .val (.int r4), .unset, .unset, .unset, .unset, .unset] [(.int p1), (.int r4)])) rfl (hb hby at_23) _ ?_
    refine XS.iand Xg3.here hx rfl (hb hby at_25) rfl ?_
    show Steps p.tables e below (T3.setTop (mkF m 26 #[.val (.int p0), .val (.int p1), .val (.long zz), .second, .val (.int r4), .unset, .unset, .unset, .unset, .unset] [(.int (p1 &&& (2147483647 : Int32))), (.int r4)])) _
    refine XS.bipush Xg3.here hx rfl (hb hby at_26) ?_
    refine XS.iload Xg3.here hx rfl (hb hby at_28) rfl ?_
    refine XS.isub Xg3.here hx rfl (hb hby at_30) rfl ?_
    refine iremM Xg3 hx rfl (hb hby at_31) rfl (own_nz _ (own_nk hzz hr4)) ?_
    refine XS.iadd Xg3.here hx rfl (hb hby at_32) rfl ?_
    show Steps p.tables e below (T3.setTop (mkF m 33 #[.val (.int p0), .val (.int p1), .val (.long zz), .second, .val (.int r4), .unset, .unset, .unset, .unset, .unset] [(.int (r4 + ((p1 &&& (2147483647 : Int32)) % ((11 : Int32) - r4))))])) _
    exact Steps.refl _)
  obtain ⟨mm, hmm⟩ : ∃ z : Int32, (r4 + ((p1 &&& (2147483647 : Int32)) % ((11 : Int32) - r4))) = z := ⟨_, rfl⟩
  rw [hmm] at K6
  have K7 : Steps p.tables e below _ (T3.setTop (mkF m 37 #[.val (.int p0), .val (.int p1), .val (.long zz), .second, .val (.int r4), .val (.int mm), .unset, .unset, .unset, .unset] [(.int (10 : Int32))])) := K6.trans (by
    refine XS.istore Xg3.here hx rfl (hb hby at_33) rfl (l' := #[.val (.int p0), .val (.int p1), .val (.long zz), .second, .val (.int r4), .val (.int mm), .unset, .unset, .unset, .unset]) rfl ?_
    refine XS.bipush Xg3.here hx rfl (hb hby at_35) ?_
    exact Steps.refl _)
  obtain ⟨T8, h8, k8, b8, X8, e8, E8, g8, V8, A8, st8⟩ := own_newB Xg3 hx hZ (hw _ (List.mem_of_getElem? (i := 7) rfl)) eh3 (g := (mkF m 37 #[.val (.int p0), .val (.int p1), .val (.long zz), .second, .val (.int r4), .val (.int mm), .unset, .unset, .unset, .unset] [(.int (10 : Int32))])) rfl (hb hby at_37) rfl (by decide) 10 (by decide) (by decide) (by decide) (by decide)
  have ge_b8 : n0 ≤ b8 := Nat.le_trans Z0 (Nat.le_of_eq g8.symm)
  have K9 : Steps p.tables e below _ (T8.setTop (mkF m 39 #[.val (.int p0), .val (.int p1), .val (.long zz), .second, .val (.int r4), .val (.int mm), .unset, .unset, .unset, .unset] [(.ref b8)])) := K7.trans st8
  have Vn8 : Arv Z h8 b8 k8 .byte (10 : Int32) [(.int (0 : Int32)), (.int (0 : Int32)), (.int (0 : Int32)), (.int (0 : Int32)), (.int (0 : Int32)), (.int (0 : Int32)), (.int (0 : Int32)), (.int (0 : Int32)), (.int (0 : Int32)), (.int (0 : Int32))] (.int (0 : Int32)) := V8
  have K10 : Steps p.tables e below _ (T8.setTop (mkF m 48 #[.val (.int p0), .val (.int p1), .val (.long zz), .second, .val (.int r4), .val (.int mm), .val (.ref b8), .unset, .unset, .unset] [(.int mm), (.long zz), (.int (0 : Int32)), (.int (0 : Int32)), (.ref b8)])) := K9.trans (by
    refine XS.astore X8.here hx rfl (hb hby at_39) rfl rfl (l' := #[.val (.int p0), .val (.int p1), .val (.long zz), .second, .val (.int r4), .val (.int mm), .val (.ref b8), .unset, .unset, .unset]) rfl ?_
    refine XS.aload X8.here hx rfl (hb hby at_41) rfl rfl ?_
    refine XS.iconst X8.here hx rfl (hb hby at_43) ?_
    refine XS.iconst X8.here hx rfl (hb hby at_44) ?_
    refine XS.lloadN X8.here hx rfl (hb hby at_45) rfl ?_
    show Steps p.tables e below (T8.setTop (mkF m 46 #[.val (.int p0), .val (.int p1), .val (.long zz), .second, .val (.int r4), .val (.int mm), .val (.ref b8), .unset, .unset, .unset] [(.long zz), (.int (0 : Int32)), (.int (0 : Int32)), (.ref b8)])) _
    refine XS.iload X8.here hx rfl (hb hby at_46) rfl ?_
    exact Steps.refl _)
  have Z_11 : n0 ≤ h8.size := (Nat.le_trans Z0 E8.1)
  obtain ⟨_, _, ⟨T12, L12, k12, n12⟩, -, X12, ⟨Lc12, hQ12, l12, y12, z12⟩, st12⟩ := Jvm.LawKit.callS X8 hx (y := (⟨"com/example/thin_gateway/thingateway/avro/AvroDecoderReadIntPinLaw", "at", "(IJI)B"⟩ : MethodName)) hown (mvT hZ (hw _ (List.mem_of_getElem? (i := 8) rfl))) (mvT hZ (hw _ (List.mem_of_getElem? (i := 9) rfl))) (mvT hZ (hw _ (List.mem_of_getElem? (i := 3) rfl))) (mvT hZ (hw _ (List.mem_of_getElem? (i := 10) rfl))) (by decide) (backOf (W := 2) (rm2 l Z a0 hw [] (0 : Int32) zz mm h8 n0 Z_11 ) hZ (hw _ (List.mem_of_getElem? (i := 10) rfl)) (hw _ (List.mem_of_getElem? (i := 3) rfl)) (by decide) (by decide)) (g := (mkF m 48 #[.val (.int p0), .val (.int p1), .val (.long zz), .second, .val (.int r4), .val (.int mm), .val (.ref b8), .unset, .unset, .unset] [(.int mm), (.long zz), (.int (0 : Int32)), (.int (0 : Int32)), (.ref b8)])) rfl (by rw [hml]; rfl) (argsL := [(.int (0 : Int32)), (.long zz), (.int mm)]) (rest := [(.int (0 : Int32)), (.ref b8)]) (lenOf pd_3 rfl) rfl (by show 2 * 0 + _ ≤ _; exact Nat.le_of_eq rfl) (hb hby at_48) (fun _ _ => ⟨rfl, e8, (by decide : 1 + 0 ≤ _), (by decide : 10 + 0 ≤ _)⟩)
  dsimp only [Pt.U, Pt.locs, Pt.cells, Pt.slots] at X12 l12 y12 z12 st12 hQ12
  subst l12 y12 z12
  obtain ⟨rfl, N12, eh12⟩ := hQ12
  have N12' := Fr.app Ng3 N12
  obtain ⟨Lg12, Xg12, Ng12⟩ : ∃ Lg, Stand p l e room_1 s m #[(.int p0), (.int p1)] below meth c T12 Lg 1 10 ∧ Fr n0 Lg := ⟨_, X12, N12'⟩
  have K14 : Steps p.tables e below _ (T12.setTop (mkF m 51 #[.val (.int p0), .val (.int p1), .val (.long zz), .second, .val (.int r4), .val (.int mm), .val (.ref b8), .unset, .unset, .unset] [(.int (f_rm2 (0 : Int32) zz mm)), (.int (0 : Int32)), (.ref b8)])) := K10.trans (st12 _ (Steps.refl _))
  obtain ⟨r13, hr13⟩ : ∃ z : Int32, (f_rm2 (0 : Int32) zz mm) = z := ⟨_, rfl⟩
  rw [hr13] at K14
  obtain ⟨T15, h15, X15, e15, W15, V15, st15⟩ := own_stB Xg12 hx hZ eh12 Vn8 (j := (0 : Int32)) ⟨by decide, by decide⟩ 0 rfl (Nat.le_of_ble_eq_true rfl) (g := (mkF m 51 #[.val (.int p0), .val (.int p1), .val (.long zz), .second, .val (.int r4), .val (.int mm), .val (.ref b8), .unset, .unset, .unset] [(.int r13), (.int (0 : Int32)), (.ref b8)])) rfl rfl (hb hby at_51)
  have K16 : Steps p.tables e below _ (T15.setTop (mkF m 52 #[.val (.int p0), .val (.int p1), .val (.long zz), .second, .val (.int r4), .val (.int mm), .val (.ref b8), .unset, .unset, .unset] [])) := K14.trans st15
  have Vw15 : Arv Z h15 b8 k8 .byte (10 : Int32) [(.int (r13.toInt8.toInt32)), (.int (0 : Int32)), (.int (0 : Int32)), (.int (0 : Int32)), (.int (0 : Int32)), (.int (0 : Int32)), (.int (0 : Int32)), (.int (0 : Int32)), (.int (0 : Int32)), (.int (0 : Int32))] (.int (0 : Int32)) := V15
  have N15 := Fr.snoc X15 Ng12 ge_b8
  obtain ⟨Lg15, Xg15, Ng15⟩ : ∃ Lg, Stand p l e room_1 s m #[(.int p0), (.int p1)] below meth c T15 Lg 1 10 ∧ Fr n0 Lg := ⟨_, X15, N15⟩
  have K17 : Steps p.tables e below _ (T15.setTop (mkF m 59 #[.val (.int p0), .val (.int p1), .val (.long zz), .second, .val (.int r4), .val (.int mm), .val (.ref b8), .unset, .unset, .unset] [(.int mm), (.long zz), (.int (1 : Int32)), (.int (1 : Int32)), (.ref b8)])) := K16.trans (by
    refine XS.aload Xg15.here hx rfl (hb hby at_52) rfl rfl ?_
    refine XS.iconst Xg15.here hx rfl (hb hby at_54) ?_
    refine XS.iconst Xg15.here hx rfl (hb hby at_55) ?_
    refine XS.lloadN Xg15.here hx rfl (hb hby at_56) rfl ?_
    refine XS.iload Xg15.here hx rfl (hb hby at_57) rfl ?_
    show Steps p.tables e below (T15.setTop (mkF m 59 #[.val (.int p0), .val (.int p1), .val (.long zz), .second, .val (.int r4), .val (.int mm), .val (.ref b8), .unset, .unset, .unset] [(.int mm), (.long zz), (.int (1 : Int32)), (.int (1 : Int32)), (.ref b8)])) _
    exact Steps.refl _)
  have Z_18 : n0 ≤ h15.size := (Nat.le_trans Z_11 (Keep.of_wr W15).1)
  obtain ⟨_, _, ⟨T19, L19, k19, n19⟩, -, X19, ⟨Lc19, hQ19, l19, y19, z19⟩, st19⟩ := Jvm.LawKit.callS Xg15 hx (y := (⟨"com/example/thin_gateway/thingateway/avro/AvroDecoderReadIntPinLaw", "at", "(IJI)B"⟩ : MethodName)) hown (mvT hZ (hw _ (List.mem_of_getElem? (i := 8) rfl))) (mvT hZ (hw _ (List.mem_of_getElem? (i := 9) rfl))) (mvT hZ (hw _ (List.mem_of_getElem? (i := 3) rfl))) (mvT hZ (hw _ (List.mem_of_getElem? (i := 10) rfl))) (by decide) (backOf (W := 2) (rm2 l Z a0 hw [] (1 : Int32) zz mm h15 n0 Z_18 ) hZ (hw _ (List.mem_of_getElem? (i := 10) rfl)) (hw _ (List.mem_of_getElem? (i := 3) rfl)) (by decide) (by decide)) (g := (mkF m 59 #[.val (.int p0), .val (.int p1), .val (.long zz), .second, .val (.int r4), .val (.int mm), .val (.ref b8), .unset, .unset, .unset] [(.int mm), (.long zz), (.int (1 : Int32)), (.int (1 : Int32)), (.ref b8)])) rfl (by rw [hml]; rfl) (argsL := [(.int (1 : Int32)), (.long zz), (.int mm)]) (rest := [(.int (1 : Int32)), (.ref b8)]) (lenOf pd_3 rfl) rfl (by show 2 * 0 + _ ≤ _; exact Nat.le_of_eq rfl) (hb hby at_59) (fun _ _ => ⟨rfl, e15, (by decide : 1 + 0 ≤ _), (by decide : 10 + 0 ≤ _)⟩)
  dsimp only [Pt.U, Pt.locs, Pt.cells, Pt.slots] at X19 l19 y19 z19 st19 hQ19
  subst l19 y19 z19
  obtain ⟨rfl, N19, eh19⟩ := hQ19
  have N19' := Fr.app Ng15 N19
  obtain ⟨Lg19, Xg19, Ng19⟩ : ∃ Lg, Stand p l e room_1 s m #[(.int p0), (.int p1)] below meth c T19 Lg 1 10 ∧ Fr n0 Lg := ⟨_, X19, N19'⟩
  have K21 : Steps p.tables e below _ (T19.setTop (mkF m 62 #[.val (.int p0), .val (.int p1), .val (.long zz), .second, .val (.int r4), .val (.int mm), .val (.ref b8), .unset, .unset, .unset] [(.int (f_rm2 (1 : Int32) zz mm)), (.int (1 : Int32)), (.ref b8)])) := K17.trans (st19 _ (Steps.refl _))
  obtain ⟨r20, hr20⟩ : ∃ z : Int32, (f_rm2 (1 : Int32) zz mm) = z := ⟨_, rfl⟩
  rw [hr20] at K21
  obtain ⟨T22, h22, X22, e22, W22, V22, st22⟩ := own_stB Xg19 hx hZ eh19 Vw15 (j := (1 : Int32)) ⟨by decide, by decide⟩ 1 rfl (Nat.le_of_ble_eq_true rfl) (g := (mkF m 62 #[.val (.int p0), .val (.int p1), .val (.long zz), .second, .val (.int r4), .val (.int mm), .val (.ref b8), .unset, .unset, .unset] [(.int r20), (.int (1 : Int32)), (.ref b8)])) rfl rfl (hb hby at_62)
  have K23 : Steps p.tables e below _ (T22.setTop (mkF m 63 #[.val (.int p0), .val (.int p1), .val (.long zz), .second, .val (.int r4), .val (.int mm), .val (.ref b8), .unset, .unset, .unset] [])) := K21.trans st22
  have Vw22 : Arv Z h22 b8 k8 .byte (10 : Int32) [(.int (r13.toInt8.toInt32)), (.int (r20.toInt8.toInt32)), (.int (0 : Int32)), (.int (0 : Int32)), (.int (0 : Int32)), (.int (0 : Int32)), (.int (0 : Int32)), (.int (0 : Int32)), (.int (0 : Int32)), (.int (0 : Int32))] (.int (0 : Int32)) := V22
  have N22 := Fr.snoc X22 Ng19 ge_b8
  obtain ⟨Lg22, Xg22, Ng22⟩ : ∃ Lg, Stand p l e room_1 s m #[(.int p0), (.int p1)] below meth c T22 Lg 1 10 ∧ Fr n0 Lg := ⟨_, X22, N22⟩
  have K24 : Steps p.tables e below _ (T22.setTop (mkF m 70 #[.val (.int p0), .val (.int p1), .val (.long zz), .second, .val (.int r4), .val (.int mm), .val (.ref b8), .unset, .unset, .unset] [(.int mm), (.long zz), (.int (2 : Int32)), (.int (2 : Int32)), (.ref b8)])) := K23.trans (by
    refine XS.aload Xg22.here hx rfl (hb hby at_63) rfl rfl ?_
    refine XS.iconst Xg22.here hx rfl (hb hby at_65) ?_
    refine XS.iconst Xg22.here hx rfl (hb hby at_66) ?_
    refine XS.lloadN Xg22.here hx rfl (hb hby at_67) rfl ?_
    refine XS.iload Xg22.here hx rfl (hb hby at_68) rfl ?_
    show Steps p.tables e below (T22.setTop (mkF m 70 #[.val (.int p0), .val (.int p1), .val (.long zz), .second, .val (.int r4), .val (.int mm), .val (.ref b8), .unset, .unset, .unset] [(.int mm), (.long zz), (.int (2 : Int32)), (.int (2 : Int32)), (.ref b8)])) _
    exact Steps.refl _)
  have Z_25 : n0 ≤ h22.size := (Nat.le_trans Z_18 (Keep.of_wr W22).1)
  obtain ⟨_, _, ⟨T26, L26, k26, n26⟩, -, X26, ⟨Lc26, hQ26, l26, y26, z26⟩, st26⟩ := Jvm.LawKit.callS Xg22 hx (y := (⟨"com/example/thin_gateway/thingateway/avro/AvroDecoderReadIntPinLaw", "at", "(IJI)B"⟩ : MethodName)) hown (mvT hZ (hw _ (List.mem_of_getElem? (i := 8) rfl))) (mvT hZ (hw _ (List.mem_of_getElem? (i := 9) rfl))) (mvT hZ (hw _ (List.mem_of_getElem? (i := 3) rfl))) (mvT hZ (hw _ (List.mem_of_getElem? (i := 10) rfl))) (by decide) (backOf (W := 2) (rm2 l Z a0 hw [] (2 : Int32) zz mm h22 n0 Z_25 ) hZ (hw _ (List.mem_of_getElem? (i := 10) rfl)) (hw _ (List.mem_of_getElem? (i := 3) rfl)) (by decide) (by decide)) (g := (mkF m 70 #[.val (.int p0), .val (.int p1), .val (.long zz), .second, .val (.int r4), .val (.int mm), .val (.ref b8), .unset, .unset, .unset] [(.int mm), (.long zz), (.int (2 : Int32)), (.int (2 : Int32)), (.ref b8)])) rfl (by rw [hml]; rfl) (argsL := [(.int (2 : Int32)), (.long zz), (.int mm)]) (rest := [(.int (2 : Int32)), (.ref b8)]) (lenOf pd_3 rfl) rfl (by show 2 * 0 + _ ≤ _; exact Nat.le_of_eq rfl) (hb hby at_70) (fun _ _ => ⟨rfl, e22, (by decide : 1 + 0 ≤ _), (by decide : 10 + 0 ≤ _)⟩)
  dsimp only [Pt.U, Pt.locs, Pt.cells, Pt.slots] at X26 l26 y26 z26 st26 hQ26
  subst l26 y26 z26
  obtain ⟨rfl, N26, eh26⟩ := hQ26
  have N26' := Fr.app Ng22 N26
  obtain ⟨Lg26, Xg26, Ng26⟩ : ∃ Lg, Stand p l e room_1 s m #[(.int p0), (.int p1)] below meth c T26 Lg 1 10 ∧ Fr n0 Lg := ⟨_, X26, N26'⟩
  have K28 : Steps p.tables e below _ (T26.setTop (mkF m 73 #[.val (.int p0), .val (.int p1), .val (.long zz), .second, .val (.int r4), .val (.int mm), .val (.ref b8), .unset, .unset, .unset] [(.int (f_rm2 (2 : Int32) zz mm)), (.int (2 : Int32)), (.ref b8)])) := K24.trans (st26 _ (Steps.refl _))
  obtain ⟨r27, hr27⟩ : ∃ z : Int32, (f_rm2 (2 : Int32) zz mm) = z := ⟨_, rfl⟩
  rw [hr27] at K28
  obtain ⟨T29, h29, X29, e29, W29, V29, st29⟩ := own_stB Xg26 hx hZ eh26 Vw22 (j := (2 : Int32)) ⟨by decide, by decide⟩ 2 rfl (Nat.le_of_ble_eq_true rfl) (g := (mkF m 73 #[.val (.int p0), .val (.int p1), .val (.long zz), .second, .val (.int r4), .val (.int mm), .val (.ref b8), .unset, .unset, .unset] [(.int r27), (.int (2 : Int32)), (.ref b8)])) rfl rfl (hb hby at_73)
  have K30 : Steps p.tables e below _ (T29.setTop (mkF m 74 #[.val (.int p0), .val (.int p1), .val (.long zz), .second, .val (.int r4), .val (.int mm), .val (.ref b8), .unset, .unset, .unset] [])) := K28.trans st29
  have Vw29 : Arv Z h29 b8 k8 .byte (10 : Int32) [(.int (r13.toInt8.toInt32)), (.int (r20.toInt8.toInt32)), (.int (r27.toInt8.toInt32)), (.int (0 : Int32)), (.int (0 : Int32)), (.int (0 : Int32)), (.int (0 : Int32)), (.int (0 : Int32)), (.int (0 : Int32)), (.int (0 : Int32))] (.int (0 : Int32)) := V29
  have N29 := Fr.snoc X29 Ng26 ge_b8
  obtain ⟨Lg29, Xg29, Ng29⟩ : ∃ Lg, Stand p l e room_1 s m #[(.int p0), (.int p1)] below meth c T29 Lg 1 10 ∧ Fr n0 Lg := ⟨_, X29, N29⟩
  have K31 : Steps p.tables e below _ (T29.setTop (mkF m 81 #[.val (.int p0), .val (.int p1), .val (.long zz), .second, .val (.int r4), .val (.int mm), .val (.ref b8), .unset, .unset, .unset] [(.int mm), (.long zz), (.int (3 : Int32)), (.int (3 : Int32)), (.ref b8)])) := K30.trans (by
    refine XS.aload Xg29.here hx rfl (hb hby at_74) rfl rfl ?_
    refine XS.iconst Xg29.here hx rfl (hb hby at_76) ?_
    refine XS.iconst Xg29.here hx rfl (hb hby at_77) ?_
    refine XS.lloadN Xg29.here hx rfl (hb hby at_78) rfl ?_
    refine XS.iload Xg29.here hx rfl (hb hby at_79) rfl ?_
    show Steps p.tables e below (T29.setTop (mkF m 81 #[.val (.int p0), .val (.int p1), .val (.long zz), .second, .val (.int r4), .val (.int mm), .val (.ref b8), .unset, .unset, .unset] [(.int mm), (.long zz), (.int (3 : Int32)), (.int (3 : Int32)), (.ref b8)])) _
    exact Steps.refl _)
  have Z_32 : n0 ≤ h29.size := (Nat.le_trans Z_25 (Keep.of_wr W29).1)
  obtain ⟨_, _, ⟨T33, L33, k33, n33⟩, -, X33, ⟨Lc33, hQ33, l33, y33, z33⟩, st33⟩ := Jvm.LawKit.callS Xg29 hx (y := (⟨"com/example/thin_gateway/thingateway/avro/AvroDecoderReadIntPinLaw", "at", "(IJI)B"⟩ : MethodName)) hown (mvT hZ (hw _ (List.mem_of_getElem? (i := 8) rfl))) (mvT hZ (hw _ (List.mem_of_getElem? (i := 9) rfl))) (mvT hZ (hw _ (List.mem_of_getElem? (i := 3) rfl))) (mvT hZ (hw _ (List.mem_of_getElem? (i := 10) rfl))) (by decide) (backOf (W := 2) (rm2 l Z a0 hw [] (3 : Int32) zz mm h29 n0 Z_32 ) hZ (hw _ (List.mem_of_getElem? (i := 10) rfl)) (hw _ (List.mem_of_getElem? (i := 3) rfl)) (by decide) (by decide)) (g := (mkF m 81 #[.val (.int p0), .val (.int p1), .val (.long zz), .second, .val (.int r4), .val (.int mm), .val (.ref b8), .unset, .unset, .unset] [(.int mm), (.long zz), (.int (3 : Int32)), (.int (3 : Int32)), (.ref b8)])) rfl (by rw [hml]; rfl) (argsL := [(.int (3 : Int32)), (.long zz), (.int mm)]) (rest := [(.int (3 : Int32)), (.ref b8)]) (lenOf pd_3 rfl) rfl (by show 2 * 0 + _ ≤ _; exact Nat.le_of_eq rfl) (hb hby at_81) (fun _ _ => ⟨rfl, e29, (by decide : 1 + 0 ≤ _), (by decide : 10 + 0 ≤ _)⟩)
  dsimp only [Pt.U, Pt.locs, Pt.cells, Pt.slots] at X33 l33 y33 z33 st33 hQ33
  subst l33 y33 z33
  obtain ⟨rfl, N33, eh33⟩ := hQ33
  have N33' := Fr.app Ng29 N33
  obtain ⟨Lg33, Xg33, Ng33⟩ : ∃ Lg, Stand p l e room_1 s m #[(.int p0), (.int p1)] below meth c T33 Lg 1 10 ∧ Fr n0 Lg := ⟨_, X33, N33'⟩
  have K35 : Steps p.tables e below _ (T33.setTop (mkF m 84 #[.val (.int p0), .val (.int p1), .val (.long zz), .second, .val (.int r4), .val (.int mm), .val (.ref b8), .unset, .unset, .unset] [(.int (f_rm2 (3 : Int32) zz mm)), (.int (3 : Int32)), (.ref b8)])) := K31.trans (st33 _ (Steps.refl _))
  obtain ⟨r34, hr34⟩ : ∃ z : Int32, (f_rm2 (3 : Int32) zz mm) = z := ⟨_, rfl⟩
  rw [hr34] at K35
  obtain ⟨T36, h36, X36, e36, W36, V36, st36⟩ := own_stB Xg33 hx hZ eh33 Vw29 (j := (3 : Int32)) ⟨by decide, by decide⟩ 3 rfl (Nat.le_of_ble_eq_true rfl) (g := (mkF m 84 #[.val (.int p0), .val (.int p1), .val (.long zz), .second, .val (.int r4), .val (.int mm), .val (.ref b8), .unset, .unset, .unset] [(.int r34), (.int (3 : Int32)), (.ref b8)])) rfl rfl (hb hby at_84)
  have K37 : Steps p.tables e below _ (T36.setTop (mkF m 85 #[.val (.int p0), .val (.int p1), .val (.long zz), .second, .val (.int r4), .val (.int mm), .val (.ref b8), .unset, .unset, .unset] [])) := K35.trans st36
  have Vw36 : Arv Z h36 b8 k8 .byte (10 : Int32) [(.int (r13.toInt8.toInt32)), (.int (r20.toInt8.toInt32)), (.int (r27.toInt8.toInt32)), (.int (r34.toInt8.toInt32)), (.int (0 : Int32)), (.int (0 : Int32)), (.int (0 : Int32)), (.int (0 : Int32)), (.int (0 : Int32)), (.int (0 : Int32))] (.int (0 : Int32)) := V36
  have N36 := Fr.snoc X36 Ng33 ge_b8
  obtain ⟨Lg36, Xg36, Ng36⟩ : ∃ Lg, Stand p l e room_1 s m #[(.int p0), (.int p1)] below meth c T36 Lg 1 10 ∧ Fr n0 Lg := ⟨_, X36, N36⟩
  have K38 : Steps p.tables e below _ (T36.setTop (mkF m 92 #[.val (.int p0), .val (.int p1), .val (.long zz), .second, .val (.int r4), .val (.int mm), .val (.ref b8), .unset, .unset, .unset] [(.int mm), (.long zz), (.int (4 : Int32)), (.int (4 : Int32)), (.ref b8)])) := K37.trans (by
    refine XS.aload Xg36.here hx rfl (hb hby at_85) rfl rfl ?_
    refine XS.iconst Xg36.here hx rfl (hb hby at_87) ?_
    refine XS.iconst Xg36.here hx rfl (hb hby at_88) ?_
    refine XS.lloadN Xg36.here hx rfl (hb hby at_89) rfl ?_
    refine XS.iload Xg36.here hx rfl (hb hby at_90) rfl ?_
    show Steps p.tables e below (T36.setTop (mkF m 92 #[.val (.int p0), .val (.int p1), .val (.long zz), .second, .val (.int r4), .val (.int mm), .val (.ref b8), .unset, .unset, .unset] [(.int mm), (.long zz), (.int (4 : Int32)), (.int (4 : Int32)), (.ref b8)])) _
    exact Steps.refl _)
  have Z_39 : n0 ≤ h36.size := (Nat.le_trans Z_32 (Keep.of_wr W36).1)
  obtain ⟨_, _, ⟨T40, L40, k40, n40⟩, -, X40, ⟨Lc40, hQ40, l40, y40, z40⟩, st40⟩ := Jvm.LawKit.callS Xg36 hx (y := (⟨"com/example/thin_gateway/thingateway/avro/AvroDecoderReadIntPinLaw", "at", "(IJI)B"⟩ : MethodName)) hown (mvT hZ (hw _ (List.mem_of_getElem? (i := 8) rfl))) (mvT hZ (hw _ (List.mem_of_getElem? (i := 9) rfl))) (mvT hZ (hw _ (List.mem_of_getElem? (i := 3) rfl))) (mvT hZ (hw _ (List.mem_of_getElem? (i := 10) rfl))) (by decide) (backOf (W := 2) (rm2 l Z a0 hw [] (4 : Int32) zz mm h36 n0 Z_39 ) hZ (hw _ (List.mem_of_getElem? (i := 10) rfl)) (hw _ (List.mem_of_getElem? (i := 3) rfl)) (by decide) (by decide)) (g := (mkF m 92 #[.val (.int p0), .val (.int p1), .val (.long zz), .second, .val (.int r4), .val (.int mm), .val (.ref b8), .unset, .unset, .unset] [(.int mm), (.long zz), (.int (4 : Int32)), (.int (4 : Int32)), (.ref b8)])) rfl (by rw [hml]; rfl) (argsL := [(.int (4 : Int32)), (.long zz), (.int mm)]) (rest := [(.int (4 : Int32)), (.ref b8)]) (lenOf pd_3 rfl) rfl (by show 2 * 0 + _ ≤ _; exact Nat.le_of_eq rfl) (hb hby at_92) (fun _ _ => ⟨rfl, e36, (by decide : 1 + 0 ≤ _), (by decide : 10 + 0 ≤ _)⟩)
  dsimp only [Pt.U, Pt.locs, Pt.cells, Pt.slots] at X40 l40 y40 z40 st40 hQ40
  subst l40 y40 z40
  obtain ⟨rfl, N40, eh40⟩ := hQ40
  have N40' := Fr.app Ng36 N40
  obtain ⟨Lg40, Xg40, Ng40⟩ : ∃ Lg, Stand p l e room_1 s m #[(.int p0), (.int p1)] below meth c T40 Lg 1 10 ∧ Fr n0 Lg := ⟨_, X40, N40'⟩
  have K42 : Steps p.tables e below _ (T40.setTop (mkF m 95 #[.val (.int p0), .val (.int p1), .val (.long zz), .second, .val (.int r4), .val (.int mm), .val (.ref b8), .unset, .unset, .unset] [(.int (f_rm2 (4 : Int32) zz mm)), (.int (4 : Int32)), (.ref b8)])) := K38.trans (st40 _ (Steps.refl _))
  obtain ⟨r41, hr41⟩ : ∃ z : Int32, (f_rm2 (4 : Int32) zz mm) = z := ⟨_, rfl⟩
  rw [hr41] at K42
  obtain ⟨T43, h43, X43, e43, W43, V43, st43⟩ := own_stB Xg40 hx hZ eh40 Vw36 (j := (4 : Int32)) ⟨by decide, by decide⟩ 4 rfl (Nat.le_of_ble_eq_true rfl) (g := (mkF m 95 #[.val (.int p0), .val (.int p1), .val (.long zz), .second, .val (.int r4), .val (.int mm), .val (.ref b8), .unset, .unset, .unset] [(.int r41), (.int (4 : Int32)), (.ref b8)])) rfl rfl (hb hby at_95)
  have K44 : Steps p.tables e below _ (T43.setTop (mkF m 96 #[.val (.int p0), .val (.int p1), .val (.long zz), .second, .val (.int r4), .val (.int mm), .val (.ref b8), .unset, .unset, .unset] [])) := K42.trans st43
  have Vw43 : Arv Z h43 b8 k8 .byte (10 : Int32) [(.int (r13.toInt8.toInt32)), (.int (r20.toInt8.toInt32)), (.int (r27.toInt8.toInt32)), (.int (r34.toInt8.toInt32)), (.int (r41.toInt8.toInt32)), (.int (0 : Int32)), (.int (0 : Int32)), (.int (0 : Int32)), (.int (0 : Int32)), (.int (0 : Int32))] (.int (0 : Int32)) := V43
  have N43 := Fr.snoc X43 Ng40 ge_b8
  obtain ⟨Lg43, Xg43, Ng43⟩ : ∃ Lg, Stand p l e room_1 s m #[(.int p0), (.int p1)] below meth c T43 Lg 1 10 ∧ Fr n0 Lg := ⟨_, X43, N43⟩
  have K45 : Steps p.tables e below _ (T43.setTop (mkF m 103 #[.val (.int p0), .val (.int p1), .val (.long zz), .second, .val (.int r4), .val (.int mm), .val (.ref b8), .unset, .unset, .unset] [(.int mm), (.long zz), (.int (5 : Int32)), (.int (5 : Int32)), (.ref b8)])) := K44.trans (by
    refine XS.aload Xg43.here hx rfl (hb hby at_96) rfl rfl ?_
    refine XS.iconst Xg43.here hx rfl (hb hby at_98) ?_
    refine XS.iconst Xg43.here hx rfl (hb hby at_99) ?_
    refine XS.lloadN Xg43.here hx rfl (hb hby at_100) rfl ?_
    refine XS.iload Xg43.here hx rfl (hb hby at_101) rfl ?_
    show Steps p.tables e below (T43.setTop (mkF m 103 #[.val (.int p0), .val (.int p1), .val (.long zz), .second, .val (.int r4), .val (.int mm), .val (.ref b8), .unset, .unset, .unset] [(.int mm), (.long zz), (.int (5 : Int32)), (.int (5 : Int32)), (.ref b8)])) _
    exact Steps.refl _)
  have Z_46 : n0 ≤ h43.size := (Nat.le_trans Z_39 (Keep.of_wr W43).1)
  obtain ⟨_, _, ⟨T47, L47, k47, n47⟩, -, X47, ⟨Lc47, hQ47, l47, y47, z47⟩, st47⟩ := Jvm.LawKit.callS Xg43 hx (y := (⟨"com/example/thin_gateway/thingateway/avro/AvroDecoderReadIntPinLaw", "at", "(IJI)B"⟩ : MethodName)) hown (mvT hZ (hw _ (List.mem_of_getElem? (i := 8) rfl))) (mvT hZ (hw _ (List.mem_of_getElem? (i := 9) rfl))) (mvT hZ (hw _ (List.mem_of_getElem? (i := 3) rfl))) (mvT hZ (hw _ (List.mem_of_getElem? (i := 10) rfl))) (by decide) (backOf (W := 2) (rm2 l Z a0 hw [] (5 : Int32) zz mm h43 n0 Z_46 ) hZ (hw _ (List.mem_of_getElem? (i := 10) rfl)) (hw _ (List.mem_of_getElem? (i := 3) rfl)) (by decide) (by decide)) (g := (mkF m 103 #[.val (.int p0), .val (.int p1), .val (.long zz), .second, .val (.int r4), .val (.int mm), .val (.ref b8), .unset, .unset, .unset] [(.int mm), (.long zz), (.int (5 : Int32)), (.int (5 : Int32)), (.ref b8)])) rfl (by rw [hml]; rfl) (argsL := [(.int (5 : Int32)), (.long zz), (.int mm)]) (rest := [(.int (5 : Int32)), (.ref b8)]) (lenOf pd_3 rfl) rfl (by show 2 * 0 + _ ≤ _; exact Nat.le_of_eq rfl) (hb hby at_103) (fun _ _ => ⟨rfl, e43, (by decide : 1 + 0 ≤ _), (by decide : 10 + 0 ≤ _)⟩)
  dsimp only [Pt.U, Pt.locs, Pt.cells, Pt.slots] at X47 l47 y47 z47 st47 hQ47
  subst l47 y47 z47
  obtain ⟨rfl, N47, eh47⟩ := hQ47
  have N47' := Fr.app Ng43 N47
  obtain ⟨Lg47, Xg47, Ng47⟩ : ∃ Lg, Stand p l e room_1 s m #[(.int p0), (.int p1)] below meth c T47 Lg 1 10 ∧ Fr n0 Lg := ⟨_, X47, N47'⟩
  have K49 : Steps p.tables e below _ (T47.setTop (mkF m 106 #[.val (.int p0), .val (.int p1), .val (.long zz), .second, .val (.int r4), .val (.int mm), .val (.ref b8), .unset, .unset, .unset] [(.int (f_rm2 (5 : Int32) zz mm)), (.int (5 : Int32)), (.ref b8)])) := K45.trans (st47 _ (Steps.refl _))
  obtain ⟨r48, hr48⟩ : ∃ z : Int32, (f_rm2 (5 : Int32) zz mm) = z := ⟨_, rfl⟩
  rw [hr48] at K49
  obtain ⟨T50, h50, X50, e50, W50, V50, st50⟩ := own_stB Xg47 hx hZ eh47 Vw43 (j := (5 : Int32)) ⟨by decide, by decide⟩ 5 rfl (Nat.le_of_ble_eq_true rfl) (g := (mkF m 106 #[.val (.int p0), .val (.int p1), .val (.long zz), .second, .val (.int r4), .val (.int mm), .val (.ref b8), .unset, .unset, .unset] [(.int r48), (.int (5 : Int32)), (.ref b8)])) rfl rfl (hb hby at_106)
  have K51 : Steps p.tables e below _ (T50.setTop (mkF m 107 #[.val (.int p0), .val (.int p1), .val (.long zz), .second, .val (.int r4), .val (.int mm), .val (.ref b8), .unset, .unset, .unset] [])) := K49.trans st50
  have Vw50 : Arv Z h50 b8 k8 .byte (10 : Int32) [(.int (r13.toInt8.toInt32)), (.int (r20.toInt8.toInt32)), (.int (r27.toInt8.toInt32)), (.int (r34.toInt8.toInt32)), (.int (r41.toInt8.toInt32)), (.int (r48.toInt8.toInt32)), (.int (0 : Int32)), (.int (0 : Int32)), (.int (0 : Int32)), (.int (0 : Int32))] (.int (0 : Int32)) := V50
  have N50 := Fr.snoc X50 Ng47 ge_b8
  obtain ⟨Lg50, Xg50, Ng50⟩ : ∃ Lg, Stand p l e room_1 s m #[(.int p0), (.int p1)] below meth c T50 Lg 1 10 ∧ Fr n0 Lg := ⟨_, X50, N50⟩
  have K52 : Steps p.tables e below _ (T50.setTop (mkF m 116 #[.val (.int p0), .val (.int p1), .val (.long zz), .second, .val (.int r4), .val (.int mm), .val (.ref b8), .unset, .unset, .unset] [(.int mm), (.long zz), (.int (6 : Int32)), (.int (6 : Int32)), (.ref b8)])) := K51.trans (by
    refine XS.aload Xg50.here hx rfl (hb hby at_107) rfl rfl ?_
    refine XS.bipush Xg50.here hx rfl (hb hby at_109) ?_
    refine XS.bipush Xg50.here hx rfl (hb hby at_111) ?_
    refine XS.lloadN Xg50.here hx rfl (hb hby at_113) rfl ?_
    refine XS.iload Xg50.here hx rfl (hb hby at_114) rfl ?_
    show Steps p.tables e below (T50.setTop (mkF m 116 #[.val (.int p0), .val (.int p1), .val (.long zz), .second, .val (.int r4), .val (.int mm), .val (.ref b8), .unset, .unset, .unset] [(.int mm), (.long zz), (.int (6 : Int32)), (.int (6 : Int32)), (.ref b8)])) _
    exact Steps.refl _)
  have Z_53 : n0 ≤ h50.size := (Nat.le_trans Z_46 (Keep.of_wr W50).1)
  obtain ⟨_, _, ⟨T54, L54, k54, n54⟩, -, X54, ⟨Lc54, hQ54, l54, y54, z54⟩, st54⟩ := Jvm.LawKit.callS Xg50 hx (y := (⟨"com/example/thin_gateway/thingateway/avro/AvroDecoderReadIntPinLaw", "at", "(IJI)B"⟩ : MethodName)) hown (mvT hZ (hw _ (List.mem_of_getElem? (i := 8) rfl))) (mvT hZ (hw _ (List.mem_of_getElem? (i := 9) rfl))) (mvT hZ (hw _ (List.mem_of_getElem? (i := 3) rfl))) (mvT hZ (hw _ (List.mem_of_getElem? (i := 10) rfl))) (by decide) (backOf (W := 2) (rm2 l Z a0 hw [] (6 : Int32) zz mm h50 n0 Z_53 ) hZ (hw _ (List.mem_of_getElem? (i := 10) rfl)) (hw _ (List.mem_of_getElem? (i := 3) rfl)) (by decide) (by decide)) (g := (mkF m 116 #[.val (.int p0), .val (.int p1), .val (.long zz), .second, .val (.int r4), .val (.int mm), .val (.ref b8), .unset, .unset, .unset] [(.int mm), (.long zz), (.int (6 : Int32)), (.int (6 : Int32)), (.ref b8)])) rfl (by rw [hml]; rfl) (argsL := [(.int (6 : Int32)), (.long zz), (.int mm)]) (rest := [(.int (6 : Int32)), (.ref b8)]) (lenOf pd_3 rfl) rfl (by show 2 * 0 + _ ≤ _; exact Nat.le_of_eq rfl) (hb hby at_116) (fun _ _ => ⟨rfl, e50, (by decide : 1 + 0 ≤ _), (by decide : 10 + 0 ≤ _)⟩)
  dsimp only [Pt.U, Pt.locs, Pt.cells, Pt.slots] at X54 l54 y54 z54 st54 hQ54
  subst l54 y54 z54
  obtain ⟨rfl, N54, eh54⟩ := hQ54
  have N54' := Fr.app Ng50 N54
  obtain ⟨Lg54, Xg54, Ng54⟩ : ∃ Lg, Stand p l e room_1 s m #[(.int p0), (.int p1)] below meth c T54 Lg 1 10 ∧ Fr n0 Lg := ⟨_, X54, N54'⟩
  have K56 : Steps p.tables e below _ (T54.setTop (mkF m 119 #[.val (.int p0), .val (.int p1), .val (.long zz), .second, .val (.int r4), .val (.int mm), .val (.ref b8), .unset, .unset, .unset] [(.int (f_rm2 (6 : Int32) zz mm)), (.int (6 : Int32)), (.ref b8)])) := K52.trans (st54 _ (Steps.refl _))
  obtain ⟨r55, hr55⟩ : ∃ z : Int32, (f_rm2 (6 : Int32) zz mm) = z := ⟨_, rfl⟩
  rw [hr55] at K56
  obtain ⟨T57, h57, X57, e57, W57, V57, st57⟩ := own_stB Xg54 hx hZ eh54 Vw50 (j := (6 : Int32)) ⟨by decide, by decide⟩ 6 rfl (Nat.le_of_ble_eq_true rfl) (g := (mkF m 119 #[.val (.int p0), .val (.int p1), .val (.long zz), .second, .val (.int r4), .val (.int mm), .val (.ref b8), .unset, .unset, .unset] [(.int r55), (.int (6 : Int32)), (.ref b8)])) rfl rfl (hb hby at_119)
  have K58 : Steps p.tables e below _ (T57.setTop (mkF m 120 #[.val (.int p0), .val (.int p1), .val (.long zz), .second, .val (.int r4), .val (.int mm), .val (.ref b8), .unset, .unset, .unset] [])) := K56.trans st57
  have Vw57 : Arv Z h57 b8 k8 .byte (10 : Int32) [(.int (r13.toInt8.toInt32)), (.int (r20.toInt8.toInt32)), (.int (r27.toInt8.toInt32)), (.int (r34.toInt8.toInt32)), (.int (r41.toInt8.toInt32)), (.int (r48.toInt8.toInt32)), (.int (r55.toInt8.toInt32)), (.int (0 : Int32)), (.int (0 : Int32)), (.int (0 : Int32))] (.int (0 : Int32)) := V57
  have N57 := Fr.snoc X57 Ng54 ge_b8
  obtain ⟨Lg57, Xg57, Ng57⟩ : ∃ Lg, Stand p l e room_1 s m #[(.int p0), (.int p1)] below meth c T57 Lg 1 10 ∧ Fr n0 Lg := ⟨_, X57, N57⟩
  have K59 : Steps p.tables e below _ (T57.setTop (mkF m 129 #[.val (.int p0), .val (.int p1), .val (.long zz), .second, .val (.int r4), .val (.int mm), .val (.ref b8), .unset, .unset, .unset] [(.int mm), (.long zz), (.int (7 : Int32)), (.int (7 : Int32)), (.ref b8)])) := K58.trans (by
    refine XS.aload Xg57.here hx rfl (hb hby at_120) rfl rfl ?_
    refine XS.bipush Xg57.here hx rfl (hb hby at_122) ?_
    refine XS.bipush Xg57.here hx rfl (hb hby at_124) ?_
    refine XS.lloadN Xg57.here hx rfl (hb hby at_126) rfl ?_
    refine XS.iload Xg57.here hx rfl (hb hby at_127) rfl ?_
    show Steps p.tables e below (T57.setTop (mkF m 129 #[.val (.int p0), .val (.int p1), .val (.long zz), .second, .val (.int r4), .val (.int mm), .val (.ref b8), .unset, .unset, .unset] [(.int mm), (.long zz), (.int (7 : Int32)), (.int (7 : Int32)), (.ref b8)])) _
    exact Steps.refl _)
  have Z_60 : n0 ≤ h57.size := (Nat.le_trans Z_53 (Keep.of_wr W57).1)
  obtain ⟨_, _, ⟨T61, L61, k61, n61⟩, -, X61, ⟨Lc61, hQ61, l61, y61, z61⟩, st61⟩ := Jvm.LawKit.callS Xg57 hx (y := (⟨"com/example/thin_gateway/thingateway/avro/AvroDecoderReadIntPinLaw", "at", "(IJI)B"⟩ : MethodName)) hown (mvT hZ (hw _ (List.mem_of_getElem? (i := 8) rfl))) (mvT hZ (hw _ (List.mem_of_getElem? (i := 9) rfl))) (mvT hZ (hw _ (List.mem_of_getElem? (i := 3) rfl))) (mvT hZ (hw _ (List.mem_of_getElem? (i := 10) rfl))) (by decide) (backOf (W := 2) (rm2 l Z a0 hw [] (7 : Int32) zz mm h57 n0 Z_60 ) hZ (hw _ (List.mem_of_getElem? (i := 10) rfl)) (hw _ (List.mem_of_getElem? (i := 3) rfl)) (by decide) (by decide)) (g := (mkF m 129 #[.val (.int p0), .val (.int p1), .val (.long zz), .second, .val (.int r4), .val (.int mm), .val (.ref b8), .unset, .unset, .unset] [(.int mm), (.long zz), (.int (7 : Int32)), (.int (7 : Int32)), (.ref b8)])) rfl (by rw [hml]; rfl) (argsL := [(.int (7 : Int32)), (.long zz), (.int mm)]) (rest := [(.int (7 : Int32)), (.ref b8)]) (lenOf pd_3 rfl) rfl (by show 2 * 0 + _ ≤ _; exact Nat.le_of_eq rfl) (hb hby at_129) (fun _ _ => ⟨rfl, e57, (by decide : 1 + 0 ≤ _), (by decide : 10 + 0 ≤ _)⟩)
  dsimp only [Pt.U, Pt.locs, Pt.cells, Pt.slots] at X61 l61 y61 z61 st61 hQ61
  subst l61 y61 z61
  obtain ⟨rfl, N61, eh61⟩ := hQ61
  have N61' := Fr.app Ng57 N61
  obtain ⟨Lg61, Xg61, Ng61⟩ : ∃ Lg, Stand p l e room_1 s m #[(.int p0), (.int p1)] below meth c T61 Lg 1 10 ∧ Fr n0 Lg := ⟨_, X61, N61'⟩
  have K63 : Steps p.tables e below _ (T61.setTop (mkF m 132 #[.val (.int p0), .val (.int p1), .val (.long zz), .second, .val (.int r4), .val (.int mm), .val (.ref b8), .unset, .unset, .unset] [(.int (f_rm2 (7 : Int32) zz mm)), (.int (7 : Int32)), (.ref b8)])) := K59.trans (st61 _ (Steps.refl _))
  obtain ⟨r62, hr62⟩ : ∃ z : Int32, (f_rm2 (7 : Int32) zz mm) = z := ⟨_, rfl⟩
  rw [hr62] at K63
  obtain ⟨T64, h64, X64, e64, W64, V64, st64⟩ := own_stB Xg61 hx hZ eh61 Vw57 (j := (7 : Int32)) ⟨by decide, by decide⟩ 7 rfl (Nat.le_of_ble_eq_true rfl) (g := (mkF m 132 #[.val (.int p0), .val (.int p1), .val (.long zz), .second, .val (.int r4), .val (.int mm), .val (.ref b8), .unset, .unset, .unset] [(.int r62), (.int (7 : Int32)), (.ref b8)])) rfl rfl (hb hby at_132)
  have K65 : Steps p.tables e below _ (T64.setTop (mkF m 133 #[.val (.int p0), .val (.int p1), .val (.long zz), .second, .val (.int r4), .val (.int mm), .val (.ref b8), .unset, .unset, .unset] [])) := K63.trans st64
  have Vw64 : Arv Z h64 b8 k8 .byte (10 : Int32) [(.int (r13.toInt8.toInt32)), (.int (r20.toInt8.toInt32)), (.int (r27.toInt8.toInt32)), (.int (r34.toInt8.toInt32)), (.int (r41.toInt8.toInt32)), (.int (r48.toInt8.toInt32)), (.int (r55.toInt8.toInt32)), (.int (r62.toInt8.toInt32)), (.int (0 : Int32)), (.int (0 : Int32))] (.int (0 : Int32)) := V64
  have N64 := Fr.snoc X64 Ng61 ge_b8
  obtain ⟨Lg64, Xg64, Ng64⟩ : ∃ Lg, Stand p l e room_1 s m #[(.int p0), (.int p1)] below meth c T64 Lg 1 10 ∧ Fr n0 Lg := ⟨_, X64, N64⟩
  have K66 : Steps p.tables e below _ (T64.setTop (mkF m 142 #[.val (.int p0), .val (.int p1), .val (.long zz), .second, .val (.int r4), .val (.int mm), .val (.ref b8), .unset, .unset, .unset] [(.int mm), (.long zz), (.int (8 : Int32)), (.int (8 : Int32)), (.ref b8)])) := K65.trans (by
    refine XS.aload Xg64.here hx rfl (hb hby at_133) rfl rfl ?_
    refine XS.bipush Xg64.here hx rfl (hb hby at_135) ?_
    refine XS.bipush Xg64.here hx rfl (hb hby at_137) ?_
    refine XS.lloadN Xg64.here hx rfl (hb hby at_139) rfl ?_
    refine XS.iload Xg64.here hx rfl (hb hby at_140) rfl ?_
    show Steps p.tables e below (T64.setTop (mkF m 142 #[.val (.int p0), .val (.int p1), .val (.long zz), .second, .val (.int r4), .val (.int mm), .val (.ref b8), .unset, .unset, .unset] [(.int mm), (.long zz), (.int (8 : Int32)), (.int (8 : Int32)), (.ref b8)])) _
    exact Steps.refl _)
  have Z_67 : n0 ≤ h64.size := (Nat.le_trans Z_60 (Keep.of_wr W64).1)
  obtain ⟨_, _, ⟨T68, L68, k68, n68⟩, -, X68, ⟨Lc68, hQ68, l68, y68, z68⟩, st68⟩ := Jvm.LawKit.callS Xg64 hx (y := (⟨"com/example/thin_gateway/thingateway/avro/AvroDecoderReadIntPinLaw", "at", "(IJI)B"⟩ : MethodName)) hown (mvT hZ (hw _ (List.mem_of_getElem? (i := 8) rfl))) (mvT hZ (hw _ (List.mem_of_getElem? (i := 9) rfl))) (mvT hZ (hw _ (List.mem_of_getElem? (i := 3) rfl))) (mvT hZ (hw _ (List.mem_of_getElem? (i := 10) rfl))) (by decide) (backOf (W := 2) (rm2 l Z a0 hw [] (8 : Int32) zz mm h64 n0 Z_67 ) hZ (hw _ (List.mem_of_getElem? (i := 10) rfl)) (hw _ (List.mem_of_getElem? (i := 3) rfl)) (by decide) (by decide)) (g := (mkF m 142 #[.val (.int p0), .val (.int p1), .val (.long zz), .second, .val (.int r4), .val (.int mm), .val (.ref b8), .unset, .unset, .unset] [(.int mm), (.long zz), (.int (8 : Int32)), (.int (8 : Int32)), (.ref b8)])) rfl (by rw [hml]; rfl) (argsL := [(.int (8 : Int32)), (.long zz), (.int mm)]) (rest := [(.int (8 : Int32)), (.ref b8)]) (lenOf pd_3 rfl) rfl (by show 2 * 0 + _ ≤ _; exact Nat.le_of_eq rfl) (hb hby at_142) (fun _ _ => ⟨rfl, e64, (by decide : 1 + 0 ≤ _), (by decide : 10 + 0 ≤ _)⟩)
  dsimp only [Pt.U, Pt.locs, Pt.cells, Pt.slots] at X68 l68 y68 z68 st68 hQ68
  subst l68 y68 z68
  obtain ⟨rfl, N68, eh68⟩ := hQ68
  have N68' := Fr.app Ng64 N68
  obtain ⟨Lg68, Xg68, Ng68⟩ : ∃ Lg, Stand p l e room_1 s m #[(.int p0), (.int p1)] below meth c T68 Lg 1 10 ∧ Fr n0 Lg := ⟨_, X68, N68'⟩
  have K70 : Steps p.tables e below _ (T68.setTop (mkF m 145 #[.val (.int p0), .val (.int p1), .val (.long zz), .second, .val (.int r4), .val (.int mm), .val (.ref b8), .unset, .unset, .unset] [(.int (f_rm2 (8 : Int32) zz mm)), (.int (8 : Int32)), (.ref b8)])) := K66.trans (st68 _ (Steps.refl _))
  obtain ⟨r69, hr69⟩ : ∃ z : Int32, (f_rm2 (8 : Int32) zz mm) = z := ⟨_, rfl⟩
  rw [hr69] at K70
  obtain ⟨T71, h71, X71, e71, W71, V71, st71⟩ := own_stB Xg68 hx hZ eh68 Vw64 (j := (8 : Int32)) ⟨by decide, by decide⟩ 8 rfl (Nat.le_of_ble_eq_true rfl) (g := (mkF m 145 #[.val (.int p0), .val (.int p1), .val (.long zz), .second, .val (.int r4), .val (.int mm), .val (.ref b8), .unset, .unset, .unset] [(.int r69), (.int (8 : Int32)), (.ref b8)])) rfl rfl (hb hby at_145)
  have K72 : Steps p.tables e below _ (T71.setTop (mkF m 146 #[.val (.int p0), .val (.int p1), .val (.long zz), .second, .val (.int r4), .val (.int mm), .val (.ref b8), .unset, .unset, .unset] [])) := K70.trans st71
  have Vw71 : Arv Z h71 b8 k8 .byte (10 : Int32) [(.int (r13.toInt8.toInt32)), (.int (r20.toInt8.toInt32)), (.int (r27.toInt8.toInt32)), (.int (r34.toInt8.toInt32)), (.int (r41.toInt8.toInt32)), (.int (r48.toInt8.toInt32)), (.int (r55.toInt8.toInt32)), (.int (r62.toInt8.toInt32)), (.int (r69.toInt8.toInt32)), (.int (0 : Int32))] (.int (0 : Int32)) := V71
  have N71 := Fr.snoc X71 Ng68 ge_b8
  obtain ⟨Lg71, Xg71, Ng71⟩ : ∃ Lg, Stand p l e room_1 s m #[(.int p0), (.int p1)] below meth c T71 Lg 1 10 ∧ Fr n0 Lg := ⟨_, X71, N71⟩
  have K73 : Steps p.tables e below _ (T71.setTop (mkF m 155 #[.val (.int p0), .val (.int p1), .val (.long zz), .second, .val (.int r4), .val (.int mm), .val (.ref b8), .unset, .unset, .unset] [(.int mm), (.long zz), (.int (9 : Int32)), (.int (9 : Int32)), (.ref b8)])) := K72.trans (by
    refine XS.aload Xg71.here hx rfl (hb hby at_146) rfl rfl ?_
    refine XS.bipush Xg71.here hx rfl (hb hby at_148) ?_
    refine XS.bipush Xg71.here hx rfl (hb hby at_150) ?_
    refine XS.lloadN Xg71.here hx rfl (hb hby at_152) rfl ?_
    refine XS.iload Xg71.here hx rfl (hb hby at_153) rfl ?_
    show Steps p.tables e below (T71.setTop (mkF m 155 #[.val (.int p0), .val (.int p1), .val (.long zz), .second, .val (.int r4), .val (.int mm), .val (.ref b8), .unset, .unset, .unset] [(.int mm), (.long zz), (.int (9 : Int32)), (.int (9 : Int32)), (.ref b8)])) _
    exact Steps.refl _)
  have Z_74 : n0 ≤ h71.size := (Nat.le_trans Z_67 (Keep.of_wr W71).1)
  obtain ⟨_, _, ⟨T75, L75, k75, n75⟩, -, X75, ⟨Lc75, hQ75, l75, y75, z75⟩, st75⟩ := Jvm.LawKit.callS Xg71 hx (y := (⟨"com/example/thin_gateway/thingateway/avro/AvroDecoderReadIntPinLaw", "at", "(IJI)B"⟩ : MethodName)) hown (mvT hZ (hw _ (List.mem_of_getElem? (i := 8) rfl))) (mvT hZ (hw _ (List.mem_of_getElem? (i := 9) rfl))) (mvT hZ (hw _ (List.mem_of_getElem? (i := 3) rfl))) (mvT hZ (hw _ (List.mem_of_getElem? (i := 10) rfl))) (by decide) (backOf (W := 2) (rm2 l Z a0 hw [] (9 : Int32) zz mm h71 n0 Z_74 ) hZ (hw _ (List.mem_of_getElem? (i := 10) rfl)) (hw _ (List.mem_of_getElem? (i := 3) rfl)) (by decide) (by decide)) (g := (mkF m 155 #[.val (.int p0), .val (.int p1), .val (.long zz), .second, .val (.int r4), .val (.int mm), .val (.ref b8), .unset, .unset, .unset] [(.int mm), (.long zz), (.int (9 : Int32)), (.int (9 : Int32)), (.ref b8)])) rfl (by rw [hml]; rfl) (argsL := [(.int (9 : Int32)), (.long zz), (.int mm)]) (rest := [(.int (9 : Int32)), (.ref b8)]) (lenOf pd_3 rfl) rfl (by show 2 * 0 + _ ≤ _; exact Nat.le_of_eq rfl) (hb hby at_155) (fun _ _ => ⟨rfl, e71, (by decide : 1 + 0 ≤ _), (by decide : 10 + 0 ≤ _)⟩)
  dsimp only [Pt.U, Pt.locs, Pt.cells, Pt.slots] at X75 l75 y75 z75 st75 hQ75
  subst l75 y75 z75
  obtain ⟨rfl, N75, eh75⟩ := hQ75
  have N75' := Fr.app Ng71 N75
  obtain ⟨Lg75, Xg75, Ng75⟩ : ∃ Lg, Stand p l e room_1 s m #[(.int p0), (.int p1)] below meth c T75 Lg 1 10 ∧ Fr n0 Lg := ⟨_, X75, N75'⟩
  have K77 : Steps p.tables e below _ (T75.setTop (mkF m 158 #[.val (.int p0), .val (.int p1), .val (.long zz), .second, .val (.int r4), .val (.int mm), .val (.ref b8), .unset, .unset, .unset] [(.int (f_rm2 (9 : Int32) zz mm)), (.int (9 : Int32)), (.ref b8)])) := K73.trans (st75 _ (Steps.refl _))
  obtain ⟨r76, hr76⟩ : ∃ z : Int32, (f_rm2 (9 : Int32) zz mm) = z := ⟨_, rfl⟩
  rw [hr76] at K77
  obtain ⟨T78, h78, X78, e78, W78, V78, st78⟩ := own_stB Xg75 hx hZ eh75 Vw71 (j := (9 : Int32)) ⟨by decide, by decide⟩ 9 rfl (Nat.le_of_ble_eq_true rfl) (g := (mkF m 158 #[.val (.int p0), .val (.int p1), .val (.long zz), .second, .val (.int r4), .val (.int mm), .val (.ref b8), .unset, .unset, .unset] [(.int r76), (.int (9 : Int32)), (.ref b8)])) rfl rfl (hb hby at_158)
  have K79 : Steps p.tables e below _ (T78.setTop (mkF m 159 #[.val (.int p0), .val (.int p1), .val (.long zz), .second, .val (.int r4), .val (.int mm), .val (.ref b8), .unset, .unset, .unset] [])) := K77.trans st78
  have Vw78 : Arv Z h78 b8 k8 .byte (10 : Int32) [(.int (r13.toInt8.toInt32)), (.int (r20.toInt8.toInt32)), (.int (r27.toInt8.toInt32)), (.int (r34.toInt8.toInt32)), (.int (r41.toInt8.toInt32)), (.int (r48.toInt8.toInt32)), (.int (r55.toInt8.toInt32)), (.int (r62.toInt8.toInt32)), (.int (r69.toInt8.toInt32)), (.int (r76.toInt8.toInt32))] (.int (0 : Int32)) := V78
  have N78 := Fr.snoc X78 Ng75 ge_b8
  obtain ⟨Lg78, Xg78, Ng78⟩ : ∃ Lg, Stand p l e room_1 s m #[(.int p0), (.int p1)] below meth c T78 Lg 1 10 ∧ Fr n0 Lg := ⟨_, X78, N78⟩
  obtain ⟨vsb, hvsb⟩ : ∃ z : List Value, [(.int (r13.toInt8.toInt32)), (.int (r20.toInt8.toInt32)), (.int (r27.toInt8.toInt32)), (.int (r34.toInt8.toInt32)), (.int (r41.toInt8.toInt32)), (.int (r48.toInt8.toInt32)), (.int (r55.toInt8.toInt32)), (.int (r62.toInt8.toInt32)), (.int (r69.toInt8.toInt32)), (.int (r76.toInt8.toInt32))] = z := ⟨_, rfl⟩
  rw [hvsb] at Vw78
  have hM := own_main3 hzz hr4 hmm (own_el3 hr13 hr20 hr27 hr34 hr41 hr48 hr55 hr62 hr69 hr76 hvsb)
  have Z_81 : n0 ≤ h78.size := (Nat.le_trans Z_74 (Keep.of_wr W78).1)
  obtain ⟨T80, h80, X80, e80, E80, A80, D80, -, st80⟩ := newO Xg78 hx hZ hown (hw _ (List.mem_of_getElem? (i := 12) rfl)) (hw _ (List.mem_of_getElem? (i := 13) rfl)) (hw _ (List.mem_of_getElem? (i := 14) rfl)) e78 (g := (mkF m 159 #[.val (.int p0), .val (.int p1), .val (.long zz), .second, .val (.int r4), .val (.int mm), .val (.ref b8), .unset, .unset, .unset] [])) rfl (hb hby at_159) (by decide) (by decide)
  obtain ⟨b80, g80⟩ : ∃ z, z = h78.size := ⟨_, rfl⟩
  rw [← g80] at A80 D80 st80
  have ne_b8_b80 : b8 ≠ b80 := Nat.ne_of_lt (Nat.lt_of_lt_of_le Vw78.lt (Nat.le_of_eq g80.symm))
  have ge_b80 : n0 ≤ b80 := Nat.le_trans Z_81 (Nat.le_of_eq g80.symm)
  have K82 : Steps p.tables e below _ (T80.setTop (mkF m 162 #[.val (.int p0), .val (.int p1), .val (.long zz), .second, .val (.int r4), .val (.int mm), .val (.ref b8), .unset, .unset, .unset] [(.ref b80)])) := K79.trans (st80 _ (Steps.refl _))
  have F80_input : Fld Z h80 b80 "com/example/thin_gateway/thingateway/avro/AvroDecoder" "input" "[B" .null := D80 (Or.inr (hw _ (List.mem_of_getElem? (i := 35) rfl))) (ty := (.array .byte)) (by decide)
  have F80_position : Fld Z h80 b80 "com/example/thin_gateway/thingateway/avro/AvroDecoder" "position" "I" (.int (0 : Int32)) := D80 (Or.inl (hw _ (List.mem_of_getElem? (i := 42) rfl))) (ty := .int) (by decide)
  have K83 : Steps p.tables e below _ (T80.setTop (mkF m 165 #[.val (.int p0), .val (.int p1), .val (.long zz), .second, .val (.int r4), .val (.int mm), .val (.ref b8), .unset, .unset, .unset] [(.ref b8), (.ref b80), (.ref b80)])) := K82.trans (by
    refine XS.dup X80.here hx rfl (hb hby at_162) rfl rfl ?_
    refine XS.aload X80.here hx rfl (hb hby at_163) rfl rfl ?_
    exact Steps.refl _)
  have Z_84 : n0 ≤ h80.size := (Nat.le_trans Z_81 E80.1)
  have E_85 : Exa Z h80 b8 "[B" := (((((((((((A8.wr W15).wr W22).wr W29).wr W36).wr W43).wr W50).wr W57).wr W64).wr W71).wr W78).ext E80)
  obtain ⟨_, _, ⟨T86, L86, k86, n86⟩, -, X86, hS86, hgr86, ⟨Lc86, hQ86, l86, y86, z86⟩, st86⟩ := X80.specialBackS hx (y := (⟨"com/example/thin_gateway/thingateway/avro/AvroDecoder", "<init>", "([B)V"⟩ : MethodName)) rfl hown (mvT hZ (hw _ (List.mem_of_getElem? (i := 15) rfl))) (mvT hZ (hw _ (List.mem_of_getElem? (i := 16) rfl))) (mvT hZ (hw _ (List.mem_of_getElem? (i := 17) rfl))) (by decide) (backOfS (W := 1) (rm3 l Z a0 hw [] b80 b8 (0 : Int32) .null h80 n0 Z_84 A80 F80_position E_85 (Ne.symm ne_b8_b80) ge_b80 F80_input) hZ (hw _ (List.mem_of_getElem? (i := 17) rfl)) (hw _ (List.mem_of_getElem? (i := 14) rfl)) (by decide) (by decide)) (g := (mkF m 165 #[.val (.int p0), .val (.int p1), .val (.long zz), .second, .val (.int r4), .val (.int mm), .val (.ref b8), .unset, .unset, .unset] [(.ref b8), (.ref b80), (.ref b80)])) rfl (by rw [hml]; rfl) K83 (a := b80) (argsL := [(.ref b8)]) (rest := [(.ref b80)]) (lenOf pd_4 rfl) rfl (by show 2 * 0 + _ ≤ _; exact Nat.le_of_eq rfl) (hb hby at_165) (fun _ _ => ⟨rfl, e80, (by decide : 2 + 2 ≤ _), (by decide : 12 + 24 ≤ _)⟩)
  dsimp only [Pt.U, Pt.locs, Pt.cells, Pt.slots] at X86 l86 y86 z86 st86 hQ86 hS86 hgr86
  subst l86 y86 z86
  have hZ86 : Z.Warmed39 (s.setVm T86.vm).vm := State.Warmed39.trans hZ hS86.1
  have hown86 : (s.setVm T86.vm).vm.findClass "com/example/thin_gateway/thingateway/avro/AvroDecoderReadIntPinLaw" = some m.cls := (hS86.1.alike.findClass _ _).trans hown
  have hZ := hZ86
  have hown := hown86
  obtain ⟨rfl, N86, Kp86, Q86_0, Q86_1, Q86_2⟩ := hQ86
  have hkk86 : T86.heap.size ≤ T86.heap.size := Nat.le_refl _
  have N86' := Fr.app Ng78 N86
  obtain ⟨Lg86, Xg86, Ng86⟩ : ∃ Lg, Stand p l e room_1 (s.setVm T86.vm) m #[(.int p0), (.int p1)] below meth c T86 Lg 4 36 ∧ Fr n0 Lg := ⟨_, X86, N86'⟩
  have K87 : Steps p.tables e below _ (T86.setTop (mkF m 168 #[.val (.int p0), .val (.int p1), .val (.long zz), .second, .val (.int r4), .val (.int mm), .val (.ref b8), .unset, .unset, .unset] [(.ref b80)])) := st86
  have K88 : Steps p.tables e below _ (T86.setTop (mkF m 172 #[.val (.int p0), .val (.int p1), .val (.long zz), .second, .val (.int r4), .val (.int mm), .val (.ref b8), .val (.ref b80), .unset, .unset] [(.ref b80)])) := K87.trans (by
    refine XS.astore Xg86.here hx rfl (hb hby at_168) rfl rfl (l' := #[.val (.int p0), .val (.int p1), .val (.long zz), .second, .val (.int r4), .val (.int mm), .val (.ref b8), .val (.ref b80), .unset, .unset]) rfl ?_
    refine XS.aload Xg86.here hx rfl (hb hby at_170) rfl rfl ?_
    exact Steps.refl _)
  have Z_89 : n0 ≤ T86.heap.size := (Nat.le_trans Z_84 Kp86.1)
  have V_90 : Arv Z T86.heap b8 k8 .byte (10 : Int32) vsb (.int (0 : Int32)) := ((Vw78.ext E80).keep Kp86 (ninS ne_b8_b80 nin0))
  obtain ⟨cq91, kq91, q91a, q91b, q91c⟩ := isOf hZ rfl Q86_0
  obtain ⟨_, _, ⟨T91, L91, k91, n91⟩, -, X91, ⟨Lc91, hQ91, l91, y91, z91⟩, st91⟩ := Xg86.virtualBack hx (y := (⟨"com/example/thin_gateway/thingateway/avro/AvroDecoder", "readInt", "()I"⟩ : MethodName)) (z := (⟨"com/example/thin_gateway/thingateway/avro/AvroDecoder", "readInt", "()I"⟩ : MethodName)) hown (mvT hZ (hw _ (List.mem_of_getElem? (i := 36) rfl))) (mvT hZ (hw _ (List.mem_of_getElem? (i := 37) rfl))) (notFace_of_selects (args := #[]) (mvT hZ (hw _ (List.mem_of_getElem? (i := 39) rfl)))) (mvT hZ (hw _ (List.mem_of_getElem? (i := 39) rfl))) (mvT hZ (hw _ (List.mem_of_getElem? (i := 38) rfl))) (by decide) (backOf (W := 0) (rm6 l Z a0 hw [] b80 b8 k8 (10 : Int32) vsb (0 : Int32) T86.heap n0 Z_89 Q86_0 Q86_2 Q86_1 V_90 (Ne.symm ne_b8_b80) ge_b80 (hM.1) (hM.2.2.1) (hM.2.2.2.1)) hZ (hw _ (List.mem_of_getElem? (i := 40) rfl)) (hw _ (List.mem_of_getElem? (i := 14) rfl)) (by decide) (by decide)) q91a q91c (g := (mkF m 172 #[.val (.int p0), .val (.int p1), .val (.long zz), .second, .val (.int r4), .val (.int mm), .val (.ref b8), .val (.ref b80), .unset, .unset] [(.ref b80)])) rfl (by rw [hml]; rfl) K88 (argsL := []) (rest := []) (lenOf pd_5 rfl) rfl (by show 2 * 0 + _ ≤ _; exact Nat.le_of_eq rfl) (hb hby at_172) (fun _ _ => ⟨rfl, rfl, (by decide : 4 + 0 ≤ _), (by decide : 36 + 0 ≤ _)⟩)
  dsimp only [Pt.U, Pt.locs, Pt.cells, Pt.slots] at X91 l91 y91 z91 st91 hQ91
  subst l91 y91 z91
  obtain ⟨rfl, N91, Kp91, Q91_0, Q91_1, Q91_2⟩ := hQ91
  have N91' := Fr.app Ng86 N91
  obtain ⟨Lg91, Xg91, Ng91⟩ : ∃ Lg, Stand p l e room_1 (s.setVm T86.vm) m #[(.int p0), (.int p1)] below meth c T91 Lg 4 36 ∧ Fr n0 Lg := ⟨_, X91, N91'⟩
  have K93 : Steps p.tables e below _ (T91.setTop (mkF m 175 #[.val (.int p0), .val (.int p1), .val (.long zz), .second, .val (.int r4), .val (.int mm), .val (.ref b8), .val (.ref b80), .unset, .unset] [(.int (f_rm6 vsb (0 : Int32)))])) := st91
  obtain ⟨r92, hr92⟩ : ∃ z : Int32, (f_rm6 vsb (0 : Int32)) = z := ⟨_, rfl⟩
  rw [hr92] at K93
  rw [hM.2.1] at Q91_2
  have K95 : Steps p.tables e below _ (T91.setTop (mkF m 180 #[.val (.int p0), .val (.int p1), .val (.long zz), .second, .val (.int r4), .val (.int mm), .val (.ref b8), .val (.ref b80), .val (.int r92), .unset] [(.int p0), (.int r92)])) := K93.trans (by
    refine XS.istore Xg91.here hx rfl (hb hby at_175) rfl (l' := #[.val (.int p0), .val (.int p1), .val (.long zz), .second, .val (.int r4), .val (.int mm), .val (.ref b8), .val (.ref b80), .val (.int r92), .unset]) rfl ?_
    refine XS.iload Xg91.here hx rfl (hb hby at_177) rfl ?_
    refine XS.iloadN Xg91.here hx rfl (hb hby at_179) rfl ?_
    exact Steps.refl _)
  have hc180_93 : r92 = p0 := hr92.symm.trans hM.2.2.2.2.1
  have K96 : Steps p.tables e below _ (T91.setTop (mkF m 189 #[.val (.int p0), .val (.int p1), .val (.long zz), .second, .val (.int r4), .val (.int mm), .val (.ref b8), .val (.ref b80), .val (.int r92), .unset] [(.int (10 : Int32)), (.int mm)])) := K95.trans (by
    refine XS.icmpYes Xg91.here hx rfl (pc0 := 180) (pc' := 185) rfl (hb hby at_180) rfl (teq hc180_93).1 (by decide) (by decide) ?_
    refine XS.iload Xg91.here hx rfl (hb hby at_185) rfl ?_
    refine XS.bipush Xg91.here hx rfl (hb hby at_187) ?_
    exact Steps.refl _)
  obtain ⟨T97, L97, h97, s97_0, v97_1, X97, e97, N97, Z97, M97_1, M97_2, M97_3, M97_4, M97_5, M97_6, hs97_0, hv97_1, S97⟩ : ∃ (T97 : State) (L97 : List Loc) (h97 : Heap) (s97_0 : Slot) (v97_1 : Int32), Stand p l e room_1 (s.setVm T86.vm) m #[(.int p0), (.int p1)] below meth c T97 L97 4 36 ∧ T97.heap = h97 ∧ Fr n0 L97 ∧ n0 ≤ h97.size ∧ Arv Z h97 b8 k8 .byte (10 : Int32) vsb (.int (0 : Int32)) ∧ Exa Z h97 b8 "[B" ∧ Exa Z h97 b80 "com/example/thin_gateway/thingateway/avro/AvroDecoder" ∧ T86.heap.size ≤ h97.size ∧ Fld Z h97 b80 "com/example/thin_gateway/thingateway/avro/AvroDecoder" "input" "[B" (.ref b8) ∧ Fld Z h97 b80 "com/example/thin_gateway/thingateway/avro/AvroDecoder" "position" "I" (.int v97_1) ∧ (if mm < (10 : Int32) then (Slot.val (.int (f_rm6 vsb mm))) else (Slot.unset)) = s97_0 ∧ (if mm < (10 : Int32) then (10 : Int32) else mm) = v97_1 ∧ Steps p.tables e below (T91.setTop (mkF m 189 #[.val (.int p0), .val (.int p1), .val (.long zz), .second, .val (.int r4), .val (.int mm), .val (.ref b8), .val (.ref b80), .val (.int r92), .unset] [(.int (10 : Int32)), (.int mm)])) (T97.setTop (mkF m 216 #[.val (.int p0), .val (.int p1), .val (.long zz), .second, .val (.int r4), .val (.int mm), .val (.ref b8), .val (.ref b80), .val (.int r92), s97_0] [])) := by
    have R97 := Steps.refl (tb := p.tables) (e := e) (below := below) (T91.setTop (mkF m 189 #[.val (.int p0), .val (.int p1), .val (.long zz), .second, .val (.int r4), .val (.int mm), .val (.ref b8), .val (.ref b80), .val (.int r92), .unset] [(.int (10 : Int32)), (.int mm)]))
    by_cases hc189 : mm < (10 : Int32)
    · have K98 : Steps p.tables e below _ (T91.setTop (mkF m 194 #[.val (.int p0), .val (.int p1), .val (.long zz), .second, .val (.int r4), .val (.int mm), .val (.ref b8), .val (.ref b80), .val (.int r92), .unset] [(.ref b80)])) := R97.trans (by
        refine XS.icmpNo Xg91.here hx rfl (hb hby at_189) rfl (tlt hc189).2.1 ?_
        refine XS.aload Xg91.here hx rfl (hb hby at_192) rfl rfl ?_
        exact Steps.refl _)
      have Z_99 : n0 ≤ T91.heap.size := (Nat.le_trans Z_89 Kp91.1)
      have V_100 : Arv Z T91.heap b8 k8 .byte (10 : Int32) vsb (.int (0 : Int32)) := (V_90.keep Kp91 (ninS ne_b8_b80 nin0))
      obtain ⟨cq101, kq101, q101a, q101b, q101c⟩ := isOf hZ rfl Q91_0
      obtain ⟨_, _, ⟨T101, L101, k101, n101⟩, -, X101, ⟨Lc101, hQ101, l101, y101, z101⟩, st101⟩ := Xg91.virtualBack hx (y := (⟨"com/example/thin_gateway/thingateway/avro/AvroDecoder", "isAtEnd", "()Z"⟩ : MethodName)) (z := (⟨"com/example/thin_gateway/thingateway/avro/AvroDecoder", "isAtEnd", "()Z"⟩ : MethodName)) hown (mvT hZ (hw _ (List.mem_of_getElem? (i := 50) rfl))) (mvT hZ (hw _ (List.mem_of_getElem? (i := 51) rfl))) (notFace_of_selects (args := #[]) (mvT hZ (hw _ (List.mem_of_getElem? (i := 53) rfl)))) (mvT hZ (hw _ (List.mem_of_getElem? (i := 53) rfl))) (mvT hZ (hw _ (List.mem_of_getElem? (i := 52) rfl))) (by decide) (backOf (W := 0) (rm8 l Z a0 hw [] b80 b8 k8 (10 : Int32) vsb mm T91.heap n0 Z_99 Q91_1 Q91_2 V_100) hZ (hw _ (List.mem_of_getElem? (i := 54) rfl)) (hw _ (List.mem_of_getElem? (i := 14) rfl)) (by decide) (by decide)) q101a q101c (g := (mkF m 194 #[.val (.int p0), .val (.int p1), .val (.long zz), .second, .val (.int r4), .val (.int mm), .val (.ref b8), .val (.ref b80), .val (.int r92), .unset] [(.ref b80)])) rfl (by rw [hml]; rfl) K98 (argsL := []) (rest := []) (lenOf pd_6 rfl) rfl (by show 2 * 0 + _ ≤ _; exact Nat.le_of_eq rfl) (hb hby at_194) (fun _ _ => ⟨rfl, rfl, (by decide : 4 + 0 ≤ _), (by decide : 36 + 0 ≤ _)⟩)
      dsimp only [Pt.U, Pt.locs, Pt.cells, Pt.slots] at X101 l101 y101 z101 st101 hQ101
      subst l101 y101 z101
      obtain ⟨rfl, N101, eh101⟩ := hQ101
      have N101' := Fr.app Ng91 N101
      obtain ⟨Lg101, Xg101, Ng101⟩ : ∃ Lg, Stand p l e room_1 (s.setVm T86.vm) m #[(.int p0), (.int p1)] below meth c T101 Lg 4 36 ∧ Fr n0 Lg := ⟨_, X101, N101'⟩
      have K103 : Steps p.tables e below _ (T101.setTop (mkF m 197 #[.val (.int p0), .val (.int p1), .val (.long zz), .second, .val (.int r4), .val (.int mm), .val (.ref b8), .val (.ref b80), .val (.int r92), .unset] [(.int ((if mm = (10 : Int32) then (1 : Int32) else (0 : Int32)) &&& 1))])) := st101
      obtain ⟨r102, hr102⟩ : ∃ z : Int32, ((if mm = (10 : Int32) then (1 : Int32) else (0 : Int32)) &&& 1) = z := ⟨_, rfl⟩
      rw [hr102] at K103
      have hc197_103 : r102 = (0 : Int32) := own_ne10 hr102 hc189
      have K105 : Steps p.tables e below _ (T101.setTop (mkF m 204 #[.val (.int p0), .val (.int p1), .val (.long zz), .second, .val (.int r4), .val (.int mm), .val (.ref b8), .val (.ref b80), .val (.int r92), .unset] [(.ref b80)])) := K103.trans (by
        refine XS.ifYes Xg101.here hx rfl (pc0 := 197) (pc' := 202) rfl (hb hby at_197) rfl ((if0 _ _).trans (teq hc197_103).1) (by decide) (by decide) ?_
        refine XS.aload Xg101.here hx rfl (hb hby at_202) rfl rfl ?_
        exact Steps.refl _)
      obtain ⟨cq106, kq106, q106a, q106b, q106c⟩ := isOf hZ eh101 Q91_0
      obtain ⟨_, _, ⟨T106, L106, k106, n106⟩, -, X106, ⟨Lc106, hQ106, l106, y106, z106⟩, st106⟩ := Xg101.virtualBack hx (y := (⟨"com/example/thin_gateway/thingateway/avro/AvroDecoder", "readInt", "()I"⟩ : MethodName)) (z := (⟨"com/example/thin_gateway/thingateway/avro/AvroDecoder", "readInt", "()I"⟩ : MethodName)) hown (mvT hZ (hw _ (List.mem_of_getElem? (i := 36) rfl))) (mvT hZ (hw _ (List.mem_of_getElem? (i := 37) rfl))) (notFace_of_selects (args := #[]) (mvT hZ (hw _ (List.mem_of_getElem? (i := 39) rfl)))) (mvT hZ (hw _ (List.mem_of_getElem? (i := 39) rfl))) (mvT hZ (hw _ (List.mem_of_getElem? (i := 38) rfl))) (by decide) (backOf (W := 0) (rm6 l Z a0 hw [] b80 b8 k8 (10 : Int32) vsb mm T91.heap n0 Z_99 Q91_0 Q91_1 Q91_2 V_100 (Ne.symm ne_b8_b80) ge_b80 ((hM.2.2.2.2.2.2 hc189).1) ((hM.2.2.2.2.2.2 hc189).2.2.1) ((hM.2.2.2.2.2.2 hc189).2.2.2.1)) hZ (hw _ (List.mem_of_getElem? (i := 40) rfl)) (hw _ (List.mem_of_getElem? (i := 14) rfl)) (by decide) (by decide)) q106a q106c (g := (mkF m 204 #[.val (.int p0), .val (.int p1), .val (.long zz), .second, .val (.int r4), .val (.int mm), .val (.ref b8), .val (.ref b80), .val (.int r92), .unset] [(.ref b80)])) rfl (by rw [hml]; rfl) K105 (argsL := []) (rest := []) (lenOf pd_5 rfl) rfl (by show 2 * 0 + _ ≤ _; exact Nat.le_of_eq rfl) (hb hby at_204) (fun _ _ => ⟨rfl, eh101, (by decide : 4 + 0 ≤ _), (by decide : 36 + 0 ≤ _)⟩)
      dsimp only [Pt.U, Pt.locs, Pt.cells, Pt.slots] at X106 l106 y106 z106 st106 hQ106
      subst l106 y106 z106
      obtain ⟨rfl, N106, Kp106, Q106_0, Q106_1, Q106_2⟩ := hQ106
      have N106' := Fr.app Ng101 N106
      obtain ⟨Lg106, Xg106, Ng106⟩ : ∃ Lg, Stand p l e room_1 (s.setVm T86.vm) m #[(.int p0), (.int p1)] below meth c T106 Lg 4 36 ∧ Fr n0 Lg := ⟨_, X106, N106'⟩
      have K108 : Steps p.tables e below _ (T106.setTop (mkF m 207 #[.val (.int p0), .val (.int p1), .val (.long zz), .second, .val (.int r4), .val (.int mm), .val (.ref b8), .val (.ref b80), .val (.int r92), .unset] [(.int (f_rm6 vsb mm))])) := st106
      obtain ⟨r107, hr107⟩ : ∃ z : Int32, (f_rm6 vsb mm) = z := ⟨_, rfl⟩
      rw [hr107] at K108
      rw [(hM.2.2.2.2.2.2 hc189).2.1] at Q106_2
      have K110 : Steps p.tables e below _ (T106.setTop (mkF m 211 #[.val (.int p0), .val (.int p1), .val (.long zz), .second, .val (.int r4), .val (.int mm), .val (.ref b8), .val (.ref b80), .val (.int r92), .val (.int r107)] [(.int r107)])) := K108.trans (by
        refine XS.istore Xg106.here hx rfl (hb hby at_207) rfl (l' := #[.val (.int p0), .val (.int p1), .val (.long zz), .second, .val (.int r4), .val (.int mm), .val (.ref b8), .val (.ref b80), .val (.int r92), .val (.int r107)]) rfl ?_
        refine XS.iload Xg106.here hx rfl (hb hby at_209) rfl ?_
        exact Steps.refl _)
      have hc211_108 : r107 = (0 : Int32) := hr107.symm.trans (hM.2.2.2.2.2.2 hc189).2.2.2.2
      have K111 : Steps p.tables e below _ (T106.setTop (mkF m 216 #[.val (.int p0), .val (.int p1), .val (.long zz), .second, .val (.int r4), .val (.int mm), .val (.ref b8), .val (.ref b80), .val (.int r92), .val (.int r107)] [])) := K110.trans (by
        refine XS.ifYes Xg106.here hx rfl (pc0 := 211) (pc' := 216) rfl (hb hby at_211) rfl ((if0 _ _).trans (teq hc211_108).1) (by decide) (by decide) ?_
        exact Steps.refl _)
      have Z_113 : n0 ≤ T106.heap.size := (Nat.le_trans Z_99 Kp106.1)
      have V_114 : Arv Z T106.heap b8 k8 .byte (10 : Int32) vsb (.int (0 : Int32)) := (V_100.keep Kp106 (ninS ne_b8_b80 nin0))
      have E_115 : Exa Z T106.heap b8 "[B" := (((E_85.keep Kp86).keep Kp91).keep Kp106)
      have Y_116 : T86.heap.size ≤ T106.heap.size := (Nat.le_trans (Nat.le_trans hkk86 Kp91.1) Kp106.1)
      subst hr107
      subst hr102
      exact ⟨T106, _, _, (Slot.val (.int (f_rm6 vsb mm))), (10 : Int32), Xg106, rfl, Ng106, Z_113, V_114, E_115, Q106_0, Y_116, Q106_1, Q106_2, (by rw [if_pos hc189]), (by rw [if_pos hc189]), K111⟩
    · have K112 : Steps p.tables e below _ (T91.setTop (mkF m 216 #[.val (.int p0), .val (.int p1), .val (.long zz), .second, .val (.int r4), .val (.int mm), .val (.ref b8), .val (.ref b80), .val (.int r92), .unset] [])) := R97.trans (by
        refine XS.icmpYes Xg91.here hx rfl (pc0 := 189) (pc' := 216) rfl (hb hby at_189) rfl (flt hc189).2.1 (by decide) (by decide) ?_
        exact Steps.refl _)
      have Z_117 : n0 ≤ T91.heap.size := (Nat.le_trans Z_89 Kp91.1)
      have V_118 : Arv Z T91.heap b8 k8 .byte (10 : Int32) vsb (.int (0 : Int32)) := (V_90.keep Kp91 (ninS ne_b8_b80 nin0))
      have E_119 : Exa Z T91.heap b8 "[B" := ((E_85.keep Kp86).keep Kp91)
      have Y_120 : T86.heap.size ≤ T91.heap.size := (Nat.le_trans hkk86 Kp91.1)
      exact ⟨T91, _, _, (Slot.unset), mm, Xg91, rfl, Ng91, Z_117, V_118, E_119, Q91_0, Y_120, Q91_1, Q91_2, (by rw [if_neg hc189]), (by rw [if_neg hc189]), K112⟩
  have K121 := K96.trans S97
  have K122 : Steps p.tables e below _ (T97.setTop (mkF m 218 #[.val (.int p0), .val (.int p1), .val (.long zz), .second, .val (.int r4), .val (.int mm), .val (.ref b8), .val (.ref b80), .val (.int r92), s97_0] [(.ref b80)])) := K121.trans (by
    refine XS.aload X97.here hx rfl (hb hby at_216) rfl rfl ?_
    exact Steps.refl _)
  obtain ⟨cq123, kq123, q123a, q123b, q123c⟩ := isOf hZ e97 M97_3
  obtain ⟨_, _, ⟨T123, L123, k123, n123⟩, -, X123, ⟨Lc123, hQ123, l123, y123, z123⟩, st123⟩ := X97.virtualBack hx (y := (⟨"com/example/thin_gateway/thingateway/avro/AvroDecoder", "isAtEnd", "()Z"⟩ : MethodName)) (z := (⟨"com/example/thin_gateway/thingateway/avro/AvroDecoder", "isAtEnd", "()Z"⟩ : MethodName)) hown (mvT hZ (hw _ (List.mem_of_getElem? (i := 50) rfl))) (mvT hZ (hw _ (List.mem_of_getElem? (i := 51) rfl))) (notFace_of_selects (args := #[]) (mvT hZ (hw _ (List.mem_of_getElem? (i := 53) rfl)))) (mvT hZ (hw _ (List.mem_of_getElem? (i := 53) rfl))) (mvT hZ (hw _ (List.mem_of_getElem? (i := 52) rfl))) (by decide) (backOf (W := 0) (rm8 l Z a0 hw [] b80 b8 k8 (10 : Int32) vsb v97_1 h97 n0 Z97 M97_5 M97_6 M97_1) hZ (hw _ (List.mem_of_getElem? (i := 54) rfl)) (hw _ (List.mem_of_getElem? (i := 14) rfl)) (by decide) (by decide)) q123a q123c (g := (mkF m 218 #[.val (.int p0), .val (.int p1), .val (.long zz), .second, .val (.int r4), .val (.int mm), .val (.ref b8), .val (.ref b80), .val (.int r92), s97_0] [(.ref b80)])) rfl (by rw [hml]; rfl) K122 (argsL := []) (rest := []) (lenOf pd_6 rfl) rfl (by show 2 * 0 + _ ≤ _; exact Nat.le_of_eq rfl) (hb hby at_218) (fun _ _ => ⟨rfl, e97, (by decide : 4 + 0 ≤ _), (by decide : 36 + 0 ≤ _)⟩)
  dsimp only [Pt.U, Pt.locs, Pt.cells, Pt.slots] at X123 l123 y123 z123 st123 hQ123
  subst l123 y123 z123
  obtain ⟨rfl, N123, eh123⟩ := hQ123
  have N123' := Fr.app N97 N123
  obtain ⟨Lg123, Xg123, Ng123⟩ : ∃ Lg, Stand p l e room_1 (s.setVm T86.vm) m #[(.int p0), (.int p1)] below meth c T123 Lg 4 36 ∧ Fr n0 Lg := ⟨_, X123, N123'⟩
  have K125 : Steps p.tables e below _ (T123.setTop (mkF m 221 #[.val (.int p0), .val (.int p1), .val (.long zz), .second, .val (.int r4), .val (.int mm), .val (.ref b8), .val (.ref b80), .val (.int r92), s97_0] [(.int ((if v97_1 = (10 : Int32) then (1 : Int32) else (0 : Int32)) &&& 1))])) := st123
  obtain ⟨r124, hr124⟩ : ∃ z : Int32, ((if v97_1 = (10 : Int32) then (1 : Int32) else (0 : Int32)) &&& 1) = z := ⟨_, rfl⟩
  rw [hr124] at K125
  have hone : (r124 &&& 1) = (1 : Int32) := own_law_0 p0 p1 zz r4 mm r13 r20 r27 r34 r41 r48 r55 r62 r69 r76 vsb r92 s97_0 v97_1 r124 hzz hr4 hmm hr13 hr20 hr27 hr34 hr41 hr48 hr55 hr62 hr69 hr76 hvsb hr92 hs97_0 hv97_1 hr124 hc180_93
  obtain ⟨fs, hr, hrun, hended, hEW⟩ := Xg123.leaveW hS86 (by rw [eh123]; exact M97_4) (v := some (.int (r124 &&& 1))) (fun h => by rw [Bd.returns] at h; cases h)
  exact ⟨_, _, K125.trans (retN Xg123 hx (t := .boolean) Bd.returns (by simp) (hb hby at_221) hr), hrun, hended, _, _, rfl, ⟨by rw [hone], Ng123⟩, ⟨_, rfl⟩, hEW.2.1, hEW.2.2.1, hEW.2.2.2.mono (by decide) (by decide)⟩
set_option maxRecDepth 65536 in
set_option maxHeartbeats 40000000 in
theorem comes_1 {Post : Tables → Env → Array Value → State → Outcome → State → Prop} (hpost : ∀ tb e args s v u, (limb_1_1.after args s (.returned v) u = true ∧ limb_1_2.after args s (.returned v) u = true ∧ True) → ReturnedEndW s (.returned v) u (Jvm.fieldLocs frame_1_writes args s ++ Jvm.arrayLocs frame_1_arrays args s ++ Jvm.staticLocs frame_1_statics s) 16 1152 → Post tb e args s (.returned v) u) :
    ArmFor flags0 classFile x code maxLocals ret World_1 tables_1 room_1 Calls_1 rest_1 Pre_1 Post := by
  intro l hfl _ _ p e ha hc hk s m args below hf hA hF happ hP
  obtain ⟨hcalls, hrest, hpre⟩ := hP
  obtain ⟨-, -, -, hnamed, -, -, -, hat⟩ := (Spec.applies_iff hf).mp happ
  obtain ⟨hg, hn⟩ := and_e (Cond.before_iff.mp (show (Jvm.Cond.and given_1 narrow_1).before args s = true from hpre))
  obtain ⟨g1, g2⟩ := and_e hg
  obtain ⟨g3, g4⟩ := and_e g2
  obtain ⟨w0, w1, rfl⟩ : ∃ w0 w1 : Value, args = #[w0, w1] := by
    have hs : args.size = 2 := by simpa [Cond.value, given_1] using g1
    obtain ⟨L⟩ := args
    match L, hs with
    | [w0, w1], _ => exact ⟨w0, w1, rfl⟩
  have hw := fun d (hd : d ∈ tables_1) => atoms_spec (ws := Jvm.Cond.code x code maxLocals ret :: tables_1) hat d (List.mem_cons_of_mem _ hd)
  obtain ⟨i0, ei0⟩ := is_v g3
  obtain rfl : w0 = (.int i0) := Option.some.inj ei0
  obtain ⟨i1, ei1⟩ := is_v g4
  obtain rfl : w1 = (.int i1) := Option.some.inj ei1
  obtain ⟨n, o, h1, h2, h3, _, L, rfl, ⟨rfl, N⟩, hq⟩ := rm0 l s _ hw tables_1 i0 i1 s.heap s.heap.size (Nat.le_refl _) p e ha hc hk s m _ below hf ((Spec.applies_iff_loose hf).mp happ).1 ⟨rfl, State.Warmed39.refl s, rfl⟩ trivial
  refine ⟨n, _, h1, h2, h3, hpost _ _ _ _ _ _ ⟨Cond.after_iff.mpr rfl, Cond.after_iff.mpr (eq_i res_at (Term.int_eval (1)) rfl), trivial⟩ ⟨hq.1, hq.2.1, hq.2.2.1, (hq.2.2.2.sift fun y hy => Or.inr (N y hy)).mono (by decide) (by decide)⟩⟩
theorem main_1_1 : Claimed_1_1 := comes_1 fun _ _ _ _ _ _ h hF => ⟨h.1, hF⟩
theorem main_1_2 : Claimed_1_2 := comes_1 fun _ _ _ _ _ _ h hF => ⟨h.2.1, hF⟩
end Jvm.Pilot.@@N@@
namespace Jvm.Pilot.@@N@@
open Jvm Jvm.ClassFile Sem Op Lib Jvm.Free Jvm.Stand Jvm.Pilot.@@N@@.Jvm.D
/-! MADE BY PROGRAM (witnessworld.py) out of the Statement's table words and the real class files: 15 classes; the members and pool entries that the words name. The judged class is class 1, her method 3. -/
namespace start1
open Jvm.ClassFile
def u (s : String) : CpInfo := .utf8 (stringToUtf16 s)
/-- a pool by its gaps: so many unusable entries, then the entry; so many at the end -/
def gap : Nat → List CpInfo → List CpInfo
  | 0, r => r
  | n + 1, r => .unusable :: gap n r
def poolList (es : List (Nat × CpInfo)) (last : Nat) : List CpInfo := es.foldr (fun e r => gap e.1 (e.2 :: r)) (gap last [])
def pool (es : List (Nat × CpInfo)) (last : Nat) : Array CpInfo := ⟨poolList es last⟩
def fileOf (pool : Array CpInfo) (this : Nat) (attrs : Array Attribute := #[]) (ms : Array MethodInfo := #[]) (fl : Nat := 33) (sup : Nat := 0) (ifs : Array Nat := #[]) (fds : Array FieldInfo := #[]) : ClassFile where
  minorVersion := 0
  majorVersion := 65
  constantPool := pool
  accessFlags := fl
  thisClass := this
  superClass := sup
  interfaces := ifs
  fields := fds
  methods := ms
  attributes := attrs
def plain (name : String) (sup : Option ClassId) : Class where
  name := name
  kind := .ordinary
  loader := none
  accessFlags := 33
  super := sup
  interfaces := #[]
  cf := none
  fields := #[]
  methods := #[]
  instanceTypes := #[]
  staticTypes := #[]
  resolved := #[]
  callSites := []
  init := .initialized
  statics := none
  mirror := none

def pool0 : Array CpInfo := pool [(5, u "<init>"), (0, u "()V"), (1, .class_ 10), (1, u "java/lang/Object")] 113

def k0c0 : Code := { maxStack := 0, maxLocals := 1, code := object_method_1_code, exceptionTable := #[], attributes := #[] }
def k0m0 : Method := { name := "<init>", desc := "()V", sig := { parameters := [], returnType := none }, accessFlags := 1, code := some k0c0 }
/-- java/lang/Object -/
def k0 : Class := { plain "java/lang/Object" none with
  accessFlags := 33
  interfaces := #[]
  cf := some (fileOf pool0 8 #[] #[{ accessFlags := 1, nameIndex := 5, descriptorIndex := 6, attributes := #[] }] 33 0 #[] #[])
  fields := #[]
  methods := #[k0m0]
  instanceTypes := #[]
  staticTypes := #[]
  resolved := Array.replicate 124 none
  statics := none }

def pool1 : Array CpInfo := pool [(2, .class_ 4), (1, u "java/lang/Object"), (0, u "<init>"), (0, u "()V"), (0, .long 128), (1, .long 16384), (1, .long 2097152), (1, .long 268435456), (1, .long 127), (1, .long 4294967295), (1, .methodref 20 21), (0, .class_ 22), (0, .nameAndType 23 24), (0, u "com/example/thin_gateway/thingateway/avro/AvroDecoderReadIntPinLaw"), (0, u "minLen"), (0, u "(J)I"), (0, .integer 2147483647), (0, .methodref 20 27), (0, .nameAndType 28 29), (0, u "at"), (0, u "(IJI)B"), (0, .class_ 31), (0, u "com/example/thin_gateway/thingateway/avro/AvroDecoder"), (0, .methodref 30 33), (0, .nameAndType 5 34), (0, u "([B)V"), (0, .methodref 30 36), (0, .nameAndType 37 38), (0, u "readInt"), (0, u "()I"), (0, .methodref 30 40), (0, .nameAndType 41 42), (0, u "isAtEnd"), (0, u "()Z"), (3, u "law"), (0, u "(II)Z")] 7

def k1m0 : Method := { name := "<init>", desc := "()V", sig := { parameters := [], returnType := none }, accessFlags := 1, code := none }
def k1c1 : Code := { maxStack := 4, maxLocals := 2, code := method_2_code, exceptionTable := #[], attributes := #[] }
def k1m1 : Method := { name := "minLen", desc := "(J)I", sig := { parameters := [.long], returnType := some .int }, accessFlags := 10, code := some k1c1 }
def k1c2 : Code := { maxStack := 4, maxLocals := 5, code := method_3_code, exceptionTable := #[], attributes := #[] }
def k1m2 : Method := { name := "at", desc := "(IJI)B", sig := { parameters := [.int, .long, .int], returnType := some .byte }, accessFlags := 10, code := some k1c2 }
def k1c3 : Code := { maxStack := 6, maxLocals := 10, code := code, exceptionTable := #[], attributes := #[] }
def k1m3 : Method := { name := "law", desc := "(II)Z", sig := { parameters := [.int, .int], returnType := some .boolean }, accessFlags := 9, code := some k1c3 }
/-- com/example/thin_gateway/thingateway/avro/AvroDecoderReadIntPinLaw -/
def k1 : Class := { plain "com/example/thin_gateway/thingateway/avro/AvroDecoderReadIntPinLaw" (some 0) with
  accessFlags := 49
  interfaces := #[]
  cf := some (fileOf pool1 20 #[] #[{ accessFlags := 1, nameIndex := 5, descriptorIndex := 6, attributes := #[] }, { accessFlags := 10, nameIndex := 23, descriptorIndex := 24, attributes := #[] }, { accessFlags := 10, nameIndex := 28, descriptorIndex := 29, attributes := #[] }, { accessFlags := 9, nameIndex := 46, descriptorIndex := 47, attributes := #[] }] 49 2 #[] #[])
  fields := #[]
  methods := #[k1m0, k1m1, k1m2, k1m3]
  instanceTypes := #[]
  staticTypes := #[]
  resolved := Array.replicate 55 none
  statics := none }

def pool2 : Array CpInfo := pool [(1, .methodref 2 3), (0, .class_ 4), (0, .nameAndType 5 6), (0, u "java/lang/Object"), (0, u "<init>"), (0, u "()V"), (0, .string 8), (0, u "input"), (0, .methodref 10 11), (0, .class_ 12), (0, .nameAndType 13 14), (0, u "java/util/Objects"), (0, u "requireNonNull"), (0, u "(Ljava/lang/Object;Ljava/lang/String;)Ljava/lang/Object;"), (0, .class_ 16), (0, u "[B"), (0, .fieldref 18 19), (0, .class_ 20), (0, .nameAndType 8 16), (0, u "com/example/thin_gateway/thingateway/avro/AvroDecoder"), (0, .fieldref 18 22), (0, .nameAndType 23 24), (0, u "position"), (0, u "I"), (0, .methodref 18 26), (0, .nameAndType 27 28), (0, u "readLong"), (0, u "()J"), (2, .long 18446744071562067968), (1, .long 2147483647), (15, u "()I"), (43, u "([B)V"), (2, u "isAtEnd"), (0, u "()Z"), (1, u "readInt")] 33

def k2c0 : Code := { maxStack := 3, maxLocals := 2, code := prog_1_method_1_code, exceptionTable := #[], attributes := #[] }
def k2m0 : Method := { name := "<init>", desc := "([B)V", sig := { parameters := [(.array .byte)], returnType := none }, accessFlags := 1, code := some k2c0 }
def k2c1 : Code := { maxStack := 2, maxLocals := 1, code := prog_1_method_2_code, exceptionTable := #[], attributes := #[] }
def k2m1 : Method := { name := "isAtEnd", desc := "()Z", sig := { parameters := [], returnType := some .boolean }, accessFlags := 1, code := some k2c1 }
def k2c2 : Code := { maxStack := 4, maxLocals := 4, code := prog_1_method_3_code, exceptionTable := #[], attributes := #[] }
def k2m2 : Method := { name := "readInt", desc := "()I", sig := { parameters := [], returnType := some .int }, accessFlags := 1, code := some k2c2 }
def k2c3 : Code := { maxStack := 6, maxLocals := 7, code := prog_1_method_4_code, exceptionTable := #[], attributes := #[] }
def k2m3 : Method := { name := "readLong", desc := "()J", sig := { parameters := [], returnType := some .long }, accessFlags := 1, code := some k2c3 }
/-- com/example/thin_gateway/thingateway/avro/AvroDecoder -/
def k2 : Class := { plain "com/example/thin_gateway/thingateway/avro/AvroDecoder" (some 0) with
  accessFlags := 49
  interfaces := #[]
  cf := some (fileOf pool2 18 #[] #[{ accessFlags := 1, nameIndex := 5, descriptorIndex := 93, attributes := #[] }, { accessFlags := 1, nameIndex := 96, descriptorIndex := 97, attributes := #[] }, { accessFlags := 1, nameIndex := 99, descriptorIndex := 49, attributes := #[] }, { accessFlags := 1, nameIndex := 27, descriptorIndex := 28, attributes := #[] }] 49 2 #[] #[{ accessFlags := 18, nameIndex := 8, descriptorIndex := 16, attributes := #[] }, { accessFlags := 2, nameIndex := 23, descriptorIndex := 24, attributes := #[] }])
  fields := #[{ name := "input", type := (.array .byte), accessFlags := 18, slot := 0, constantValue := 0 }, { name := "position", type := .int, accessFlags := 2, slot := 1, constantValue := 0 }]
  methods := #[k2m0, k2m1, k2m2, k2m3]
  instanceTypes := #[(.array .byte), .int]
  staticTypes := #[]
  resolved := Array.replicate 133 none
  statics := none }

def pool3 : Array CpInfo := pool [(1, .class_ 2), (0, u "java/io/Serializable"), (0, .class_ 4), (0, u "java/lang/Object")] 2

/-- java/io/Serializable -/
def k3 : Class := { plain "java/io/Serializable" (some 0) with
  accessFlags := 1537
  interfaces := #[]
  cf := some (fileOf pool3 1 #[] #[] 1537 3 #[] #[])
  fields := #[]
  methods := #[]
  instanceTypes := #[]
  staticTypes := #[]
  resolved := Array.replicate 7 none
  statics := none }

def pool4 : Array CpInfo := pool [(1, .class_ 2), (0, u "java/lang/Comparable"), (0, .class_ 4), (0, u "java/lang/Object")] 7

/-- java/lang/Comparable -/
def k4 : Class := { plain "java/lang/Comparable" (some 0) with
  accessFlags := 1537
  interfaces := #[]
  cf := some (fileOf pool4 1 #[] #[] 1537 3 #[] #[])
  fields := #[]
  methods := #[]
  instanceTypes := #[]
  staticTypes := #[]
  resolved := Array.replicate 12 none
  statics := none }

def pool5 : Array CpInfo := pool [(2, .class_ 4), (1, u "java/lang/CharSequence"), (42, .class_ 48), (0, u "java/lang/CharSequence$1CodePointIterator"), (10, .class_ 60), (0, u "java/lang/CharSequence$1CharIterator"), (5, .class_ 67), (0, u "java/lang/Object")] 63

/-- java/lang/CharSequence -/
def k5 : Class := { plain "java/lang/CharSequence" (some 0) with
  accessFlags := 1537
  interfaces := #[]
  cf := some (fileOf pool5 2 #[.nestMembers #[47, 59]] #[] 1537 66 #[] #[])
  fields := #[]
  methods := #[]
  instanceTypes := #[]
  staticTypes := #[]
  resolved := Array.replicate 131 none
  statics := none }

def pool6 : Array CpInfo := pool [(1, .class_ 2), (0, u "java/lang/constant/Constable"), (0, .class_ 4), (0, u "java/lang/Object")] 6

/-- java/lang/constant/Constable -/
def k6 : Class := { plain "java/lang/constant/Constable" (some 0) with
  accessFlags := 1537
  interfaces := #[]
  cf := some (fileOf pool6 1 #[] #[] 1537 3 #[] #[])
  fields := #[]
  methods := #[]
  instanceTypes := #[]
  staticTypes := #[]
  resolved := Array.replicate 11 none
  statics := none }

def pool7 : Array CpInfo := pool [(1, .class_ 2), (0, u "java/lang/constant/ConstantDesc"), (0, .class_ 4), (0, u "java/lang/Object")] 32

/-- java/lang/constant/ConstantDesc -/
def k7 : Class := { plain "java/lang/constant/ConstantDesc" (some 0) with
  accessFlags := 1537
  interfaces := #[]
  cf := some (fileOf pool7 1 #[] #[] 1537 3 #[] #[])
  fields := #[]
  methods := #[]
  instanceTypes := #[]
  staticTypes := #[]
  resolved := Array.replicate 37 none
  statics := none }

def pool8 : Array CpInfo := pool [(2, .class_ 4), (1, u "java/lang/Object"), (0, u "<init>"), (0, u "()V"), (3, .class_ 12), (1, u "java/lang/String"), (0, u "value"), (0, u "[B"), (2, u "coder"), (0, u "B"), (2, u "hash"), (0, u "I"), (2, u "hashIsZero"), (0, u "Z"), (13, u "COMPACT_STRINGS"), (534, .class_ 576), (0, u "java/lang/CharSequence"), (22, u "CASE_INSENSITIVE_ORDER"), (0, u "Ljava/util/Comparator;"), (500, u "serialPersistentFields"), (0, u "[Ljava/io/ObjectStreamField;"), (0, .class_ 1104), (0, u "java/lang/String$CaseInsensitiveComparator"), (1, .class_ 1107), (0, u "java/io/Serializable"), (0, .class_ 1109), (0, u "java/lang/Comparable"), (0, .class_ 1111), (0, u "java/lang/constant/Constable"), (0, .class_ 1113), (0, u "java/lang/constant/ConstantDesc"), (2, u "serialVersionUID"), (0, u "J"), (3, u "REPL"), (0, u "C"), (2, u "LATIN1"), (1, u "UTF16")] 323

def k8m0 : Method := { name := "<init>", desc := "()V", sig := { parameters := [], returnType := none }, accessFlags := 1, code := none }
/-- java/lang/String -/
def k8 : Class := { plain "java/lang/String" (some 0) with
  accessFlags := 49
  interfaces := #[3, 4, 5, 6, 7]
  cf := some (fileOf pool8 10 #[.nestMembers #[1103]] #[{ accessFlags := 1, nameIndex := 5, descriptorIndex := 6, attributes := #[] }] 49 2 #[1106, 1108, 575, 1110, 1112] #[{ accessFlags := 18, nameIndex := 13, descriptorIndex := 14, attributes := #[] }, { accessFlags := 18, nameIndex := 17, descriptorIndex := 18, attributes := #[] }, { accessFlags := 2, nameIndex := 21, descriptorIndex := 22, attributes := #[] }, { accessFlags := 2, nameIndex := 25, descriptorIndex := 26, attributes := #[] }, { accessFlags := 26, nameIndex := 1116, descriptorIndex := 1117, attributes := #[] }, { accessFlags := 24, nameIndex := 40, descriptorIndex := 26, attributes := #[] }, { accessFlags := 26, nameIndex := 1101, descriptorIndex := 1102, attributes := #[] }, { accessFlags := 26, nameIndex := 1121, descriptorIndex := 1122, attributes := #[] }, { accessFlags := 25, nameIndex := 599, descriptorIndex := 600, attributes := #[] }, { accessFlags := 24, nameIndex := 1125, descriptorIndex := 18, attributes := #[] }, { accessFlags := 24, nameIndex := 1127, descriptorIndex := 18, attributes := #[] }])
  fields := #[{ name := "value", type := (.array .byte), accessFlags := 18, slot := 0, constantValue := 0 }, { name := "coder", type := .byte, accessFlags := 18, slot := 1, constantValue := 0 }, { name := "hash", type := .int, accessFlags := 2, slot := 2, constantValue := 0 }, { name := "hashIsZero", type := .boolean, accessFlags := 2, slot := 3, constantValue := 0 }, { name := "serialVersionUID", type := .long, accessFlags := 26, slot := 0, constantValue := 0 }, { name := "COMPACT_STRINGS", type := .boolean, accessFlags := 24, slot := 1, constantValue := 0 }, { name := "serialPersistentFields", type := (.array (.object "java/io/ObjectStreamField")), accessFlags := 26, slot := 2, constantValue := 0 }, { name := "REPL", type := .char, accessFlags := 26, slot := 3, constantValue := 0 }, { name := "CASE_INSENSITIVE_ORDER", type := (.object "java/util/Comparator"), accessFlags := 25, slot := 4, constantValue := 0 }, { name := "LATIN1", type := .byte, accessFlags := 24, slot := 5, constantValue := 0 }, { name := "UTF16", type := .byte, accessFlags := 24, slot := 6, constantValue := 0 }]
  methods := #[k8m0]
  instanceTypes := #[(.array .byte), .byte, .int, .boolean]
  staticTypes := #[.long, .boolean, (.array (.object "java/io/ObjectStreamField")), .char, (.object "java/util/Comparator"), .byte, .byte]
  resolved := Array.replicate 1451 none
  statics := none }

def pool9 : Array CpInfo := pool [(2, .class_ 4), (1, u "java/lang/Object"), (0, u "<init>"), (0, u "()V"), (35, .class_ 44), (1, u "java/util/Objects"), (0, u "requireNonNull"), (48, u "(Ljava/lang/Object;Ljava/lang/String;)Ljava/lang/Object;")] 89

def k9m0 : Method := { name := "<init>", desc := "()V", sig := { parameters := [], returnType := none }, accessFlags := 2, code := none }
def k9c1 : Code := { maxStack := 3, maxLocals := 2, code := jdk_31_method_11_code, exceptionTable := #[], attributes := #[] }
def k9m1 : Method := { name := "requireNonNull", desc := "(Ljava/lang/Object;Ljava/lang/String;)Ljava/lang/Object;", sig := { parameters := [(.object "java/lang/Object"), (.object "java/lang/String")], returnType := some (.object "java/lang/Object") }, accessFlags := 9, code := some k9c1 }
/-- java/util/Objects -/
def k9 : Class := { plain "java/util/Objects" (some 0) with
  accessFlags := 49
  interfaces := #[]
  cf := some (fileOf pool9 42 #[] #[{ accessFlags := 2, nameIndex := 5, descriptorIndex := 6, attributes := #[] }, { accessFlags := 9, nameIndex := 45, descriptorIndex := 94, attributes := #[] }] 49 2 #[] #[])
  fields := #[]
  methods := #[k9m0, k9m1]
  instanceTypes := #[]
  staticTypes := #[]
  resolved := Array.replicate 184 none
  statics := none }

def pool10 : Array CpInfo := pool [(1, u "java/lang/Cloneable"), (0, .class_ 1), (0, u "java/lang/Object"), (0, .class_ 3)] 3

/-- java/lang/Cloneable -/
def k10 : Class := { plain "java/lang/Cloneable" (some 0) with
  accessFlags := 1537
  interfaces := #[]
  cf := some (fileOf pool10 2 #[] #[] 1537 4 #[] #[])
  fields := #[]
  methods := #[]
  instanceTypes := #[]
  staticTypes := #[]
  resolved := Array.replicate 8 none
  statics := none }

/-- the primitive byte -/
def k11 : Class := { plain "byte" none with kind := .primitive 'B', accessFlags := 0x411 }
/-- [B -/
def k12 : Class := { plain "[B" (some 0) with kind := .array 11 .byte, interfaces := #[10, 3], accessFlags := 1041 }

/-- the primitive int -/
def k13 : Class := { plain "int" none with kind := .primitive 'I', accessFlags := 0x411 }
/-- [I -/
def k14 : Class := { plain "[I" (some 0) with kind := .array 13 .int, interfaces := #[10, 3], accessFlags := 1041 }

def heap : Heap := #[]
def classes : Array Class := #[k0, k1, k2, k3, k4, k5, k6, k7, k8, k9, k10, k11, k12, k13, k14]
def interned : List (Array UInt16 × Addr) := []
def slotsUsed : Nat := 0
def theMethod : MethodId := ⟨1, 3⟩
def args0 : Array Value := #[.int 3, .int 3]
def aboutOver (below : List Frame) : State where
  vm := { classes := classes, interned := interned.toArray }
  heap := heap
  slotsUsed := slotsUsed
  threads := #[{ frames := .invoking theMethod args0 :: below }]
def below0 : List Frame := [.native { method := ⟨0, 0⟩, args := #[] }]
def about1 : State := aboutOver below0
def p0 : Program := .bare "" "" ""
def e0 : Env := launch0.env 0 0 0
theorem w_frames : about1.frames = Frame.invoking theMethod args0 :: below0 := rfl
set_option maxRecDepth 65536 in
theorem w_args : argsFit about1.vm theMethod args0 = true := by decide +kernel
set_option maxRecDepth 65536 in
theorem w_heap : heapFits about1 = true := by decide +kernel
set_option maxRecDepth 65536 in
theorem w_runnable : about1.curStatus? = some .runnable := by decide +kernel
set_option maxRecDepth 65536 in
theorem w_alone : about1.alone = true := by decide +kernel
set_option maxRecDepth 65536 in
theorem w_named : about1.methodNamed? x = some theMethod := by decide +kernel
set_option maxRecDepth 65536 in
theorem w_hears : about1.hears theMethod below0 = true := by decide +kernel
set_option maxRecDepth 65536 in
theorem w_ripe : about1.ripe theMethod args0 below0 = true := by decide +kernel
theorem w_running : about1.status = .running := rfl
set_option maxRecDepth 65536 in
theorem w_room : about1.hasRoom e0.platform room_1 = true :=
  launch0.hasRoom_least _ room_1 (by decide +kernel) (by decide +kernel) (by decide +kernel) (by decide +kernel) (by decide +kernel) (by decide +kernel)
theorem allAtoms_all (ts : List Jvm.Cond) (a : Array Jvm.Value) (st : Jvm.State) : (allAtoms ts).before a st = ts.all (fun c => c.before a st) := by
  induction ts with
  | nil => rfl
  | cons c t ih =>
    show (Jvm.Cond.and c (allAtoms t)).before a st = _
    rw [Jvm.Cond.before_and, ih, List.all_cons]
def words1 : List Jvm.Cond := Jvm.Cond.code x code maxLocals ret :: tables_1
/-- a 'code' word, met by the world's own term for the bytes: nothing is compared byte by byte -/
theorem code_word {y : MethodName} {bytes : ByteArray} {mx : Nat} {rt : Option FieldType} {a : Array Value} {s : State} {m : MethodId} {meth : Method} {c : Code} (h1 : s.methodNamed? y = some m) (h2 : s.vm.method? m = some meth) (h3 : meth.code = some c) (h4 : c.code = bytes)
    (h5 : (c.maxLocals == mx && c.exceptionTable.isEmpty && decide (c.maxStack ≤ mostOperands) && decide (meth.sig.returnType = rt) && !meth.locks && decide (parseMethodDescriptor y.desc = some meth.sig)) = true) : (Jvm.Cond.code y bytes mx rt).before a s = true := by
  simp only [Bool.and_eq_true, beq_iff_eq, Bool.not_eq_true', decide_eq_true_eq] at h5
  obtain ⟨⟨⟨⟨⟨g1, g2⟩, g3⟩, g4⟩, g5⟩, g6⟩ := h5
  simp [Cond.before, Cond.holds, Cond.value, h1, h2, h3, h4, g1, g2, g3, g4, g5, g6]
def isCode : Jvm.Cond → Bool
  | .code _ _ _ _ => true
  | _ => false
theorem all_split {L : List Jvm.Cond} {P : Jvm.Cond → Bool} (h1 : L.all (fun c => isCode c || P c) = true) (h2 : ∀ c ∈ L.filter isCode, P c = true) : L.all P = true := by
  refine List.all_eq_true.mpr fun c hc => ?_
  have h := List.all_eq_true.mp h1 c hc
  rcases Bool.eq_false_or_eq_true (isCode c) with hi | hi
  · exact h2 c (List.mem_filter.mpr ⟨hc, hi⟩)
  · simpa [hi] using h
set_option maxRecDepth 65536 in
theorem w_c0 : (Jvm.Cond.code x code maxLocals ret).before args0 about1 = true := code_word (m := ⟨1, 3⟩) (meth := k1m3) (c := k1c3) (by decide +kernel) rfl rfl rfl (by decide +kernel)
set_option maxRecDepth 65536 in
theorem w_c1 : (Jvm.Cond.code ({ cls := "com/example/thin_gateway/thingateway/avro/AvroDecoderReadIntPinLaw", name := "minLen", desc := "(J)I" } : Jvm.MethodName) method_2_code (2 : Nat) (Option.some Jvm.ClassFile.FieldType.int)).before args0 about1 = true := code_word (m := ⟨1, 1⟩) (meth := k1m1) (c := k1c1) (by decide +kernel) rfl rfl rfl (by decide +kernel)
set_option maxRecDepth 65536 in
theorem w_c2 : (Jvm.Cond.code ({ cls := "com/example/thin_gateway/thingateway/avro/AvroDecoderReadIntPinLaw", name := "at", desc := "(IJI)B" } : Jvm.MethodName) method_3_code (5 : Nat) (Option.some Jvm.ClassFile.FieldType.byte)).before args0 about1 = true := code_word (m := ⟨1, 2⟩) (meth := k1m2) (c := k1c2) (by decide +kernel) rfl rfl rfl (by decide +kernel)
set_option maxRecDepth 65536 in
theorem w_c3 : (Jvm.Cond.code ({ cls := "com/example/thin_gateway/thingateway/avro/AvroDecoder", name := "<init>", desc := "([B)V" } : Jvm.MethodName) prog_1_method_1_code (2 : Nat) (Option.none : Option Jvm.ClassFile.FieldType)).before args0 about1 = true := code_word (m := ⟨2, 0⟩) (meth := k2m0) (c := k2c0) (by decide +kernel) rfl rfl rfl (by decide +kernel)
set_option maxRecDepth 65536 in
theorem w_c4 : (Jvm.Cond.code ({ cls := "java/lang/Object", name := "<init>", desc := "()V" } : Jvm.MethodName) object_method_1_code (1 : Nat) (Option.none : Option Jvm.ClassFile.FieldType)).before args0 about1 = true := code_word (m := ⟨0, 0⟩) (meth := k0m0) (c := k0c0) (by decide +kernel) rfl rfl rfl (by decide +kernel)
set_option maxRecDepth 65536 in
theorem w_c5 : (Jvm.Cond.code ({ cls := "java/util/Objects", name := "requireNonNull", desc := "(Ljava/lang/Object;Ljava/lang/String;)Ljava/lang/Object;" } : Jvm.MethodName) jdk_31_method_11_code (2 : Nat) (Option.some (Jvm.ClassFile.FieldType.object "java/lang/Object"))).before args0 about1 = true := code_word (m := ⟨9, 1⟩) (meth := k9m1) (c := k9c1) (by decide +kernel) rfl rfl rfl (by decide +kernel)
set_option maxRecDepth 65536 in
theorem w_c6 : (Jvm.Cond.code ({ cls := "com/example/thin_gateway/thingateway/avro/AvroDecoder", name := "readInt", desc := "()I" } : Jvm.MethodName) prog_1_method_3_code (4 : Nat) (Option.some Jvm.ClassFile.FieldType.int)).before args0 about1 = true := code_word (m := ⟨2, 2⟩) (meth := k2m2) (c := k2c2) (by decide +kernel) rfl rfl rfl (by decide +kernel)
set_option maxRecDepth 65536 in
theorem w_c7 : (Jvm.Cond.code ({ cls := "com/example/thin_gateway/thingateway/avro/AvroDecoder", name := "readLong", desc := "()J" } : Jvm.MethodName) prog_1_method_4_code (7 : Nat) (Option.some Jvm.ClassFile.FieldType.long)).before args0 about1 = true := code_word (m := ⟨2, 3⟩) (meth := k2m3) (c := k2c3) (by decide +kernel) rfl rfl rfl (by decide +kernel)
set_option maxRecDepth 65536 in
theorem w_c8 : (Jvm.Cond.code ({ cls := "com/example/thin_gateway/thingateway/avro/AvroDecoder", name := "isAtEnd", desc := "()Z" } : Jvm.MethodName) prog_1_method_2_code (1 : Nat) (Option.some Jvm.ClassFile.FieldType.boolean)).before args0 about1 = true := code_word (m := ⟨2, 1⟩) (meth := k2m1) (c := k2c1) (by decide +kernel) rfl rfl rfl (by decide +kernel)
def codes1 : List Jvm.Cond := [Jvm.Cond.code x code maxLocals ret, Jvm.Cond.code ({ cls := "com/example/thin_gateway/thingateway/avro/AvroDecoderReadIntPinLaw", name := "minLen", desc := "(J)I" } : Jvm.MethodName) method_2_code (2 : Nat) (Option.some Jvm.ClassFile.FieldType.int), Jvm.Cond.code ({ cls := "com/example/thin_gateway/thingateway/avro/AvroDecoderReadIntPinLaw", name := "at", desc := "(IJI)B" } : Jvm.MethodName) method_3_code (5 : Nat) (Option.some Jvm.ClassFile.FieldType.byte), Jvm.Cond.code ({ cls := "com/example/thin_gateway/thingateway/avro/AvroDecoder", name := "<init>", desc := "([B)V" } : Jvm.MethodName) prog_1_method_1_code (2 : Nat) (Option.none : Option Jvm.ClassFile.FieldType), Jvm.Cond.code ({ cls := "java/lang/Object", name := "<init>", desc := "()V" } : Jvm.MethodName) object_method_1_code (1 : Nat) (Option.none : Option Jvm.ClassFile.FieldType), Jvm.Cond.code ({ cls := "java/util/Objects", name := "requireNonNull", desc := "(Ljava/lang/Object;Ljava/lang/String;)Ljava/lang/Object;" } : Jvm.MethodName) jdk_31_method_11_code (2 : Nat) (Option.some (Jvm.ClassFile.FieldType.object "java/lang/Object")), Jvm.Cond.code ({ cls := "com/example/thin_gateway/thingateway/avro/AvroDecoder", name := "readInt", desc := "()I" } : Jvm.MethodName) prog_1_method_3_code (4 : Nat) (Option.some Jvm.ClassFile.FieldType.int), Jvm.Cond.code ({ cls := "com/example/thin_gateway/thingateway/avro/AvroDecoder", name := "readLong", desc := "()J" } : Jvm.MethodName) prog_1_method_4_code (7 : Nat) (Option.some Jvm.ClassFile.FieldType.long), Jvm.Cond.code ({ cls := "com/example/thin_gateway/thingateway/avro/AvroDecoder", name := "isAtEnd", desc := "()Z" } : Jvm.MethodName) prog_1_method_2_code (1 : Nat) (Option.some Jvm.ClassFile.FieldType.boolean)]
set_option maxRecDepth 65536 in
theorem codes_eq : words1.filter isCode = codes1 := rfl
theorem w_codes : ∀ c ∈ words1.filter isCode, c.before args0 about1 = true := by
  rw [codes_eq]
  intro c hc
  simp only [codes1, List.mem_cons, List.not_mem_nil, or_false] at hc
  rcases hc with rfl | rfl | rfl | rfl | rfl | rfl | rfl | rfl | rfl
  · exact w_c0
  · exact w_c1
  · exact w_c2
  · exact w_c3
  · exact w_c4
  · exact w_c5
  · exact w_c6
  · exact w_c7
  · exact w_c8
set_option maxRecDepth 65536 in
theorem w_t1 : (words1.take 24).all (fun c => isCode c || c.before args0 about1) = true := by decide +kernel
set_option maxRecDepth 65536 in
theorem w_t2 : ((words1.drop 24).take 24).all (fun c => isCode c || c.before args0 about1) = true := by decide +kernel
set_option maxRecDepth 65536 in
theorem w_t3 : ((words1.drop 24).drop 24).all (fun c => isCode c || c.before args0 about1) = true := by decide +kernel
theorem w_tables : (allAtoms (Jvm.Cond.code x code maxLocals ret :: tables_1)).before args0 about1 = true := by
  rw [allAtoms_all]
  show words1.all (fun c => c.before args0 about1) = true
  refine all_split ?_ w_codes
  rw [← List.take_append_drop 24 words1, List.all_append, w_t1, ← List.take_append_drop 24 (words1.drop 24), List.all_append, w_t2, w_t3]
  rfl
set_option maxRecDepth 65536 in
theorem w_case : (Jvm.Cond.and given_1 narrow_1).before args0 about1 = true := by decide +kernel
theorem w_applies : (headSpec (Jvm.Cond.code x code maxLocals ret :: tables_1) room_1).applies x e0.platform about1 = true :=
  (Spec.applies_iff w_frames).mpr ⟨w_running, w_runnable, w_alone, w_named, w_hears, w_ripe, w_room, w_tables⟩
theorem atStart : AtStart classFile x code maxLocals ret World_1 tables_1 room_1 Calls_1 rest_1 Pre_1 launch0 p0 e0 about1 theMethod args0 below0 :=
  ⟨lists_1, trivial, launch0.admits_env _ _ _, launch0.least_env, fairChoices_fair.cas, fairChoices_fair.clock, w_frames, w_args, w_heap, w_applies, trivial, trivial, w_case⟩
end start1
theorem witness_1 : WitnessClaimed_1 := ⟨start1.p0, start1.e0, start1.about1, start1.theMethod, start1.args0, start1.below0, start1.atStart⟩
end Jvm.Pilot.@@N@@
