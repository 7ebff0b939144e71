import JvmDerived
import JvmDerived.Pilot.@@N@@Statement
import JvmDerived.Pilot.@@N@@Code
set_option linter.unusedVariables false
set_option linter.unusedSimpArgs false
namespace Jvm.Pilot.@@N@@
open Jvm Jvm.ClassFile Sem Op Lib Jvm.Free Jvm.Stand Jvm.LawKit Jvm.RoadKit Bundle Jvm.Pilot.@@N@@.Jvm.D
theorem own_pop2L {tb : Tables} [Ours tb] {e : Env} {below : List Frame} {T target : State} {m : MethodId} {c : Code} {g : JFrame} (h : At T m c below) (hx : tb.exec = Jvm.exec) (hg : g.method = m) {v : Int64} {rest : List Value} (hd : decode c.code g.pc = .ok (.pop2, 1)) (hs : g.stack = .long v :: rest)
    (hr : Steps tb e below (T.setTop { g with pc := g.pc + 1, stack := rest }) target) : Steps tb e below (T.setTop g) target := by
  subst hg
  jvm_step h [h.top, hx, hd, hs, Value.category]
  exact hr
section OwnArr
variable {p : Program} {l : Launch} {e : Env} {R : Room} {s : State} {m : MethodId} {args : Array Value} {below : List Frame} {meth : Method} {c : Code} {T : State} {locs : List Loc} {cells slots : Nat} {Z : State} {a0 : Array Value} {h : Heap} {a : Addr} {k : ClassId} {z : Int32} {vs : List Value} {dv : Value}
theorem own_ldB (X : Stand p l e R s m args below meth c T locs cells slots) (hx : p.tables.exec = Jvm.exec) (hZ : Z.Warmed39 s.vm) (eT : T.heap = h) (F : Arv Z h a k .byte z vs dv) {j : Int32} (q : ¬ j < 0 ∧ j < z) {v : Value} (u : vs.getD j.toNatClampNeg dv = v) {g : JFrame} (hg : g.method = m) {rest : List Value} (hs : g.stack = .int j :: .ref a :: rest) (hd : decode c.code g.pc = .ok (.baload, 1)) :
    Steps p.tables e below (T.setTop g) (T.setTop { g with pc := g.pc + 1, stack := v :: rest }) := by
  obtain ⟨cl, A, q1, S, N, H, G⟩ := F
  have hin := inb_of S q
  exact X.baloadBytes hx (by rw [eT]; exact A.1) (State.isArrayOf_alike hZ.alike A.2.1) A.2.2 hin (H.at hin u) hg hs hd _ (Steps.refl _)
theorem own_ldI (X : Stand p l e R s m args below meth c T locs cells slots) (hx : p.tables.exec = Jvm.exec) (hZ : Z.Warmed39 s.vm) (eT : T.heap = h) (F : Arv Z h a k .int z vs dv) {j : Int32} (q : ¬ j < 0 ∧ j < z) {v : Value} (u : vs.getD j.toNatClampNeg dv = v) {g : JFrame} (hg : g.method = m) {rest : List Value} (hs : g.stack = .int j :: .ref a :: rest) (hd : decode c.code g.pc = .ok (.iaload, 1)) :
    Steps p.tables e below (T.setTop g) (T.setTop { g with pc := g.pc + 1, stack := v :: rest }) := by
  obtain ⟨cl, A, q1, S, N, H, G⟩ := F
  have hin := inb_of S q
  exact X.iaload hx (by rw [eT]; exact A.1) (State.isArrayOf_alike hZ.alike A.2.1) A.2.2 hin (H.at hin u) hg hs hd _ (Steps.refl _)
theorem own_ldJ (X : Stand p l e R s m args below meth c T locs cells slots) (hx : p.tables.exec = Jvm.exec) (hZ : Z.Warmed39 s.vm) (eT : T.heap = h) (F : Arv Z h a k .long z vs dv) {j : Int32} (q : ¬ j < 0 ∧ j < z) {v : Value} (u : vs.getD j.toNatClampNeg dv = v) {g : JFrame} (hg : g.method = m) {rest : List Value} (hs : g.stack = .int j :: .ref a :: rest) (hd : decode c.code g.pc = .ok (.laload, 1)) :
    Steps p.tables e below (T.setTop g) (T.setTop { g with pc := g.pc + 1, stack := v :: rest }) := by
  obtain ⟨cl, A, q1, S, N, H, G⟩ := F
  have hin := inb_of S q
  exact X.laload hx (by rw [eT]; exact A.1) (State.isArrayOf_alike hZ.alike A.2.1) A.2.2 hin (H.at hin u) hg hs hd _ (Steps.refl _)
theorem own_len {ty : FieldType} (X : Stand p l e R s m args below meth c T locs cells slots) (hx : p.tables.exec = Jvm.exec) (hZ : Z.Warmed39 s.vm) (eT : T.heap = h) (F : Arv Z h a k ty z vs dv) {g : JFrame} (hg : g.method = m) {rest : List Value} (hs : g.stack = .ref a :: rest) (hd : decode c.code g.pc = .ok (.arraylength, 1)) :
    Steps p.tables e below (T.setTop g) (T.setTop { g with pc := g.pc + 1, stack := .int z :: rest }) := by
  obtain ⟨cl, A, q1, S, N, H, G⟩ := F
  have q := X.arraylength hx (by rw [eT]; exact A.1) (State.isArrayOf_alike hZ.alike A.2.1) hg hs hd _ (Steps.refl _)
  rw [len_of S N] at q
  exact q
theorem own_stB (X : Stand p l e R s m args below meth c T locs cells slots) (hx : p.tables.exec = Jvm.exec) (hZ : Z.Warmed39 s.vm) (eT : T.heap = h) (F : Arv Z h a k .byte z vs dv) {j x : Int32} (q : ¬ j < 0 ∧ j < z) (i : Nat) (hj : j.toNatClampNeg = i) (hi : i < vs.length) {g : JFrame} (hg : g.method = m) {rest : List Value} (hs : g.stack = .int x :: .int j :: .ref a :: rest) (hd : decode c.code g.pc = .ok (.bastore, 1)) :
    ∃ T' h', Stand p l e R s m args below meth c T' (locs ++ [⟨a, j.toNatClampNeg⟩]) cells slots ∧ T'.heap = h' ∧ Wr h h' a j.toNatClampNeg (.int (x.toInt8.toInt32)) ∧ Arv Z h' a k .byte z (vs.set i (.int (x.toInt8.toInt32))) dv ∧ Steps p.tables e below (T.setTop g) (T'.setTop { g with pc := g.pc + 1, stack := rest }) := by
  obtain ⟨cl, A, q1, S, N, H, G⟩ := F
  have hin := inb_of S q
  obtain ⟨T', h', X', e', W, st⟩ := stB X hx hZ eT A hin hg hs hd
  exact ⟨T', h', X', e', W, Arv.set A q1 S N H G (fits_nar_byte _) W i hj hi, st _ (Steps.refl _)⟩
theorem own_stI (X : Stand p l e R s m args below meth c T locs cells slots) (hx : p.tables.exec = Jvm.exec) (hZ : Z.Warmed39 s.vm) (eT : T.heap = h) (F : Arv Z h a k .int z vs dv) {j x : Int32} (q : ¬ j < 0 ∧ j < z) (i : Nat) (hj : j.toNatClampNeg = i) (hi : i < vs.length) {g : JFrame} (hg : g.method = m) {rest : List Value} (hs : g.stack = .int x :: .int j :: .ref a :: rest) (hd : decode c.code g.pc = .ok (.iastore, 1)) :
    ∃ T' h', Stand p l e R s m args below meth c T' (locs ++ [⟨a, j.toNatClampNeg⟩]) cells slots ∧ T'.heap = h' ∧ Wr h h' a j.toNatClampNeg (.int x) ∧ Arv Z h' a k .int z (vs.set i (.int x)) dv ∧ Steps p.tables e below (T.setTop g) (T'.setTop { g with pc := g.pc + 1, stack := rest }) := by
  obtain ⟨cl, A, q1, S, N, H, G⟩ := F
  have hin := inb_of S q
  obtain ⟨T', h', X', e', W, st⟩ := stI X hx hZ eT A hin hg hs hd
  exact ⟨T', h', X', e', W, Arv.set A q1 S N H G rfl W i hj hi, st _ (Steps.refl _)⟩
theorem own_stJ (X : Stand p l e R s m args below meth c T locs cells slots) (hx : p.tables.exec = Jvm.exec) (hZ : Z.Warmed39 s.vm) (eT : T.heap = h) (F : Arv Z h a k .long z vs dv) {j : Int32} {x : Int64} (q : ¬ j < 0 ∧ j < z) (i : Nat) (hj : j.toNatClampNeg = i) (hi : i < vs.length) {g : JFrame} (hg : g.method = m) {rest : List Value} (hs : g.stack = .long x :: .int j :: .ref a :: rest) (hd : decode c.code g.pc = .ok (.lastore, 1)) :
    ∃ T' h', Stand p l e R s m args below meth c T' (locs ++ [⟨a, j.toNatClampNeg⟩]) cells slots ∧ T'.heap = h' ∧ Wr h h' a j.toNatClampNeg (.long x) ∧ Arv Z h' a k .long z (vs.set i (.long x)) dv ∧ Steps p.tables e below (T.setTop g) (T'.setTop { g with pc := g.pc + 1, stack := rest }) := by
  obtain ⟨cl, A, q1, S, N, H, G⟩ := F
  have hin := inb_of S q
  obtain ⟨T', h', X', e', W, st⟩ := stJ X hx hZ eT A hin hg hs hd
  exact ⟨T', h', X', e', W, Arv.set A q1 S N H G rfl W i hj hi, st _ (Steps.refl _)⟩
theorem own_newB (X : Stand p l e R s m args below meth c T locs cells slots) (hx : p.tables.exec = Jvm.exec) (hZ : Z.Warmed39 s.vm) (w : (Jvm.Cond.arrayClass .byte).before a0 Z = true) (eT : T.heap = h) {g : JFrame} (hg : g.method = m) (hd : decode c.code g.pc = .ok (.newarray .byte, 2)) {n : Int32} {rest : List Value} (hs : g.stack = .int n :: rest)
    (hn : ¬ n < 0) (N : Nat) (hcap : n.toNatClampNeg ≤ N) (hb : N * 8 ≤ 536870912) (hc : cells + 1 ≤ R.cells) (hl : slots + N ≤ R.slots) :
    ∃ T' h' k x, Stand p l e R s m args below meth c T' locs (cells + 1) (slots + N) ∧ T'.heap = h' ∧ Ext h h' ∧ x = h.size ∧ Arv Z h' x k .byte n (List.replicate N (.int (0 : Int32))) (.int (0 : Int32)) ∧ Exa Z h' x "[B" ∧ Steps p.tables e below (T.setTop g) (T'.setTop { g with pc := g.pc + 2, stack := .ref x :: rest }) := by
  obtain ⟨T', h', k, X', e', E, A, Ex, st⟩ := newPE (aty := .byte) X hx hZ w eT hg hd hs hn hcap hb hc hl (ad := "[B") (by decide)
  exact ⟨T', h', k, _, X', e', E, rfl, (Arv.new A hn).pad (pad_rep [] _ N), Ex, st _ (Steps.refl _)⟩
theorem own_newI (X : Stand p l e R s m args below meth c T locs cells slots) (hx : p.tables.exec = Jvm.exec) (hZ : Z.Warmed39 s.vm) (w : (Jvm.Cond.arrayClass .int).before a0 Z = true) (eT : T.heap = h) {g : JFrame} (hg : g.method = m) (hd : decode c.code g.pc = .ok (.newarray .int, 2)) {n : Int32} {rest : List Value} (hs : g.stack = .int n :: rest)
    (hn : ¬ n < 0) (N : Nat) (hcap : n.toNatClampNeg ≤ N) (hb : N * 8 ≤ 536870912) (hc : cells + 1 ≤ R.cells) (hl : slots + N ≤ R.slots) :
    ∃ T' h' k x, Stand p l e R s m args below meth c T' locs (cells + 1) (slots + N) ∧ T'.heap = h' ∧ Ext h h' ∧ x = h.size ∧ Arv Z h' x k .int n (List.replicate N (.int (0 : Int32))) (.int (0 : Int32)) ∧ Exa Z h' x "[I" ∧ Steps p.tables e below (T.setTop g) (T'.setTop { g with pc := g.pc + 2, stack := .ref x :: rest }) := by
  obtain ⟨T', h', k, X', e', E, A, Ex, st⟩ := newPE (aty := .int) X hx hZ w eT hg hd hs hn hcap hb hc hl (ad := "[I") (by decide)
  exact ⟨T', h', k, _, X', e', E, rfl, (Arv.new A hn).pad (pad_rep [] _ N), Ex, st _ (Steps.refl _)⟩
theorem own_newJ (X : Stand p l e R s m args below meth c T locs cells slots) (hx : p.tables.exec = Jvm.exec) (hZ : Z.Warmed39 s.vm) (w : (Jvm.Cond.arrayClass .long).before a0 Z = true) (eT : T.heap = h) {g : JFrame} (hg : g.method = m) (hd : decode c.code g.pc = .ok (.newarray .long, 2)) {n : Int32} {rest : List Value} (hs : g.stack = .int n :: rest)
    (hn : ¬ n < 0) (N : Nat) (hcap : n.toNatClampNeg ≤ N) (hb : N * 8 ≤ 536870912) (hc : cells + 1 ≤ R.cells) (hl : slots + N ≤ R.slots) :
    ∃ T' h' k x, Stand p l e R s m args below meth c T' locs (cells + 1) (slots + N) ∧ T'.heap = h' ∧ Ext h h' ∧ x = h.size ∧ Arv Z h' x k .long n (List.replicate N (.long (0 : Int64))) (.long (0 : Int64)) ∧ Exa Z h' x "[J" ∧ Steps p.tables e below (T.setTop g) (T'.setTop { g with pc := g.pc + 2, stack := .ref x :: rest }) := by
  obtain ⟨T', h', k, X', e', E, A, Ex, st⟩ := newPE (aty := .long) X hx hZ w eT hg hd hs hn hcap hb hc hl (ad := "[J") (by decide)
  exact ⟨T', h', k, _, X', e', E, rfl, (Arv.new A hn).pad (pad_rep [] _ N), Ex, st _ (Steps.refl _)⟩
end OwnArr
def own_gi : Value → Int32
  | .int x => x
  | _ => 0
def own_by (vs : List Value) (q : Int32) : Int32 := own_gi (vs.getD q.toNatClampNeg (.int (0 : Int32)))
def own_res (r : Int64) (b sh : Int32) : Int64 := (r ||| (((((b &&& (255 : Int32)) &&& (127 : Int32)).toInt64) <<< (sh &&& 0x3f).toInt64)))
def rl : Nat → List Value → Int32 → Int64 → Int32 → Int64 × Int32
  | 0, _, q, r, _ => (r, q)
  | k + 1, vs, q, r, sh => if (((own_by vs q) &&& (255 : Int32)) &&& (128 : Int32)) = (0 : Int32) then (own_res r (own_by vs q) sh, q + (1 : Int32)) else rl k vs (q + (1 : Int32)) (own_res r (own_by vs q) sh) (sh + (7 : Int32))
def rok : Nat → List Value → Int32 → Int32 → Int32 → Prop
  | 0, _, _, _, _ => False
  | k + 1, vs, z, q, sh => ((¬ (q < (0 : Int32))) ∧ q < z) ∧ vs.getD q.toNatClampNeg (.int (0 : Int32)) = .int (own_by vs q) ∧ (sh = (63 : Int32) → ¬ ((1 : Int32) < ((own_by vs q) &&& (255 : Int32)))) ∧ ((((own_by vs q) &&& (255 : Int32)) &&& (128 : Int32)) = (0 : Int32) ∨ rok k vs z (q + (1 : Int32)) (sh + (7 : Int32)))
theorem own_z0 : (0 : Int32).toInt = 0 := rfl
theorem own_z1 : (1 : Int32).toInt = 1 := rfl
theorem own_z7 : (7 : Int32).toInt = 7 := rfl
theorem own_lt32 {a b : Int32} : a < b ↔ a.toInt < b.toInt := Int32.lt_iff_toInt_lt
theorem own_256 : ∀ i : Fin 256, ((Int32.ofNat i.1) &&& (128 : Int32)) = (0 : Int32) ↔ i.1 < 128 := by decide +kernel
theorem own_128 (y : Int32) (h : 0 ≤ y.toInt ∧ y.toInt < 256) : (y &&& (128 : Int32)) = (0 : Int32) ↔ y.toInt < 128 := by
  have e : y = Int32.ofNat y.toInt.toNat := by
    apply Int32.toInt_inj.mp
    rw [Int32.toInt_ofNat_of_lt (by omega)]; omega
  have q := own_256 ⟨y.toInt.toNat, by omega⟩
  simp only at q
  rw [← e] at q
  rw [q]; omega
theorem own_step (r : Int64) (b sh : Int32) (U : Int) (i : Nat) (h0 : 0 ≤ U ∧ U < 18446744073709551616) (hi : i ≤ 9) (hs : sh.toInt = 7 * (i : Int)) (hr0 : r.toInt % 18446744073709551616 = U % 2 ^ (7 * i)) (hd : ((b &&& (255 : Int32)) &&& (127 : Int32)).toInt = U / 2 ^ (7 * i) % 128) : (own_res r b sh).toInt % 18446744073709551616 = U % 2 ^ (7 * (i + 1)) := by
  have g1 := Jvm.RoadKit.rng64 r
  unfold own_res
  have hz : ∀ (n : Int32), sh.toInt = n.toInt → sh = n := fun n h => Int32.toInt_inj.mp h
  have hc : i = 0 ∨ i = 1 ∨ i = 2 ∨ i = 3 ∨ i = 4 ∨ i = 5 ∨ i = 6 ∨ i = 7 ∨ i = 8 ∨ i = 9 := by omega
  have hx := Jvm.RoadKit.c_i2l ((b &&& (255 : Int32)) &&& (127 : Int32))
  generalize ((b &&& (255 : Int32)) &&& (127 : Int32)).toInt64 = xx at hx ⊢
  rcases hc with e | e | e | e | e | e | e | e | e | e <;> subst e
  · have es := hz (0 : Int32) (by rw [hs]; rfl)
    subst es
    have t1 := Jvm.RoadKit.c_lshl xx (0 : Int32) 0 (by decide)
    have t2 := Jvm.RoadKit.rng64 (xx <<< ((0 : Int32) &&& 0x3f).toInt64)
    generalize xx <<< ((0 : Int32) &&& 0x3f).toInt64 = yy at t1 t2 ⊢
    have p1 : (2 : Int) ^ (7 * 0) = 1 := by decide
    have p2 : (2 : Int) ^ (7 * (0 + 1)) = 128 := by decide
    have p3 : ((2 ^ 0 : Nat) : Int) = 1 := by decide
    rw [p1] at hr0 hd
    rw [p3] at t1
    rw [p2]
    have t3 := Jvm.RoadKit.c_orL' r yy 0 (by decide) 1 (by decide) (by omega) (by omega) (by omega)
    omega
  · have es := hz (7 : Int32) (by rw [hs]; rfl)
    subst es
    have t1 := Jvm.RoadKit.c_lshl xx (7 : Int32) 7 (by decide)
    have t2 := Jvm.RoadKit.rng64 (xx <<< ((7 : Int32) &&& 0x3f).toInt64)
    generalize xx <<< ((7 : Int32) &&& 0x3f).toInt64 = yy at t1 t2 ⊢
    have p1 : (2 : Int) ^ (7 * 1) = 128 := by decide
    have p2 : (2 : Int) ^ (7 * (1 + 1)) = 16384 := by decide
    have p3 : ((2 ^ 7 : Nat) : Int) = 128 := by decide
    rw [p1] at hr0 hd
    rw [p3] at t1
    rw [p2]
    have t3 := Jvm.RoadKit.c_orL' r yy 7 (by decide) 128 (by decide) (by omega) (by omega) (by omega)
    omega
  · have es := hz (14 : Int32) (by rw [hs]; rfl)
    subst es
    have t1 := Jvm.RoadKit.c_lshl xx (14 : Int32) 14 (by decide)
    have t2 := Jvm.RoadKit.rng64 (xx <<< ((14 : Int32) &&& 0x3f).toInt64)
    generalize xx <<< ((14 : Int32) &&& 0x3f).toInt64 = yy at t1 t2 ⊢
    have p1 : (2 : Int) ^ (7 * 2) = 16384 := by decide
    have p2 : (2 : Int) ^ (7 * (2 + 1)) = 2097152 := by decide
    have p3 : ((2 ^ 14 : Nat) : Int) = 16384 := by decide
    rw [p1] at hr0 hd
    rw [p3] at t1
    rw [p2]
    have t3 := Jvm.RoadKit.c_orL' r yy 14 (by decide) 16384 (by decide) (by omega) (by omega) (by omega)
    omega
  · have es := hz (21 : Int32) (by rw [hs]; rfl)
    subst es
    have t1 := Jvm.RoadKit.c_lshl xx (21 : Int32) 21 (by decide)
    have t2 := Jvm.RoadKit.rng64 (xx <<< ((21 : Int32) &&& 0x3f).toInt64)
    generalize xx <<< ((21 : Int32) &&& 0x3f).toInt64 = yy at t1 t2 ⊢
    have p1 : (2 : Int) ^ (7 * 3) = 2097152 := by decide
    have p2 : (2 : Int) ^ (7 * (3 + 1)) = 268435456 := by decide
    have p3 : ((2 ^ 21 : Nat) : Int) = 2097152 := by decide
    rw [p1] at hr0 hd
    rw [p3] at t1
    rw [p2]
    have t3 := Jvm.RoadKit.c_orL' r yy 21 (by decide) 2097152 (by decide) (by omega) (by omega) (by omega)
    omega
  · have es := hz (28 : Int32) (by rw [hs]; rfl)
    subst es
    have t1 := Jvm.RoadKit.c_lshl xx (28 : Int32) 28 (by decide)
    have t2 := Jvm.RoadKit.rng64 (xx <<< ((28 : Int32) &&& 0x3f).toInt64)
    generalize xx <<< ((28 : Int32) &&& 0x3f).toInt64 = yy at t1 t2 ⊢
    have p1 : (2 : Int) ^ (7 * 4) = 268435456 := by decide
    have p2 : (2 : Int) ^ (7 * (4 + 1)) = 34359738368 := by decide
    have p3 : ((2 ^ 28 : Nat) : Int) = 268435456 := by decide
    rw [p1] at hr0 hd
    rw [p3] at t1
    rw [p2]
    have t3 := Jvm.RoadKit.c_orL' r yy 28 (by decide) 268435456 (by decide) (by omega) (by omega) (by omega)
    omega
  · have es := hz (35 : Int32) (by rw [hs]; rfl)
    subst es
    have t1 := Jvm.RoadKit.c_lshl xx (35 : Int32) 35 (by decide)
    have t2 := Jvm.RoadKit.rng64 (xx <<< ((35 : Int32) &&& 0x3f).toInt64)
    generalize xx <<< ((35 : Int32) &&& 0x3f).toInt64 = yy at t1 t2 ⊢
    have p1 : (2 : Int) ^ (7 * 5) = 34359738368 := by decide
    have p2 : (2 : Int) ^ (7 * (5 + 1)) = 4398046511104 := by decide
    have p3 : ((2 ^ 35 : Nat) : Int) = 34359738368 := by decide
    rw [p1] at hr0 hd
    rw [p3] at t1
    rw [p2]
    have t3 := Jvm.RoadKit.c_orL' r yy 35 (by decide) 34359738368 (by decide) (by omega) (by omega) (by omega)
    omega
  · have es := hz (42 : Int32) (by rw [hs]; rfl)
    subst es
    have t1 := Jvm.RoadKit.c_lshl xx (42 : Int32) 42 (by decide)
    have t2 := Jvm.RoadKit.rng64 (xx <<< ((42 : Int32) &&& 0x3f).toInt64)
    generalize xx <<< ((42 : Int32) &&& 0x3f).toInt64 = yy at t1 t2 ⊢
    have p1 : (2 : Int) ^ (7 * 6) = 4398046511104 := by decide
    have p2 : (2 : Int) ^ (7 * (6 + 1)) = 562949953421312 := by decide
    have p3 : ((2 ^ 42 : Nat) : Int) = 4398046511104 := by decide
    rw [p1] at hr0 hd
    rw [p3] at t1
    rw [p2]
    have t3 := Jvm.RoadKit.c_orL' r yy 42 (by decide) 4398046511104 (by decide) (by omega) (by omega) (by omega)
    omega
  · have es := hz (49 : Int32) (by rw [hs]; rfl)
    subst es
    have t1 := Jvm.RoadKit.c_lshl xx (49 : Int32) 49 (by decide)
    have t2 := Jvm.RoadKit.rng64 (xx <<< ((49 : Int32) &&& 0x3f).toInt64)
    generalize xx <<< ((49 : Int32) &&& 0x3f).toInt64 = yy at t1 t2 ⊢
    have p1 : (2 : Int) ^ (7 * 7) = 562949953421312 := by decide
    have p2 : (2 : Int) ^ (7 * (7 + 1)) = 72057594037927936 := by decide
    have p3 : ((2 ^ 49 : Nat) : Int) = 562949953421312 := by decide
    rw [p1] at hr0 hd
    rw [p3] at t1
    rw [p2]
    have t3 := Jvm.RoadKit.c_orL' r yy 49 (by decide) 562949953421312 (by decide) (by omega) (by omega) (by omega)
    omega
  · have es := hz (56 : Int32) (by rw [hs]; rfl)
    subst es
    have t1 := Jvm.RoadKit.c_lshl xx (56 : Int32) 56 (by decide)
    have t2 := Jvm.RoadKit.rng64 (xx <<< ((56 : Int32) &&& 0x3f).toInt64)
    generalize xx <<< ((56 : Int32) &&& 0x3f).toInt64 = yy at t1 t2 ⊢
    have p1 : (2 : Int) ^ (7 * 8) = 72057594037927936 := by decide
    have p2 : (2 : Int) ^ (7 * (8 + 1)) = 9223372036854775808 := by decide
    have p3 : ((2 ^ 56 : Nat) : Int) = 72057594037927936 := by decide
    rw [p1] at hr0 hd
    rw [p3] at t1
    rw [p2]
    have t3 := Jvm.RoadKit.c_orL' r yy 56 (by decide) 72057594037927936 (by decide) (by omega) (by omega) (by omega)
    omega
  · have es := hz (63 : Int32) (by rw [hs]; rfl)
    subst es
    have t1 := Jvm.RoadKit.c_lshl xx (63 : Int32) 63 (by decide)
    have t2 := Jvm.RoadKit.rng64 (xx <<< ((63 : Int32) &&& 0x3f).toInt64)
    generalize xx <<< ((63 : Int32) &&& 0x3f).toInt64 = yy at t1 t2 ⊢
    have p1 : (2 : Int) ^ (7 * 9) = 9223372036854775808 := by decide
    have p2 : (2 : Int) ^ (7 * (9 + 1)) = 1180591620717411303424 := by decide
    have p3 : ((2 ^ 63 : Nat) : Int) = 9223372036854775808 := by decide
    rw [p1] at hr0 hd
    rw [p3] at t1
    rw [p2]
    have t3 := Jvm.RoadKit.c_orL' r yy 63 (by decide) 9223372036854775808 (by decide) (by omega) (by omega) (by omega)
    omega
theorem own_l0 : (0 : Int64).toInt = 0 := rfl
theorem own_l1 : (1 : Int64).toInt = 1 := rfl
theorem own_lm1 : (-1 : Int64).toInt = -1 := rfl
theorem own_zm1 : (-1 : Int32).toInt = -1 := rfl
theorem own_z11 : (11 : Int32).toInt = 11 := rfl
theorem own_z10 : (10 : Int32).toInt = 10 := rfl
theorem own_z9 : (9 : Int32).toInt = 9 := rfl
theorem own_z2 : (2 : Int32).toInt = 2 := rfl
theorem own_lt64 {a b : Int64} : a < b ↔ a.toInt < b.toInt := Int64.lt_iff_toInt_lt
theorem own_p0 : (2 : Int) ^ (7 * 0) = 1 := by decide
theorem own_p1 : (2 : Int) ^ (7 * 1) = 128 := by decide
theorem own_p1' : (2 : Int) ^ (7 * (1 : Int).toNat) = 128 := by decide
def own_okb (vs : List Value) (s n U : Int) : Prop := ∀ (i : Nat) (q : Int32), (i : Int) < n → q.toInt = s + (i : Int) → vs.getD q.toNatClampNeg (.int (0 : Int32)) = .int (own_by vs q) ∧ ((own_by vs q) &&& (255 : Int32)).toInt = U / 2 ^ (7 * i) % 128 + (if (i : Int) + 1 < n then 128 else 0)
theorem own_rd (vs : List Value) (z : Int32) (s n U : Int) (h0 : 0 ≤ U ∧ U < 18446744073709551616) (hs : 0 ≤ s) (hm : n ≤ 10) (hmz : s + n ≤ z.toInt) (H : own_okb vs s n U) : ∀ (k i : Nat) (q sh : Int32) (r : Int64), q.toInt = s + (i : Int) → (i : Int) < n → sh.toInt = 7 * (i : Int) → n ≤ (i : Int) + (k : Int) → r.toInt % 18446744073709551616 = U % 2 ^ (7 * i) →
    rok k vs z q sh ∧ (rl k vs q r sh).2.toInt = s + n ∧ (rl k vs q r sh).1.toInt % 18446744073709551616 = U % 2 ^ (7 * n.toNat) := by
  intro k
  induction k with
  | zero => intro i q sh r h1 h2 h3 h4 h5; omega
  | succ k ih =>
    intro i q sh r h1 h2 h3 h4 h5
    have zz := Jvm.RoadKit.rng32 z
    obtain ⟨a1, a2⟩ := H i q h2 h1
    have m1 := Jvm.RoadKit.c_mask ((own_by vs q) &&& (255 : Int32)) (127 : Int32) 7 (by decide) (by decide)
    have pz : 0 ≤ U / 2 ^ (7 * i) % 128 ∧ U / 2 ^ (7 * i) % 128 < 128 := by omega
    have hd : (((own_by vs q) &&& (255 : Int32)) &&& (127 : Int32)).toInt = U / 2 ^ (7 * i) % 128 := by
      rw [m1, a2]; by_cases c : (i : Int) + 1 < n
      · rw [if_pos c]; omega
      · rw [if_neg c]; omega
    have s1 := own_step r (own_by vs q) sh U i h0 (by omega) h3 h5 hd
    have g1 := Jvm.RoadKit.c_iadd q (1 : Int32)
    have g2 := Jvm.RoadKit.rng32 (q + (1 : Int32))
    have g3 := Jvm.RoadKit.c_iadd sh (7 : Int32)
    have g4 := Jvm.RoadKit.rng32 (sh + (7 : Int32))
    have e1 := own_z1
    have e7 := own_z7
    have hq : (¬ (q < (0 : Int32))) ∧ q < z := by rw [own_lt32, own_lt32, own_z0]; omega
    have h63 : sh = (63 : Int32) → ¬ ((1 : Int32) < ((own_by vs q) &&& (255 : Int32))) := by
      intro es; rw [es] at h3
      have h3' : (63 : Int) = 7 * (i : Int) := h3
      have i9 : i = 9 := by omega
      subst i9
      rw [own_lt32, own_z1, a2, if_neg (by omega)]
      have p1 : (2 : Int) ^ (7 * 9) = 9223372036854775808 := by decide
      rw [p1]; omega
    by_cases c : (i : Int) + 1 < n
    · rw [if_pos c] at a2
      have nb : ¬ (((own_by vs q) &&& (255 : Int32)) &&& (128 : Int32)) = (0 : Int32) := by rw [own_128 _ (by omega)]; omega
      obtain ⟨b1, b2, b3⟩ := ih (i + 1) (q + (1 : Int32)) (sh + (7 : Int32)) (own_res r (own_by vs q) sh) (by omega) (by omega) (by omega) (by omega) s1
      refine ⟨⟨hq, a1, h63, Or.inr b1⟩, ?_, ?_⟩
      · simp only [rl]; rw [if_neg nb]; exact b2
      · simp only [rl]; rw [if_neg nb]; exact b3
    · rw [if_neg c] at a2
      have nb : (((own_by vs q) &&& (255 : Int32)) &&& (128 : Int32)) = (0 : Int32) := by rw [own_128 _ (by omega)]; omega
      refine ⟨⟨hq, a1, h63, Or.inl nb⟩, ?_, ?_⟩
      · simp only [rl]; rw [if_pos nb]; show (q + (1 : Int32)).toInt = _; omega
      · simp only [rl]; rw [if_pos nb]; rw [show n.toNat = i + 1 by omega]; exact s1
theorem own_rd0 (vs : List Value) (z q : Int32) (s n U : Int) (h0 : 0 ≤ U ∧ U < 18446744073709551616) (hs : 0 ≤ s) (h1 : 1 ≤ n) (hm : n ≤ 10) (hmz : s + n ≤ z.toInt) (H : own_okb vs s n U) (hq : q.toInt = s) :
    rok 10 vs z q (0 : Int32) ∧ (rl 10 vs q (0 : Int64) (0 : Int32)).2.toInt = s + n ∧ (rl 10 vs q (0 : Int64) (0 : Int32)).1.toInt % 18446744073709551616 = U % 2 ^ (7 * n.toNat) := by
  refine own_rd vs z s n U h0 hs hm hmz H 10 0 q (0 : Int32) (0 : Int64) (by omega) (by omega) (by rw [own_z0]; omega) (by omega) ?_
  rw [own_l0, own_p0]
  omega
theorem own_pm (U : Int) (a b : Nat) (h : a ≤ b) (hU : U < 2 ^ (7 * a)) : U < 2 ^ (7 * b) := by
  have c : ((2 ^ (7 * a) : Nat) : Int) ≤ ((2 ^ (7 * b) : Nat) : Int) := Int.ofNat_le.mpr (Nat.pow_le_pow_right (by decide) (by omega))
  rw [Int.natCast_pow, Int.natCast_pow] at c
  exact Int.lt_of_lt_of_le hU c
theorem own_m1 (y : Int64) : (y ^^^ (-1 : Int64)).toInt = -y.toInt - 1 := by
  have e := Int64.toInt_not y
  have r := Jvm.RoadKit.rng64 (~~~y)
  have g := Jvm.RoadKit.rng64 y
  have t := Jvm.RoadKit.bm64 (-y.toInt - 1)
  rw [Int64.xor_neg_one]
  rw [← e] at t
  omega
theorem own_m1i (y : Int32) : (y ^^^ (-1 : Int32)).toInt = -y.toInt - 1 := by
  have e := Int32.toInt_not y
  have r := Jvm.RoadKit.rng32 (~~~y)
  have g := Jvm.RoadKit.rng32 y
  have t := Jvm.RoadKit.bm32 (-y.toInt - 1)
  rw [Int32.xor_neg_one]
  rw [← e] at t
  omega
theorem own_uz (W : Int64) : (((W.toUInt64 >>> ((1 : Int32) &&& 0x3f).toInt64.toUInt64).toInt64) ^^^ (-(W &&& (1 : Int64)))).toInt = (if W.toInt % 2 = 0 then W.toInt % 18446744073709551616 / 2 else -(W.toInt % 18446744073709551616 / 2) - 1) := by
  have h1 := Jvm.RoadKit.c_lushr W (1 : Int32) 1 (by decide) (by decide)
  have h2 := Jvm.RoadKit.c_maskL W (1 : Int64) 1 (by decide) (by decide)
  by_cases c : W.toInt % 2 = 0
  · have e : W &&& (1 : Int64) = (0 : Int64) := Int64.toInt_inj.mp (by rw [h2, own_l0]; omega)
    rw [e, if_pos c, show (-(0 : Int64)) = (0 : Int64) from by decide, Int64.xor_zero, h1] <;> omega
  · have e : W &&& (1 : Int64) = (1 : Int64) := Int64.toInt_inj.mp (by rw [h2, own_l1]; omega)
    rw [e, if_neg c, own_m1, h1] <;> omega
theorem own_zzl (v : Int64) : ((v <<< ((1 : Int32) &&& 0x3f).toInt64) ^^^ (v >>> ((63 : Int32) &&& 0x3f).toInt64)).toInt % 18446744073709551616 = (if 0 ≤ v.toInt then 2 * v.toInt else -2 * v.toInt - 1) := by
  have h1 := Jvm.RoadKit.c_lshl v (1 : Int32) 1 (by decide)
  have h2 := Jvm.RoadKit.c_lshr v (63 : Int32) 63 (by decide)
  have g := Jvm.RoadKit.rng64 v
  by_cases c : 0 ≤ v.toInt
  · have e : v >>> ((63 : Int32) &&& 0x3f).toInt64 = (0 : Int64) := Int64.toInt_inj.mp (by rw [h2, own_l0]; omega)
    rw [e, if_pos c, Int64.xor_zero]; omega
  · have e : v >>> ((63 : Int32) &&& 0x3f).toInt64 = (-1 : Int64) := Int64.toInt_inj.mp (by rw [h2, own_lm1]; omega)
    rw [e, if_neg c, own_m1]; omega
theorem own_zzi (v : Int32) : ((v <<< ((1 : Int32) &&& 31)) ^^^ (v >>> ((31 : Int32) &&& 31))).toInt % 4294967296 = (if 0 ≤ v.toInt then 2 * v.toInt else -2 * v.toInt - 1) := by
  have h1 := Jvm.RoadKit.c_ishl v (1 : Int32) 1 (by decide)
  have h2 := Jvm.RoadKit.c_ishr v (31 : Int32) 31 (by decide)
  have g := Jvm.RoadKit.rng32 v
  by_cases c : 0 ≤ v.toInt
  · have e : v >>> ((31 : Int32) &&& 31) = (0 : Int32) := Int32.toInt_inj.mp (by rw [h2, own_z0]; omega)
    rw [e, if_pos c, Int32.xor_zero]; omega
  · have e : v >>> ((31 : Int32) &&& 31) = (-1 : Int32) := Int32.toInt_inj.mp (by rw [h2, own_zm1]; omega)
    rw [e, if_neg c, own_m1i]; omega
theorem own_mr (k p m : Int32) (hk : 1 ≤ k.toInt ∧ k.toInt ≤ 10) (h : (k + ((p &&& (2147483647 : Int32)) % ((11 : Int32) - k))) = m) : k.toInt ≤ m.toInt ∧ m.toInt ≤ 10 := by
  have e := own_z11
  have t0 := Jvm.RoadKit.c_isub (11 : Int32) k
  have t1 := Jvm.RoadKit.rng32 ((11 : Int32) - k)
  have t2 := Jvm.RoadKit.c_mask p (2147483647 : Int32) 31 (by decide) (by decide)
  have t3 : 0 ≤ (p &&& (2147483647 : Int32)).toInt := by rw [t2]; omega
  obtain ⟨u1, u2, _, _, _⟩ := (Jvm.RoadKit.c_iremV (p &&& (2147483647 : Int32)) ((11 : Int32) - k)).1 t3 (by omega)
  have t4 := Jvm.RoadKit.c_iadd k ((p &&& (2147483647 : Int32)) % ((11 : Int32) - k))
  have t5 := Jvm.RoadKit.rng32 (k + ((p &&& (2147483647 : Int32)) % ((11 : Int32) - k)))
  rw [h] at t4 t5
  omega
theorem own_nz (k : Int32) (hk : 1 ≤ k.toInt ∧ k.toInt ≤ 10) : (11 : Int32) - k ≠ (0 : Int32) := by
  intro c
  have e := own_z11
  have t0 := Jvm.RoadKit.c_isub (11 : Int32) k
  rw [c, own_z0] at t0
  omega
theorem own_e (vs : List Value) (q : Int32) (i : Nat) (b : Int32) (hq : q.toNatClampNeg = i) (h : vs.getD i (.int (0 : Int32)) = .int b) : vs.getD q.toNatClampNeg (.int (0 : Int32)) = .int (own_by vs q) ∧ own_by vs q = b := by
  unfold own_by; rw [hq, h]; exact ⟨rfl, rfl⟩
theorem own_bb (q : Int32) : (q.toInt8.toInt32).toInt8.toInt32 = q.toInt8.toInt32 := by
  simp
theorem own_shd (v : Int64) (d : Int32) (h : 0 ≤ d.toInt ∧ d.toInt ≤ 9) : (((v.toUInt64 >>> (((7 : Int32) * d) &&& 0x3f).toInt64.toUInt64).toInt64)).toInt % 128 = v.toInt % 18446744073709551616 / 2 ^ (7 * d.toInt.toNat) % 128 := by
  have r := Jvm.RoadKit.rng64 v
  have hc : d = 0 ∨ d = 1 ∨ d = 2 ∨ d = 3 ∨ d = 4 ∨ d = 5 ∨ d = 6 ∨ d = 7 ∨ d = 8 ∨ d = 9 := by
    simp only [← Int32.toInt_inj]
    show d.toInt = 0 ∨ d.toInt = 1 ∨ d.toInt = 2 ∨ d.toInt = 3 ∨ d.toInt = 4 ∨ d.toInt = 5 ∨ d.toInt = 6 ∨ d.toInt = 7 ∨ d.toInt = 8 ∨ d.toInt = 9
    omega
  rcases hc with e | e | e | e | e | e | e | e | e | e <;> subst e
  · have z : ((v.toUInt64 >>> (((7 : Int32) * 0) &&& 0x3f).toInt64.toUInt64).toInt64) = v := by
      have : (((7 : Int32) * 0) &&& 0x3f).toInt64.toUInt64 = 0 := by decide
      rw [this]; simp
    rw [z]; show v.toInt % 128 = v.toInt % 18446744073709551616 / 2 ^ 0 % 128; omega
  · have q := Jvm.RoadKit.c_lushr v ((7 : Int32) * 1) 7 (by decide) (by decide); rw [q]; show _ = v.toInt % 18446744073709551616 / 2 ^ 7 % 128; omega
  · have q := Jvm.RoadKit.c_lushr v ((7 : Int32) * 2) 14 (by decide) (by decide); rw [q]; show _ = v.toInt % 18446744073709551616 / 2 ^ 14 % 128; omega
  · have q := Jvm.RoadKit.c_lushr v ((7 : Int32) * 3) 21 (by decide) (by decide); rw [q]; show _ = v.toInt % 18446744073709551616 / 2 ^ 21 % 128; omega
  · have q := Jvm.RoadKit.c_lushr v ((7 : Int32) * 4) 28 (by decide) (by decide); rw [q]; show _ = v.toInt % 18446744073709551616 / 2 ^ 28 % 128; omega
  · have q := Jvm.RoadKit.c_lushr v ((7 : Int32) * 5) 35 (by decide) (by decide); rw [q]; show _ = v.toInt % 18446744073709551616 / 2 ^ 35 % 128; omega
  · have q := Jvm.RoadKit.c_lushr v ((7 : Int32) * 6) 42 (by decide) (by decide); rw [q]; show _ = v.toInt % 18446744073709551616 / 2 ^ 42 % 128; omega
  · have q := Jvm.RoadKit.c_lushr v ((7 : Int32) * 7) 49 (by decide) (by decide); rw [q]; show _ = v.toInt % 18446744073709551616 / 2 ^ 49 % 128; omega
  · have q := Jvm.RoadKit.c_lushr v ((7 : Int32) * 8) 56 (by decide) (by decide); rw [q]; show _ = v.toInt % 18446744073709551616 / 2 ^ 56 % 128; omega
  · have q := Jvm.RoadKit.c_lushr v ((7 : Int32) * 9) 63 (by decide) (by decide); rw [q]; show _ = v.toInt % 18446744073709551616 / 2 ^ 63 % 128; omega
theorem own_b255 (X : Int32) : ((X.toInt8.toInt32) &&& (255 : Int32)).toInt = X.toInt % 256 := by
  have h1 := Jvm.RoadKit.c_i2b X
  have h2 := Jvm.RoadKit.c_mask (X.toInt8.toInt32) (255 : Int32) 8 (by decide) (by decide)
  omega
theorem own_bytelo (v : Int64) (q : Int32) (hq : 0 ≤ q.toInt ∧ q.toInt ≤ 9) : ((((((v.toUInt64 >>> (((7 : Int32) * q) &&& 0x3f).toInt64.toUInt64).toInt64) &&& (127 : Int64)).toInt32).toInt8.toInt32) &&& (255 : Int32)).toInt = v.toInt % 18446744073709551616 / 2 ^ (7 * q.toInt.toNat) % 128 := by
  rw [own_b255, ← own_shd v q hq]
  generalize (v.toUInt64 >>> (((7 : Int32) * q) &&& 0x3f).toInt64.toUInt64).toInt64 = u
  have m1 := Jvm.RoadKit.c_maskL u (127 : Int64) 7 (by decide) (by decide)
  have m2 := Jvm.RoadKit.c_l2i (u &&& (127 : Int64))
  have m3 := Jvm.RoadKit.rng32 (u &&& (127 : Int64)).toInt32
  omega
theorem own_bytehi (v : Int64) (q : Int32) (hq : 0 ≤ q.toInt ∧ q.toInt ≤ 9) : (((((((v.toUInt64 >>> (((7 : Int32) * q) &&& 0x3f).toInt64.toUInt64).toInt64) &&& (127 : Int64)).toInt32) ||| (128 : Int32)).toInt8.toInt32) &&& (255 : Int32)).toInt = v.toInt % 18446744073709551616 / 2 ^ (7 * q.toInt.toNat) % 128 + 128 := by
  rw [own_b255, ← own_shd v q hq]
  generalize (v.toUInt64 >>> (((7 : Int32) * q) &&& 0x3f).toInt64.toUInt64).toInt64 = u
  have m1 := Jvm.RoadKit.c_maskL u (127 : Int64) 7 (by decide) (by decide)
  have m2 := Jvm.RoadKit.c_l2i (u &&& (127 : Int64))
  have m3 := Jvm.RoadKit.rng32 (u &&& (127 : Int64)).toInt32
  have e : (128 : Int32).toInt = 128 := rfl
  have o := Jvm.RoadKit.c_or' ((u &&& (127 : Int64)).toInt32) (128 : Int32) 7 (by decide) 128 (by decide) (by rw [e]; decide) (by omega) (by omega)
  omega

theorem d4_0 : decode jdk_31_method_11_code 0 = .ok (.aload_n 0, 1) := by decide +kernel
theorem d4_1 : decode jdk_31_method_11_code 1 = .ok (.ifnonnull 12, 3) := by decide +kernel
theorem d4_13 : decode jdk_31_method_11_code 13 = .ok (.aload_n 0, 1) := by decide +kernel
def Q_rm4 (Z : State) (o0 : Addr) (o1 : Addr) (h0 : Heap) (n0 : Nat) (v : Option Value) (h : Heap) (L : List Loc) : Prop := v = some (.ref o0) ∧ Fr n0 L ∧ h = h0
theorem pn_4 : plainName "java/util/Objects" = true := by first | (simp [plainName, overriddenIn]; done) | decide +kernel
theorem ef_4 (m : MethodId) (x0 : Addr) (x1 : Addr) : entryFrame m #[(.ref x0), (.ref x1)] 2 = mkF m 0 #[.val (.ref x0), .val (.ref x1)] [] := by first | (simp [entryFrame, mkF, argsToLocals, Value.category]; done) | rfl
theorem d4_14 : decode jdk_31_method_11_code 14 = .ok (.areturn, 1) := by decide +kernel
set_option maxRecDepth 65536 in
set_option maxHeartbeats 40000000 in
theorem rm4 (l : Launch) (Z : State) (a0 : Array Value) (hw : ∀ d ∈ tables_1, d.before a0 Z = true) (ws : List Jvm.Cond) (o0 : Addr) (o1 : Addr) (h0 : Heap) (n0 : Nat) (Z0 : n0 ≤ h0.size) :
    MetFree l (⟨"java/util/Objects", "requireNonNull", "(Ljava/lang/Object;Ljava/lang/String;)Ljava/lang/Object;"⟩ : MethodName) (head1 (Jvm.Cond.code (⟨"java/util/Objects", "requireNonNull", "(Ljava/lang/Object;Ljava/lang/String;)Ljava/lang/Object;"⟩ : MethodName) jdk_31_method_11_code 2 (some (.object "java/lang/Object")) :: ws) ({ frames := 0, cells := 0, slots := 0, locals := 0 } : Room)) (fun a U => a = #[(.ref o0), (.ref o1)] ∧ Z.Warmed39 U.vm ∧ U.heap = h0) (fun _ _ _ _ _ => True) (fun _ U o U' => ∃ v L, o = .returned v ∧ Q_rm4 Z o0 o1 h0 n0 v U'.heap L ∧ FrameEnd U o U' L ({ frames := 0, cells := 0, slots := 0, locals := 0 } : Room).cells ({ frames := 0, cells := 0, slots := 0, locals := 0 } : Room).slots) := by
  refine MetFree.of_bodySF (plainFor_of_name pn_4) hisR ?_
  intro p e s m args below meth c s₁ Bd hml0 hP hK
  obtain ⟨rfl, hZ, hh⟩ := hP
  have hx := Bd.exec
  have hby := Bd.bytes
  have hml : c.maxLocals = 2 := hml0
  have hown : s.vm.findClass "java/util/Objects" = some m.cls := findClass_of_methodNamed Bd.named
  have hnm := (name_of_methodNamed Bd.named Bd.method).1
  have X0 : Stand p l e ({ frames := 0, cells := 0, slots := 0, locals := 0 } : Room) s m #[(.ref o0), (.ref o1)] below meth c s₁ [] 0 0 := Stand.of_body Bd
  have e0 : s₁.heap = h0 := by rw [← hh, Bd.state]; rfl
  have N0 := Fr.nil n0
  have Kp0 : Keep h0 h0 [] := Keep.refl _ _
  have K0 : Steps p.tables e below (s₁.setTop (entryFrame m #[(.ref o0), (.ref o1)] 2)) (s₁.setTop (mkF m 0 #[.val (.ref o0), .val (.ref o1)] [])) := castTop (ef_4 m o0 o1) (Steps.refl _)
  have K1 : Steps p.tables e below _ (s₁.setTop (mkF m 14 #[.val (.ref o0), .val (.ref o1)] [(.ref o0)])) := K0.trans (by
    show Steps p.tables e below (s₁.setTop (mkF m 0 #[.val (.ref o0), .val (.ref o1)] [])) _
    refine XS.aloadN X0.here hx rfl (hb hby d4_0) rfl rfl ?_
    show Steps p.tables e below (s₁.setTop (mkF m 1 #[.val (.ref o0), .val (.ref o1)] [(.ref o0)])) _
    refine XS.ifnonnullYes X0.here hx rfl (pc0 := 1) (pc' := 13) rfl (hb hby d4_1) rfl (by decide) (by decide) ?_
    show Steps p.tables e below (s₁.setTop (mkF m 13 #[.val (.ref o0), .val (.ref o1)] [])) _
    refine XS.aloadN X0.here hx rfl (hb hby d4_13) rfl rfl ?_
    show Steps p.tables e below (s₁.setTop (mkF m 14 #[.val (.ref o0), .val (.ref o1)] [(.ref o0)])) _
    exact Steps.refl _)
  obtain ⟨fs, hr, hrun, hended, hW, hsame⟩ := X0.leave (v := some (.ref o0)) (fun h => by rw [Bd.returns] at h; cases h)
  refine ⟨_, _, K1.trans (retOut X0 hx Bd.returns rfl (Or.inr (Or.inr (Or.inr (Or.inr ⟨rfl, rfl, rfl⟩)))) (hb hby d4_14) hr), hrun, hended, _, _, rfl, ?_, ⟨_, rfl⟩, hW, hsame.mono (by decide) (by first | decide | omega)⟩
  show Q_rm4 Z o0 o1 h0 n0 _ s₁.heap _
  rw [e0]
  exact ⟨rfl, N0, rfl⟩
theorem d2_0 : decode prog_1_method_1_code 0 = .ok (.aload_n 0, 1) := by decide +kernel
theorem d2_1 : decode prog_1_method_1_code 1 = .ok (.invokespecial 1, 3) := by decide +kernel
theorem d2_4 : decode prog_1_method_1_code 4 = .ok (.aload_n 0, 1) := by decide +kernel
theorem d2_5 : decode prog_1_method_1_code 5 = .ok (.aload_n 1, 1) := by decide +kernel
theorem own_sa {a0 : Array Value} {Z : State} (hw : ∀ d ∈ tables_1, d.before a0 Z = true) : ∀ d ∈ Bundle.stringAtoms, d.before a0 Z = true := fun d hd => hw d (by
  simp only [Bundle.stringAtoms, List.mem_cons, List.not_mem_nil, or_false] at hd
  rcases hd with rfl | rfl | rfl | rfl | rfl | rfl | rfl <;> decide +kernel)
theorem d2_6 : decode prog_1_method_1_code 6 = .ok (.ldc 7, 2) := by decide +kernel
theorem pd_0 : parseMethodDescriptor "(Ljava/lang/Object;Ljava/lang/String;)Ljava/lang/Object;" = some ⟨[(.object "java/lang/Object"), (.object "java/lang/String")], some (.object "java/lang/Object")⟩ := by decide +kernel
theorem d2_8 : decode prog_1_method_1_code 8 = .ok (.invokestatic 9, 3) := by decide +kernel
theorem d2_11 : decode prog_1_method_1_code 11 = .ok (.checkcast 15, 3) := by decide +kernel
theorem d2_14 : decode prog_1_method_1_code 14 = .ok (.putfield 17, 3) := by decide +kernel
def Q_rm2 (Z : State) (o0 : Addr) (o1 : Addr) (w_pos : Int32) (u3_input : Value) (h0 : Heap) (n0 : Nat) (v : Option Value) (h : Heap) (L : List Loc) : Prop := v = none ∧ Fr n0 L ∧ Keep h0 h [o0] ∧ Exa Z h o0 "com/example/thin_gateway/thingateway/avro/AvroDecoder" ∧ Fld Z h o0 "com/example/thin_gateway/thingateway/avro/AvroDecoder" "position" "I" (.int w_pos) ∧ Fld Z h o0 "com/example/thin_gateway/thingateway/avro/AvroDecoder" "input" "[B" (.ref o1)
theorem pn_2 : plainName "com/example/thin_gateway/thingateway/avro/AvroDecoder" = true := by first | (simp [plainName, overriddenIn]; done) | decide +kernel
theorem ef_2 (m : MethodId) (x0 : Addr) (x1 : Addr) : entryFrame m #[(.ref x0), (.ref x1)] 2 = mkF m 0 #[.val (.ref x0), .val (.ref x1)] [] := by first | (simp [entryFrame, mkF, argsToLocals, Value.category]; done) | rfl
theorem d2_17 : decode prog_1_method_1_code 17 = .ok (.return_, 1) := by decide +kernel
set_option maxRecDepth 65536 in
set_option maxHeartbeats 40000000 in
theorem rm2 (l : Launch) (Z : State) (a0 : Array Value) (hw : ∀ d ∈ tables_1, d.before a0 Z = true) (ws : List Jvm.Cond) (o0 : Addr) (o1 : Addr) (w_pos : Int32) (u3_input : Value) (h0 : Heap) (n0 : Nat) (Z0 : n0 ≤ h0.size) (E_o0 : Exa Z h0 o0 "com/example/thin_gateway/thingateway/avro/AvroDecoder") (F_position_o0 : Fld Z h0 o0 "com/example/thin_gateway/thingateway/avro/AvroDecoder" "position" "I" (.int w_pos)) (E_o1 : Exa Z h0 o1 "[B") (ne_o0_o1 : o0 ≠ o1) (g_o0 : n0 ≤ o0) (F_input_o0 : Fld Z h0 o0 "com/example/thin_gateway/thingateway/avro/AvroDecoder" "input" "[B" u3_input) :
    MetFree l (⟨"com/example/thin_gateway/thingateway/avro/AvroDecoder", "<init>", "([B)V"⟩ : MethodName) (head1 (Jvm.Cond.code (⟨"com/example/thin_gateway/thingateway/avro/AvroDecoder", "<init>", "([B)V"⟩ : MethodName) prog_1_method_1_code 2 none :: ws) ({ frames := 1, cells := 2, slots := 24, locals := 14 } : Room)) (fun a U => a = #[(.ref o0), (.ref o1)] ∧ Z.Warmed39 U.vm ∧ U.heap = h0) (fun _ _ _ _ _ => True) (fun _ U o U' => ∃ v L, o = .returned v ∧ Q_rm2 Z o0 o1 w_pos u3_input h0 n0 v U'.heap L ∧ ReturnedEndW U o U' L ({ frames := 1, cells := 2, slots := 24, locals := 14 } : Room).cells ({ frames := 1, cells := 2, slots := 24, locals := 14 } : Room).slots) := by
  refine MetFree.of_bodySF (plainFor_of_name pn_2) hisR ?_
  intro p e s m args below meth c s₁ Bd hml0 hP hK
  obtain ⟨rfl, hZ, hh⟩ := hP
  have hx := Bd.exec
  have hby := Bd.bytes
  have hml : c.maxLocals = 2 := hml0
  have hown : s.vm.findClass "com/example/thin_gateway/thingateway/avro/AvroDecoder" = some m.cls := findClass_of_methodNamed Bd.named
  have hnm := (name_of_methodNamed Bd.named Bd.method).1
  have X0 : Stand p l e ({ frames := 1, cells := 2, slots := 24, locals := 14 } : Room) s m #[(.ref o0), (.ref o1)] below meth c s₁ [] 0 0 := Stand.of_body Bd
  have e0 : s₁.heap = h0 := by rw [← hh, Bd.state]; rfl
  have N0 := Fr.nil n0
  have Kp0 : Keep h0 h0 [o0] := Keep.refl _ _
  have K0 : Steps p.tables e below (s₁.setTop (entryFrame m #[(.ref o0), (.ref o1)] 2)) (s₁.setTop (mkF m 0 #[.val (.ref o0), .val (.ref o1)] [])) := castTop (ef_2 m o0 o1) (Steps.refl _)
  have K1 : Steps p.tables e below _ (s₁.setTop (mkF m 1 #[.val (.ref o0), .val (.ref o1)] [(.ref o0)])) := K0.trans (by
    show Steps p.tables e below (s₁.setTop (mkF m 0 #[.val (.ref o0), .val (.ref o1)] [])) _
    refine XS.aloadN X0.here hx rfl (hb hby d2_0) rfl rfl ?_
    show Steps p.tables e below (s₁.setTop (mkF m 1 #[.val (.ref o0), .val (.ref o1)] [(.ref o0)])) _
    exact Steps.refl _)
  obtain ⟨T2, X2, e2, st2⟩ := initO X0 hx hZ hown (hw _ (List.mem_of_getElem? (i := 11) rfl)) (hw _ (List.mem_of_getElem? (i := 12) rfl)) (hw _ (List.mem_of_getElem? (i := 13) rfl)) e0 (g := (mkF m 1 #[.val (.ref o0), .val (.ref o1)] [(.ref o0)])) rfl (by rw [hml]; rfl) rfl (hb hby d2_1) (by decide) (W := 0) (by show 2 * 0 + _ ≤ _; exact Nat.le_of_eq rfl) (by decide)
  have K3 : Steps p.tables e below _ (T2.setTop (mkF m 4 #[.val (.ref o0), .val (.ref o1)] [])) := K1.trans (st2 _ (Steps.refl _))
  have K4 : Steps p.tables e below _ (T2.setTop (mkF m 6 #[.val (.ref o0), .val (.ref o1)] [(.ref o1), (.ref o0)])) := K3.trans (by
    show Steps p.tables e below (T2.setTop (mkF m 4 #[.val (.ref o0), .val (.ref o1)] [])) _
    refine XS.aloadN X2.here hx rfl (hb hby d2_4) rfl rfl ?_
    show Steps p.tables e below (T2.setTop (mkF m 5 #[.val (.ref o0), .val (.ref o1)] [(.ref o0)])) _
    refine XS.aloadN X2.here hx rfl (hb hby d2_5) rfl rfl ?_
    show Steps p.tables e below (T2.setTop (mkF m 6 #[.val (.ref o0), .val (.ref o1)] [(.ref o1), (.ref o0)])) _
    exact Steps.refl _)
  have Xw5 : Stand p l e ({ frames := 1, cells := 2, slots := 24, locals := 14 } : Room) (s.setVm s.vm) m #[(.ref o0), (.ref o1)] below meth c T2 _ _ _ := X2
  obtain ⟨b5, T5, h5, kk5, X5, e5, E5, hS5, hk5, hZ5, hown5, st5⟩ := ldcS Xw5 hx hZ hown (hw _ (List.mem_of_getElem? (i := 14) rfl)) (own_sa hw) e2 (State.WarmedH.since (State.WarmedH.refl s) 0) (Nat.zero_le _) (g := (mkF m 6 #[.val (.ref o0), .val (.ref o1)] [(.ref o1), (.ref o0)])) rfl (hb hby d2_6) (n := 20) (by decide) (by decide) (by decide) (by decide)
  have hZ := hZ5
  have hown := hown5
  have K6 : Steps p.tables e below _ (T5.setTop (mkF m 8 #[.val (.ref o0), .val (.ref o1)] [(.ref b5), (.ref o1), (.ref o0)])) := K4.trans (st5 _ (Steps.refl _))
  have Z_7 : n0 ≤ h5.size := (Nat.le_trans Z0 E5.1)
  obtain ⟨_, _, ⟨T8, L8, k8, n8⟩, -, X8, ⟨Lc8, hQ8, l8, y8, z8⟩, st8⟩ := Jvm.LawKit.callS X5 hx (y := (⟨"java/util/Objects", "requireNonNull", "(Ljava/lang/Object;Ljava/lang/String;)Ljava/lang/Object;"⟩ : MethodName)) hown (mvT hZ (hw _ (List.mem_of_getElem? (i := 21) rfl))) (mvT hZ (hw _ (List.mem_of_getElem? (i := 22) rfl))) (mvT hZ (hw _ (List.mem_of_getElem? (i := 23) rfl))) (mvT hZ (hw _ (List.mem_of_getElem? (i := 24) rfl))) (by decide) (backOf (W := 1) (rm4 l Z a0 hw [] o1 b5 h5 n0 Z_7 ) hZ (hw _ (List.mem_of_getElem? (i := 24) rfl)) (hw _ (List.mem_of_getElem? (i := 23) rfl)) (by decide) (by decide)) (g := (mkF m 8 #[.val (.ref o0), .val (.ref o1)] [(.ref b5), (.ref o1), (.ref o0)])) rfl (by rw [hml]; rfl) (argsL := [(.ref o1), (.ref b5)]) (rest := [(.ref o0)]) (lenOf pd_0 rfl) rfl (by show 2 * 0 + _ ≤ _; exact Nat.le_of_eq rfl) (hb hby d2_8) (fun _ _ => ⟨rfl, e5, (by decide : 2 + 0 ≤ _), (by decide : 24 + 0 ≤ _)⟩)
  dsimp only [Pt.U, Pt.locs, Pt.cells, Pt.slots] at X8 l8 y8 z8 st8 hQ8
  subst l8 y8 z8
  obtain ⟨rfl, N8, eh8⟩ := hQ8
  have N8' := Fr.app N0 N8
  have K9 : Steps p.tables e below _ (T8.setTop (mkF m 11 #[.val (.ref o0), .val (.ref o1)] [(.ref o1), (.ref o0)])) := K6.trans (st8 _ (Steps.refl _))
  have E_10 : Exa Z h5 o1 "[B" := (E_o1.ext E5)
  obtain ⟨T11, X11, e11, st11⟩ := castY X8 hx hZ hown (hw _ (List.mem_of_getElem? (i := 25) rfl)) eh8 (Ins.self E_10) (g := (mkF m 11 #[.val (.ref o0), .val (.ref o1)] [(.ref o1), (.ref o0)])) rfl rfl (hb hby d2_11)
  have K12 : Steps p.tables e below _ (T11.setTop (mkF m 14 #[.val (.ref o0), .val (.ref o1)] [(.ref o1), (.ref o0)])) := K9.trans (st11 _ (Steps.refl _))
  have E_13 : Exa Z h5 o0 "com/example/thin_gateway/thingateway/avro/AvroDecoder" := (E_o0.ext E5)
  have F_14 : Fld Z h5 o0 "com/example/thin_gateway/thingateway/avro/AvroDecoder" "input" "[B" u3_input := (F_input_o0.ext E5)
  obtain ⟨T15, h15, X15, e15, W15, st15⟩ := putF X11 hx hZ hown (host := "") (Or.inl (hw _ (List.mem_of_getElem? (i := 27) rfl))) Via.refl e11 F_14 E_13 (Or.inr ⟨(hw _ (List.mem_of_getElem? (i := 28) rfl)), rfl, hnm⟩) (hw _ (List.mem_of_getElem? (i := 6) rfl)) (ty := (.array .byte)) (by decide) rfl rfl (g := (mkF m 14 #[.val (.ref o0), .val (.ref o1)] [(.ref o1), (.ref o0)])) rfl rfl (hb hby d2_14)
  have K16 : Steps p.tables e below _ (T15.setTop (mkF m 17 #[.val (.ref o0), .val (.ref o1)] [])) := K12.trans (st15 _ (Steps.refl _))
  have Fw15 : Fld Z h15 o0 "com/example/thin_gateway/thingateway/avro/AvroDecoder" "input" "[B" (.ref o1) := F_14.same W15
  have N15 := Fr.snoc X15 N8' g_o0
  have Y_17 : kk5 ≤ h15.size := (Nat.le_trans hk5 (Keep.of_wr W15).1)
  obtain ⟨fs, hr, hrun, hended, hEW⟩ := X15.leaveW hS5 (by rw [e15]; exact Y_17) (v := none) (fun _ => rfl)
  have K_18 : Keep h0 h15 [o0] := ((Kp0.ext E5).wr W15 (Or.inl (List.mem_of_getElem? (i := 0) rfl)))
  have E_19 : Exa Z h15 o0 "com/example/thin_gateway/thingateway/avro/AvroDecoder" := (E_13.wr W15)
  have F_20 : Fld Z h15 o0 "com/example/thin_gateway/thingateway/avro/AvroDecoder" "position" "I" (.int w_pos) := ((F_position_o0.ext E5).other W15 (Or.inr (slot_ne (Or.inl (hw _ (List.mem_of_getElem? (i := 35) rfl))) (Or.inr (hw _ (List.mem_of_getElem? (i := 28) rfl))) (by decide) (t := .int) (t' := (.array .byte)) (by decide) (by decide))))
  refine ⟨_, _, K16.trans (X15.returnOut hx Bd.returns (hb hby d2_17) hr), hrun, hended, _, _, rfl, ?_, ⟨_, rfl⟩, hEW.2.1, hEW.2.2.1, hEW.2.2.2.mono (by decide) (by decide)⟩
  show Q_rm2 Z o0 o1 w_pos u3_input h0 n0 _ T15.heap _
  rw [e15]
  exact ⟨rfl, N15, K_18, E_19, F_20, Fw15⟩
theorem d5_0 : decode prog_1_method_2_code 0 = .ok (.aload_n 0, 1) := by decide +kernel
theorem d5_1 : decode prog_1_method_2_code 1 = .ok (.getfield 21, 3) := by decide +kernel
theorem d5_4 : decode prog_1_method_2_code 4 = .ok (.aload_n 0, 1) := by decide +kernel
theorem d5_5 : decode prog_1_method_2_code 5 = .ok (.getfield 17, 3) := by decide +kernel
theorem d5_8 : decode prog_1_method_2_code 8 = .ok (.arraylength, 1) := by decide +kernel
theorem d5_9 : decode prog_1_method_2_code 9 = .ok (.if_icmp .ne 7, 3) := by decide +kernel
theorem d5_12 : decode prog_1_method_2_code 12 = .ok (.iconst 1, 1) := by decide +kernel
theorem d5_13 : decode prog_1_method_2_code 13 = .ok (.goto 4, 3) := by decide +kernel
theorem d5_16 : decode prog_1_method_2_code 16 = .ok (.iconst 0, 1) := by decide +kernel
def Q_rm5 (Z : State) (o0 : Addr) (ia : Addr) (ka : ClassId) (z : Int32) (vs : List Value) (n : Int32) (h0 : Heap) (n0 : Nat) (v : Option Value) (h : Heap) (L : List Loc) : Prop := v = some (.int ((if n = z then (1 : Int32) else (0 : Int32)) &&& 1)) ∧ Fr n0 L ∧ h = h0
theorem pn_5 : plainName "com/example/thin_gateway/thingateway/avro/AvroDecoder" = true := by first | (simp [plainName, overriddenIn]; done) | decide +kernel
theorem ef_5 (m : MethodId) (x0 : Addr) : entryFrame m #[(.ref x0)] 1 = mkF m 0 #[.val (.ref x0)] [] := by first | (simp [entryFrame, mkF, argsToLocals, Value.category]; done) | rfl
theorem d5_17 : decode prog_1_method_2_code 17 = .ok (.ireturn, 1) := by decide +kernel
set_option maxRecDepth 65536 in
set_option maxHeartbeats 40000000 in
theorem rm5 (l : Launch) (Z : State) (a0 : Array Value) (hw : ∀ d ∈ tables_1, d.before a0 Z = true) (ws : List Jvm.Cond) (o0 : Addr) (ia : Addr) (ka : ClassId) (z : Int32) (vs : List Value) (n : Int32) (h0 : Heap) (n0 : Nat) (Z0 : n0 ≤ h0.size) (F_input_o0 : Fld Z h0 o0 "com/example/thin_gateway/thingateway/avro/AvroDecoder" "input" "[B" (.ref ia)) (F_position_o0 : Fld Z h0 o0 "com/example/thin_gateway/thingateway/avro/AvroDecoder" "position" "I" (.int n)) (V_ia : Arv Z h0 ia ka .byte z vs (.int (0 : Int32))) :
    MetFree l (⟨"com/example/thin_gateway/thingateway/avro/AvroDecoder", "isAtEnd", "()Z"⟩ : MethodName) (head1 (Jvm.Cond.code (⟨"com/example/thin_gateway/thingateway/avro/AvroDecoder", "isAtEnd", "()Z"⟩ : MethodName) prog_1_method_2_code 1 (some .boolean) :: ws) ({ frames := 0, cells := 0, slots := 0, locals := 0 } : Room)) (fun a U => a = #[(.ref o0)] ∧ Z.Warmed39 U.vm ∧ U.heap = h0) (fun _ _ _ _ _ => True) (fun _ U o U' => ∃ v L, o = .returned v ∧ Q_rm5 Z o0 ia ka z vs n h0 n0 v U'.heap L ∧ FrameEnd U o U' L ({ frames := 0, cells := 0, slots := 0, locals := 0 } : Room).cells ({ frames := 0, cells := 0, slots := 0, locals := 0 } : Room).slots) := by
  refine MetFree.of_bodySF (plainFor_of_name pn_5) hisR ?_
  intro p e s m args below meth c s₁ Bd hml0 hP hK
  obtain ⟨rfl, hZ, hh⟩ := hP
  have hx := Bd.exec
  have hby := Bd.bytes
  have hml : c.maxLocals = 1 := hml0
  have hown : s.vm.findClass "com/example/thin_gateway/thingateway/avro/AvroDecoder" = some m.cls := findClass_of_methodNamed Bd.named
  have hnm := (name_of_methodNamed Bd.named Bd.method).1
  have X0 : Stand p l e ({ frames := 0, cells := 0, slots := 0, locals := 0 } : Room) s m #[(.ref o0)] below meth c s₁ [] 0 0 := Stand.of_body Bd
  have e0 : s₁.heap = h0 := by rw [← hh, Bd.state]; rfl
  have N0 := Fr.nil n0
  have Kp0 : Keep h0 h0 [] := Keep.refl _ _
  have K0 : Steps p.tables e below (s₁.setTop (entryFrame m #[(.ref o0)] 1)) (s₁.setTop (mkF m 0 #[.val (.ref o0)] [])) := castTop (ef_5 m o0) (Steps.refl _)
  have K1 : Steps p.tables e below _ (s₁.setTop (mkF m 1 #[.val (.ref o0)] [(.ref o0)])) := K0.trans (by
    show Steps p.tables e below (s₁.setTop (mkF m 0 #[.val (.ref o0)] [])) _
    refine XS.aloadN X0.here hx rfl (hb hby d5_0) rfl rfl ?_
    show Steps p.tables e below (s₁.setTop (mkF m 1 #[.val (.ref o0)] [(.ref o0)])) _
    exact Steps.refl _)
  obtain ⟨T2, X2, e2, st2⟩ := getF X0 hx hZ hown (host := "") (Or.inl (hw _ (List.mem_of_getElem? (i := 34) rfl))) Via.refl e0 F_position_o0 (g := (mkF m 1 #[.val (.ref o0)] [(.ref o0)])) rfl rfl (hb hby d5_1)
  have K3 : Steps p.tables e below _ (T2.setTop (mkF m 4 #[.val (.ref o0)] [(.int n)])) := K1.trans (st2 _ (Steps.refl _))
  have K4 : Steps p.tables e below _ (T2.setTop (mkF m 5 #[.val (.ref o0)] [(.ref o0), (.int n)])) := K3.trans (by
    show Steps p.tables e below (T2.setTop (mkF m 4 #[.val (.ref o0)] [(.int n)])) _
    refine XS.aloadN X2.here hx rfl (hb hby d5_4) rfl rfl ?_
    show Steps p.tables e below (T2.setTop (mkF m 5 #[.val (.ref o0)] [(.ref o0), (.int n)])) _
    exact Steps.refl _)
  obtain ⟨T5, X5, e5, st5⟩ := getF X2 hx hZ hown (host := "") (Or.inl (hw _ (List.mem_of_getElem? (i := 27) rfl))) Via.refl e2 F_input_o0 (g := (mkF m 5 #[.val (.ref o0)] [(.ref o0), (.int n)])) rfl rfl (hb hby d5_5)
  have K6 : Steps p.tables e below _ (T5.setTop (mkF m 8 #[.val (.ref o0)] [(.ref ia), (.int n)])) := K4.trans (st5 _ (Steps.refl _))
  have K7 : Steps p.tables e below _ (T5.setTop (mkF m 9 #[.val (.ref o0)] [(.int z), (.int n)])) := K6.trans (by
    show Steps p.tables e below (T5.setTop (mkF m 8 #[.val (.ref o0)] [(.ref ia), (.int n)])) _
    refine (own_len X5 hx hZ e5 V_ia (g := (mkF m 8 #[.val (.ref o0)] [(.ref ia), (.int n)])) rfl rfl (hb hby d5_8)).trans ?_
    show Steps p.tables e below (T5.setTop (mkF m 9 #[.val (.ref o0)] [(.int z), (.int n)])) _
    exact Steps.refl _)
  obtain ⟨v8_0, hv8_0, S8⟩ : ∃ (v8_0 : Int32), (if n = z then (1 : Int32) else (0 : Int32)) = v8_0 ∧ Steps p.tables e below (T5.setTop (mkF m 9 #[.val (.ref o0)] [(.int z), (.int n)])) (T5.setTop (mkF m 17 #[.val (.ref o0)] [(.int v8_0)])) := by
    have R8 := Steps.refl (tb := p.tables) (e := e) (below := below) (T5.setTop (mkF m 9 #[.val (.ref o0)] [(.int z), (.int n)]))
    by_cases hc9 : n = z
    · have K9 : Steps p.tables e below _ (T5.setTop (mkF m 17 #[.val (.ref o0)] [(.int (1 : Int32))])) := R8.trans (by
        show Steps p.tables e below (T5.setTop (mkF m 9 #[.val (.ref o0)] [(.int z), (.int n)])) _
        refine XS.icmpNo X5.here hx rfl (hb hby d5_9) rfl (teq hc9).2 ?_
        show Steps p.tables e below (T5.setTop (mkF m 12 #[.val (.ref o0)] [])) _
        refine XS.iconst X5.here hx rfl (hb hby d5_12) ?_
        show Steps p.tables e below (T5.setTop (mkF m 13 #[.val (.ref o0)] [(.int (1 : Int32))])) _
        refine XS.goto X5.here hx rfl (pc0 := 13) (pc' := 17) rfl (hb hby d5_13) (by decide) (by decide) ?_
        show Steps p.tables e below (T5.setTop (mkF m 17 #[.val (.ref o0)] [(.int (1 : Int32))])) _
        exact Steps.refl _)
      exact ⟨(1 : Int32), (by rw [if_pos hc9]), K9⟩
    · have K10 : Steps p.tables e below _ (T5.setTop (mkF m 17 #[.val (.ref o0)] [(.int (0 : Int32))])) := R8.trans (by
        show Steps p.tables e below (T5.setTop (mkF m 9 #[.val (.ref o0)] [(.int z), (.int n)])) _
        refine XS.icmpYes X5.here hx rfl (pc0 := 9) (pc' := 16) rfl (hb hby d5_9) rfl (feq hc9).2 (by decide) (by decide) ?_
        show Steps p.tables e below (T5.setTop (mkF m 16 #[.val (.ref o0)] [])) _
        refine XS.iconst X5.here hx rfl (hb hby d5_16) ?_
        show Steps p.tables e below (T5.setTop (mkF m 17 #[.val (.ref o0)] [(.int (0 : Int32))])) _
        exact Steps.refl _)
      exact ⟨(0 : Int32), (by rw [if_neg hc9]), K10⟩
  have K11 := K7.trans S8
  subst hv8_0
  obtain ⟨fs, hr, hrun, hended, hW, hsame⟩ := X5.leave (v := some (.int ((if n = z then (1 : Int32) else (0 : Int32)) &&& 1))) (fun h => by rw [Bd.returns] at h; cases h)
  refine ⟨_, _, K11.trans (retN X5 hx (t := .boolean) Bd.returns (by simp) (hb hby d5_17) hr), hrun, hended, _, _, rfl, ?_, ⟨_, rfl⟩, hW, hsame.mono (by decide) (by first | decide | omega)⟩
  show Q_rm5 Z o0 ia ka z vs n h0 n0 _ T5.heap _
  rw [e5]
  exact ⟨rfl, N0, rfl⟩
theorem d7_13 : decode prog_1_method_4_code 13 = .ok (.iload 5, 2) := by decide +kernel
theorem d7_15 : decode prog_1_method_4_code 15 = .ok (.ifCond .eq 115, 3) := by decide +kernel
theorem d7_18 : decode prog_1_method_4_code 18 = .ok (.aload_n 0, 1) := by decide +kernel
theorem d7_19 : decode prog_1_method_4_code 19 = .ok (.getfield 21, 3) := by decide +kernel
theorem d7_22 : decode prog_1_method_4_code 22 = .ok (.aload_n 0, 1) := by decide +kernel
theorem d7_23 : decode prog_1_method_4_code 23 = .ok (.getfield 17, 3) := by decide +kernel
theorem d7_26 : decode prog_1_method_4_code 26 = .ok (.arraylength, 1) := by decide +kernel
theorem d7_27 : decode prog_1_method_4_code 27 = .ok (.if_icmp .ne 17, 3) := by decide +kernel
theorem d7_44 : decode prog_1_method_4_code 44 = .ok (.aload_n 0, 1) := by decide +kernel
theorem d7_45 : decode prog_1_method_4_code 45 = .ok (.getfield 17, 3) := by decide +kernel
theorem d7_48 : decode prog_1_method_4_code 48 = .ok (.aload_n 0, 1) := by decide +kernel
theorem d7_49 : decode prog_1_method_4_code 49 = .ok (.getfield 21, 3) := by decide +kernel
theorem d7_52 : decode prog_1_method_4_code 52 = .ok (.baload, 1) := by decide +kernel
theorem d7_53 : decode prog_1_method_4_code 53 = .ok (.sipush 255, 3) := by decide +kernel
theorem d7_56 : decode prog_1_method_4_code 56 = .ok (.iand, 1) := by decide +kernel
theorem d7_57 : decode prog_1_method_4_code 57 = .ok (.istore 6, 2) := by decide +kernel
theorem d7_59 : decode prog_1_method_4_code 59 = .ok (.aload_n 0, 1) := by decide +kernel
theorem d7_60 : decode prog_1_method_4_code 60 = .ok (.dup, 1) := by decide +kernel
theorem d7_61 : decode prog_1_method_4_code 61 = .ok (.getfield 21, 3) := by decide +kernel
theorem d7_64 : decode prog_1_method_4_code 64 = .ok (.iconst 1, 1) := by decide +kernel
theorem d7_65 : decode prog_1_method_4_code 65 = .ok (.iadd, 1) := by decide +kernel
theorem d7_66 : decode prog_1_method_4_code 66 = .ok (.putfield 21, 3) := by decide +kernel
theorem d7_69 : decode prog_1_method_4_code 69 = .ok (.iload 4, 2) := by decide +kernel
theorem d7_71 : decode prog_1_method_4_code 71 = .ok (.bipush 63, 2) := by decide +kernel
theorem d7_73 : decode prog_1_method_4_code 73 = .ok (.if_icmp .ne 23, 3) := by decide +kernel
theorem d7_76 : decode prog_1_method_4_code 76 = .ok (.iload 6, 2) := by decide +kernel
theorem d7_78 : decode prog_1_method_4_code 78 = .ok (.iconst 1, 1) := by decide +kernel
theorem d7_79 : decode prog_1_method_4_code 79 = .ok (.if_icmp .le 17, 3) := by decide +kernel
theorem d7_96 : decode prog_1_method_4_code 96 = .ok (.lload_n 2, 1) := by decide +kernel
theorem d7_97 : decode prog_1_method_4_code 97 = .ok (.iload 6, 2) := by decide +kernel
theorem d7_99 : decode prog_1_method_4_code 99 = .ok (.bipush 127, 2) := by decide +kernel
theorem d7_101 : decode prog_1_method_4_code 101 = .ok (.iand, 1) := by decide +kernel
theorem d7_102 : decode prog_1_method_4_code 102 = .ok (.i2l, 1) := by decide +kernel
theorem d7_103 : decode prog_1_method_4_code 103 = .ok (.iload 4, 2) := by decide +kernel
theorem d7_105 : decode prog_1_method_4_code 105 = .ok (.lshl, 1) := by decide +kernel
theorem d7_106 : decode prog_1_method_4_code 106 = .ok (.lor, 1) := by decide +kernel
theorem d7_107 : decode prog_1_method_4_code 107 = .ok (.lstore_n 2, 1) := by decide +kernel
theorem d7_108 : decode prog_1_method_4_code 108 = .ok (.iload 6, 2) := by decide +kernel
theorem d7_110 : decode prog_1_method_4_code 110 = .ok (.sipush 128, 3) := by decide +kernel
theorem d7_113 : decode prog_1_method_4_code 113 = .ok (.iand, 1) := by decide +kernel
theorem d7_114 : decode prog_1_method_4_code 114 = .ok (.ifCond .eq 7, 3) := by decide +kernel
theorem d7_121 : decode prog_1_method_4_code 121 = .ok (.iconst 0, 1) := by decide +kernel
theorem d7_117 : decode prog_1_method_4_code 117 = .ok (.iconst 1, 1) := by decide +kernel
theorem d7_118 : decode prog_1_method_4_code 118 = .ok (.goto 4, 3) := by decide +kernel
theorem d7_122 : decode prog_1_method_4_code 122 = .ok (.istore 5, 2) := by decide +kernel
theorem d7_124 : decode prog_1_method_4_code 124 = .ok (.iinc 4 7, 3) := by decide +kernel
theorem d7_127 : decode prog_1_method_4_code 127 = .ok (.goto (-114), 3) := by decide +kernel
set_option maxRecDepth 65536 in
set_option maxHeartbeats 40000000 in
theorem rturn {p : Program} {l : Launch} {e : Env} {R : Room} {s : State} {m : MethodId} {args : Array Value} {below : List Frame} {meth : Method} {c : Code} {Z : State} {a0 : Array Value} {n0 : Nat} (hx : p.tables.exec = Jvm.exec) (hZ : Z.Warmed39 s.vm) (hw : ∀ d ∈ tables_1, d.before a0 Z = true) (hby : c.code = prog_1_method_4_code) (hml : c.maxLocals = 7) (hown : s.vm.findClass "com/example/thin_gateway/thingateway/avro/AvroDecoder" = some m.cls) {a ia : Addr} {ka : ClassId} {z : Int32} {vs : List Value} {st0 : Int32} (ga : n0 ≤ a) (nea : a ≠ ia) (T0 : State) (locs : List Loc) (h0 : Heap) (q : Int32) (r : Int64) (sh : Int32) (s6 : Slot) (h6 : One s6) (X0 : Stand p l e R s m args below meth c T0 locs 0 0) (e0 : T0.heap = h0) (N0 : Fr n0 locs) (E0 : Exa Z h0 a "com/example/thin_gateway/thingateway/avro/AvroDecoder") (FI : Fld Z h0 a "com/example/thin_gateway/thingateway/avro/AvroDecoder" "input" "[B" (.ref ia)) (FP : Fld Z h0 a "com/example/thin_gateway/thingateway/avro/AvroDecoder" "position" "I" (.int q)) (V0 : Arv Z h0 ia ka .byte z vs (.int (0 : Int32)))
    (hq : (¬ (q < (0 : Int32))) ∧ q < z) (hat : vs.getD q.toNatClampNeg (.int (0 : Int32)) = .int (own_by vs q)) (h63 : sh = (63 : Int32) → ¬ ((1 : Int32) < ((own_by vs q) &&& (255 : Int32)))) :
    ∃ (T' : State) (L' : List Loc) (h' : Heap), Stand p l e R s m args below meth c T' L' 0 0 ∧ T'.heap = h' ∧ Fr n0 L' ∧ Keep h0 h' [a] ∧ Exa Z h' a "com/example/thin_gateway/thingateway/avro/AvroDecoder" ∧ Fld Z h' a "com/example/thin_gateway/thingateway/avro/AvroDecoder" "input" "[B" (.ref ia) ∧ Fld Z h' a "com/example/thin_gateway/thingateway/avro/AvroDecoder" "position" "I" (.int (q + (1 : Int32))) ∧ Arv Z h' ia ka .byte z vs (.int (0 : Int32)) ∧ Steps p.tables e below (T0.setTop (mkF m 13 #[.val (.ref a), .val (.int st0), .val (.long r), .second, .val (.int sh), .val (.int (1 : Int32)), s6] [])) (T'.setTop (mkF m 13 #[.val (.ref a), .val (.int st0), .val (.long (own_res r (own_by vs q) sh)), .second, .val (.int (sh + (7 : Int32))), .val (.int (if (((own_by vs q) &&& (255 : Int32)) &&& (128 : Int32)) = (0 : Int32) then (0 : Int32) else (1 : Int32))), .val (.int ((own_by vs q) &&& (255 : Int32)))] [])) := by
  have K0 : Steps p.tables e below (T0.setTop (mkF m 13 #[.val (.ref a), .val (.int st0), .val (.long r), .second, .val (.int sh), .val (.int (1 : Int32)), s6] [])) (T0.setTop (mkF m 13 #[.val (.ref a), .val (.int st0), .val (.long r), .second, .val (.int sh), .val (.int (1 : Int32)), s6] [])) := Steps.refl _
  have K1 : Steps p.tables e below _ (T0.setTop (mkF m 19 #[.val (.ref a), .val (.int st0), .val (.long r), .second, .val (.int sh), .val (.int (1 : Int32)), s6] [(.ref a)])) := K0.trans (by
    show Steps p.tables e below (T0.setTop (mkF m 13 #[.val (.ref a), .val (.int st0), .val (.long r), .second, .val (.int sh), .val (.int (1 : Int32)), s6] [])) _
    refine XS.iload X0.here hx rfl (hb hby d7_13) rfl ?_
    show Steps p.tables e below (T0.setTop (mkF m 15 #[.val (.ref a), .val (.int st0), .val (.long r), .second, .val (.int sh), .val (.int (1 : Int32)), s6] [(.int (1 : Int32))])) _
    refine XS.ifNo X0.here hx rfl (hb hby d7_15) rfl ((if0 _ _).trans (feq (by decide : ¬ ((1 : Int32) = (0 : Int32)))).1) ?_
    show Steps p.tables e below (T0.setTop (mkF m 18 #[.val (.ref a), .val (.int st0), .val (.long r), .second, .val (.int sh), .val (.int (1 : Int32)), s6] [])) _
    refine XS.aloadN X0.here hx rfl (hb hby d7_18) rfl rfl ?_
    show Steps p.tables e below (T0.setTop (mkF m 19 #[.val (.ref a), .val (.int st0), .val (.long r), .second, .val (.int sh), .val (.int (1 : Int32)), s6] [(.ref a)])) _
    exact Steps.refl _)
  obtain ⟨T2, X2, e2, st2⟩ := getF X0 hx hZ hown (host := "") (Or.inl (hw _ (List.mem_of_getElem? (i := 34) rfl))) Via.refl e0 FP (g := (mkF m 19 #[.val (.ref a), .val (.int st0), .val (.long r), .second, .val (.int sh), .val (.int (1 : Int32)), s6] [(.ref a)])) rfl rfl (hb hby d7_19)
  have K3 : Steps p.tables e below _ (T2.setTop (mkF m 22 #[.val (.ref a), .val (.int st0), .val (.long r), .second, .val (.int sh), .val (.int (1 : Int32)), s6] [(.int q)])) := K1.trans (st2 _ (Steps.refl _))
  have K4 : Steps p.tables e below _ (T2.setTop (mkF m 23 #[.val (.ref a), .val (.int st0), .val (.long r), .second, .val (.int sh), .val (.int (1 : Int32)), s6] [(.ref a), (.int q)])) := K3.trans (by
    show Steps p.tables e below (T2.setTop (mkF m 22 #[.val (.ref a), .val (.int st0), .val (.long r), .second, .val (.int sh), .val (.int (1 : Int32)), s6] [(.int q)])) _
    refine XS.aloadN X2.here hx rfl (hb hby d7_22) rfl rfl ?_
    show Steps p.tables e below (T2.setTop (mkF m 23 #[.val (.ref a), .val (.int st0), .val (.long r), .second, .val (.int sh), .val (.int (1 : Int32)), s6] [(.ref a), (.int q)])) _
    exact Steps.refl _)
  obtain ⟨T5, X5, e5, st5⟩ := getF X2 hx hZ hown (host := "") (Or.inl (hw _ (List.mem_of_getElem? (i := 27) rfl))) Via.refl e2 FI (g := (mkF m 23 #[.val (.ref a), .val (.int st0), .val (.long r), .second, .val (.int sh), .val (.int (1 : Int32)), s6] [(.ref a), (.int q)])) rfl rfl (hb hby d7_23)
  have K6 : Steps p.tables e below _ (T5.setTop (mkF m 26 #[.val (.ref a), .val (.int st0), .val (.long r), .second, .val (.int sh), .val (.int (1 : Int32)), s6] [(.ref ia), (.int q)])) := K4.trans (st5 _ (Steps.refl _))
  have K8 : Steps p.tables e below _ (T5.setTop (mkF m 27 #[.val (.ref a), .val (.int st0), .val (.long r), .second, .val (.int sh), .val (.int (1 : Int32)), s6] [(.int z), (.int q)])) := K6.trans (by
    show Steps p.tables e below (T5.setTop (mkF m 26 #[.val (.ref a), .val (.int st0), .val (.long r), .second, .val (.int sh), .val (.int (1 : Int32)), s6] [(.ref ia), (.int q)])) _
    refine (own_len X5 hx hZ e5 V0 (g := (mkF m 26 #[.val (.ref a), .val (.int st0), .val (.long r), .second, .val (.int sh), .val (.int (1 : Int32)), s6] [(.ref ia), (.int q)])) rfl rfl (hb hby d7_26)).trans ?_
    show Steps p.tables e below (T5.setTop (mkF m 27 #[.val (.ref a), .val (.int st0), .val (.long r), .second, .val (.int sh), .val (.int (1 : Int32)), s6] [(.int z), (.int q)])) _
    exact Steps.refl _)
  have hc27_6 : ¬ (q = z) := (fun y => absurd hq.2 (by rw [y]; exact Int32.lt_irrefl))
  have K9 : Steps p.tables e below _ (T5.setTop (mkF m 45 #[.val (.ref a), .val (.int st0), .val (.long r), .second, .val (.int sh), .val (.int (1 : Int32)), s6] [(.ref a)])) := K8.trans (by
    show Steps p.tables e below (T5.setTop (mkF m 27 #[.val (.ref a), .val (.int st0), .val (.long r), .second, .val (.int sh), .val (.int (1 : Int32)), s6] [(.int z), (.int q)])) _
    refine XS.icmpYes X5.here hx rfl (pc0 := 27) (pc' := 44) rfl (hb hby d7_27) rfl (feq hc27_6).2 (by decide) (by decide) ?_
    show Steps p.tables e below (T5.setTop (mkF m 44 #[.val (.ref a), .val (.int st0), .val (.long r), .second, .val (.int sh), .val (.int (1 : Int32)), s6] [])) _
    refine XS.aloadN X5.here hx rfl (hb hby d7_44) rfl rfl ?_
    show Steps p.tables e below (T5.setTop (mkF m 45 #[.val (.ref a), .val (.int st0), .val (.long r), .second, .val (.int sh), .val (.int (1 : Int32)), s6] [(.ref a)])) _
    exact Steps.refl _)
  obtain ⟨T10, X10, e10, st10⟩ := getF X5 hx hZ hown (host := "") (Or.inl (hw _ (List.mem_of_getElem? (i := 27) rfl))) Via.refl e5 FI (g := (mkF m 45 #[.val (.ref a), .val (.int st0), .val (.long r), .second, .val (.int sh), .val (.int (1 : Int32)), s6] [(.ref a)])) rfl rfl (hb hby d7_45)
  have K11 : Steps p.tables e below _ (T10.setTop (mkF m 48 #[.val (.ref a), .val (.int st0), .val (.long r), .second, .val (.int sh), .val (.int (1 : Int32)), s6] [(.ref ia)])) := K9.trans (st10 _ (Steps.refl _))
  have K12 : Steps p.tables e below _ (T10.setTop (mkF m 49 #[.val (.ref a), .val (.int st0), .val (.long r), .second, .val (.int sh), .val (.int (1 : Int32)), s6] [(.ref a), (.ref ia)])) := K11.trans (by
    show Steps p.tables e below (T10.setTop (mkF m 48 #[.val (.ref a), .val (.int st0), .val (.long r), .second, .val (.int sh), .val (.int (1 : Int32)), s6] [(.ref ia)])) _
    refine XS.aloadN X10.here hx rfl (hb hby d7_48) rfl rfl ?_
    show Steps p.tables e below (T10.setTop (mkF m 49 #[.val (.ref a), .val (.int st0), .val (.long r), .second, .val (.int sh), .val (.int (1 : Int32)), s6] [(.ref a), (.ref ia)])) _
    exact Steps.refl _)
  obtain ⟨T13, X13, e13, st13⟩ := getF X10 hx hZ hown (host := "") (Or.inl (hw _ (List.mem_of_getElem? (i := 34) rfl))) Via.refl e10 FP (g := (mkF m 49 #[.val (.ref a), .val (.int st0), .val (.long r), .second, .val (.int sh), .val (.int (1 : Int32)), s6] [(.ref a), (.ref ia)])) rfl rfl (hb hby d7_49)
  have K14 : Steps p.tables e below _ (T13.setTop (mkF m 52 #[.val (.ref a), .val (.int st0), .val (.long r), .second, .val (.int sh), .val (.int (1 : Int32)), s6] [(.int q), (.ref ia)])) := K12.trans (st13 _ (Steps.refl _))
  have K15 : Steps p.tables e below _ (T13.setTop (mkF m 61 #[.val (.ref a), .val (.int st0), .val (.long r), .second, .val (.int sh), .val (.int (1 : Int32)), .val (.int ((own_by vs q) &&& (255 : Int32)))] [(.ref a), (.ref a)])) := K14.trans (by
    show Steps p.tables e below (T13.setTop (mkF m 52 #[.val (.ref a), .val (.int st0), .val (.long r), .second, .val (.int sh), .val (.int (1 : Int32)), s6] [(.int q), (.ref ia)])) _
    refine (own_ldB X13 hx hZ e13 V0 (j := q) hq hat (g := (mkF m 52 #[.val (.ref a), .val (.int st0), .val (.long r), .second, .val (.int sh), .val (.int (1 : Int32)), s6] [(.int q), (.ref ia)])) rfl rfl (hb hby d7_52)).trans ?_
    show Steps p.tables e below (T13.setTop (mkF m 53 #[.val (.ref a), .val (.int st0), .val (.long r), .second, .val (.int sh), .val (.int (1 : Int32)), s6] [(.int (own_by vs q))])) _
    refine XS.sipush X13.here hx rfl (hb hby d7_53) ?_
    show Steps p.tables e below (T13.setTop (mkF m 56 #[.val (.ref a), .val (.int st0), .val (.long r), .second, .val (.int sh), .val (.int (1 : Int32)), s6] [(.int (255 : Int32)), (.int (own_by vs q))])) _
    refine XS.iand X13.here hx rfl (hb hby d7_56) rfl ?_
    show Steps p.tables e below (T13.setTop (mkF m 57 #[.val (.ref a), .val (.int st0), .val (.long r), .second, .val (.int sh), .val (.int (1 : Int32)), s6] [(.int ((own_by vs q) &&& (255 : Int32)))])) _
    refine XS.istoreS X13.here hx rfl (hb hby d7_57) rfl rfl h6 ?_
    show Steps p.tables e below (T13.setTop (mkF m 59 #[.val (.ref a), .val (.int st0), .val (.long r), .second, .val (.int sh), .val (.int (1 : Int32)), .val (.int ((own_by vs q) &&& (255 : Int32)))] [])) _
    refine XS.aloadN X13.here hx rfl (hb hby d7_59) rfl rfl ?_
    show Steps p.tables e below (T13.setTop (mkF m 60 #[.val (.ref a), .val (.int st0), .val (.long r), .second, .val (.int sh), .val (.int (1 : Int32)), .val (.int ((own_by vs q) &&& (255 : Int32)))] [(.ref a)])) _
    refine XS.dup X13.here hx rfl (hb hby d7_60) rfl rfl ?_
    show Steps p.tables e below (T13.setTop (mkF m 61 #[.val (.ref a), .val (.int st0), .val (.long r), .second, .val (.int sh), .val (.int (1 : Int32)), .val (.int ((own_by vs q) &&& (255 : Int32)))] [(.ref a), (.ref a)])) _
    exact Steps.refl _)
  obtain ⟨T16, X16, e16, st16⟩ := getF X13 hx hZ hown (host := "") (Or.inl (hw _ (List.mem_of_getElem? (i := 34) rfl))) Via.refl e13 FP (g := (mkF m 61 #[.val (.ref a), .val (.int st0), .val (.long r), .second, .val (.int sh), .val (.int (1 : Int32)), .val (.int ((own_by vs q) &&& (255 : Int32)))] [(.ref a), (.ref a)])) rfl rfl (hb hby d7_61)
  have K17 : Steps p.tables e below _ (T16.setTop (mkF m 64 #[.val (.ref a), .val (.int st0), .val (.long r), .second, .val (.int sh), .val (.int (1 : Int32)), .val (.int ((own_by vs q) &&& (255 : Int32)))] [(.int q), (.ref a)])) := K15.trans (st16 _ (Steps.refl _))
  have K18 : Steps p.tables e below _ (T16.setTop (mkF m 66 #[.val (.ref a), .val (.int st0), .val (.long r), .second, .val (.int sh), .val (.int (1 : Int32)), .val (.int ((own_by vs q) &&& (255 : Int32)))] [(.int (q + (1 : Int32))), (.ref a)])) := K17.trans (by
    show Steps p.tables e below (T16.setTop (mkF m 64 #[.val (.ref a), .val (.int st0), .val (.long r), .second, .val (.int sh), .val (.int (1 : Int32)), .val (.int ((own_by vs q) &&& (255 : Int32)))] [(.int q), (.ref a)])) _
    refine XS.iconst X16.here hx rfl (hb hby d7_64) ?_
    show Steps p.tables e below (T16.setTop (mkF m 65 #[.val (.ref a), .val (.int st0), .val (.long r), .second, .val (.int sh), .val (.int (1 : Int32)), .val (.int ((own_by vs q) &&& (255 : Int32)))] [(.int (1 : Int32)), (.int q), (.ref a)])) _
    refine XS.iadd X16.here hx rfl (hb hby d7_65) rfl ?_
    show Steps p.tables e below (T16.setTop (mkF m 66 #[.val (.ref a), .val (.int st0), .val (.long r), .second, .val (.int sh), .val (.int (1 : Int32)), .val (.int ((own_by vs q) &&& (255 : Int32)))] [(.int (q + (1 : Int32))), (.ref a)])) _
    exact Steps.refl _)
  obtain ⟨T19, h19, X19, e19, W19, st19⟩ := putF X16 hx hZ hown (host := "") (Or.inl (hw _ (List.mem_of_getElem? (i := 34) rfl))) Via.refl e16 FP E0 (Or.inl (hw _ (List.mem_of_getElem? (i := 35) rfl))) (hw _ (List.mem_of_getElem? (i := 6) rfl)) (ty := .int) (by decide) rfl rfl (g := (mkF m 66 #[.val (.ref a), .val (.int st0), .val (.long r), .second, .val (.int sh), .val (.int (1 : Int32)), .val (.int ((own_by vs q) &&& (255 : Int32)))] [(.int (q + (1 : Int32))), (.ref a)])) rfl rfl (hb hby d7_66)
  have K20 : Steps p.tables e below _ (T19.setTop (mkF m 69 #[.val (.ref a), .val (.int st0), .val (.long r), .second, .val (.int sh), .val (.int (1 : Int32)), .val (.int ((own_by vs q) &&& (255 : Int32)))] [])) := K18.trans (st19 _ (Steps.refl _))
  have Fw19 : Fld Z h19 a "com/example/thin_gateway/thingateway/avro/AvroDecoder" "position" "I" (.int (q + (1 : Int32))) := FP.same W19
  have N19 := Fr.snoc X19 N0 ga
  have K21 : Steps p.tables e below _ (T19.setTop (mkF m 73 #[.val (.ref a), .val (.int st0), .val (.long r), .second, .val (.int sh), .val (.int (1 : Int32)), .val (.int ((own_by vs q) &&& (255 : Int32)))] [(.int (63 : Int32)), (.int sh)])) := K20.trans (by
    show Steps p.tables e below (T19.setTop (mkF m 69 #[.val (.ref a), .val (.int st0), .val (.long r), .second, .val (.int sh), .val (.int (1 : Int32)), .val (.int ((own_by vs q) &&& (255 : Int32)))] [])) _
    refine XS.iload X19.here hx rfl (hb hby d7_69) rfl ?_
    show Steps p.tables e below (T19.setTop (mkF m 71 #[.val (.ref a), .val (.int st0), .val (.long r), .second, .val (.int sh), .val (.int (1 : Int32)), .val (.int ((own_by vs q) &&& (255 : Int32)))] [(.int sh)])) _
    refine XS.bipush X19.here hx rfl (hb hby d7_71) ?_
    show Steps p.tables e below (T19.setTop (mkF m 73 #[.val (.ref a), .val (.int st0), .val (.long r), .second, .val (.int sh), .val (.int (1 : Int32)), .val (.int ((own_by vs q) &&& (255 : Int32)))] [(.int (63 : Int32)), (.int sh)])) _
    exact Steps.refl _)
  by_cases hc73 : sh = (63 : Int32)
  · have K23 : Steps p.tables e below _ (T19.setTop (mkF m 79 #[.val (.ref a), .val (.int st0), .val (.long r), .second, .val (.int sh), .val (.int (1 : Int32)), .val (.int ((own_by vs q) &&& (255 : Int32)))] [(.int (1 : Int32)), (.int ((own_by vs q) &&& (255 : Int32)))])) := K21.trans (by
      show Steps p.tables e below (T19.setTop (mkF m 73 #[.val (.ref a), .val (.int st0), .val (.long r), .second, .val (.int sh), .val (.int (1 : Int32)), .val (.int ((own_by vs q) &&& (255 : Int32)))] [(.int (63 : Int32)), (.int sh)])) _
      refine XS.icmpNo X19.here hx rfl (hb hby d7_73) rfl (teq hc73).2 ?_
      show Steps p.tables e below (T19.setTop (mkF m 76 #[.val (.ref a), .val (.int st0), .val (.long r), .second, .val (.int sh), .val (.int (1 : Int32)), .val (.int ((own_by vs q) &&& (255 : Int32)))] [])) _
      refine XS.iload X19.here hx rfl (hb hby d7_76) rfl ?_
      show Steps p.tables e below (T19.setTop (mkF m 78 #[.val (.ref a), .val (.int st0), .val (.long r), .second, .val (.int sh), .val (.int (1 : Int32)), .val (.int ((own_by vs q) &&& (255 : Int32)))] [(.int ((own_by vs q) &&& (255 : Int32)))])) _
      refine XS.iconst X19.here hx rfl (hb hby d7_78) ?_
      show Steps p.tables e below (T19.setTop (mkF m 79 #[.val (.ref a), .val (.int st0), .val (.long r), .second, .val (.int sh), .val (.int (1 : Int32)), .val (.int ((own_by vs q) &&& (255 : Int32)))] [(.int (1 : Int32)), (.int ((own_by vs q) &&& (255 : Int32)))])) _
      exact Steps.refl _)
    have hc79_21 : ¬ ((1 : Int32) < ((own_by vs q) &&& (255 : Int32))) := h63 hc73
    have K24 : Steps p.tables e below _ (T19.setTop (mkF m 114 #[.val (.ref a), .val (.int st0), .val (.long (r ||| (((((own_by vs q) &&& (255 : Int32)) &&& (127 : Int32)).toInt64) <<< (sh &&& 0x3f).toInt64))), .second, .val (.int sh), .val (.int (1 : Int32)), .val (.int ((own_by vs q) &&& (255 : Int32)))] [(.int (((own_by vs q) &&& (255 : Int32)) &&& (128 : Int32)))])) := K23.trans (by
      show Steps p.tables e below (T19.setTop (mkF m 79 #[.val (.ref a), .val (.int st0), .val (.long r), .second, .val (.int sh), .val (.int (1 : Int32)), .val (.int ((own_by vs q) &&& (255 : Int32)))] [(.int (1 : Int32)), (.int ((own_by vs q) &&& (255 : Int32)))])) _
      refine XS.icmpYes X19.here hx rfl (pc0 := 79) (pc' := 96) rfl (hb hby d7_79) rfl (flt hc79_21).2.2.2 (by decide) (by decide) ?_
      show Steps p.tables e below (T19.setTop (mkF m 96 #[.val (.ref a), .val (.int st0), .val (.long r), .second, .val (.int sh), .val (.int (1 : Int32)), .val (.int ((own_by vs q) &&& (255 : Int32)))] [])) _
      refine XS.lloadN X19.here hx rfl (hb hby d7_96) rfl ?_
      show Steps p.tables e below (T19.setTop (mkF m 97 #[.val (.ref a), .val (.int st0), .val (.long r), .second, .val (.int sh), .val (.int (1 : Int32)), .val (.int ((own_by vs q) &&& (255 : Int32)))] [(.long r)])) _
      refine XS.iload X19.here hx rfl (hb hby d7_97) rfl ?_
      show Steps p.tables e below (T19.setTop (mkF m 99 #[.val (.ref a), .val (.int st0), .val (.long r), .second, .val (.int sh), .val (.int (1 : Int32)), .val (.int ((own_by vs q) &&& (255 : Int32)))] [(.int ((own_by vs q) &&& (255 : Int32))), (.long r)])) _
      refine XS.bipush X19.here hx rfl (hb hby d7_99) ?_
      show Steps p.tables e below (T19.setTop (mkF m 101 #[.val (.ref a), .val (.int st0), .val (.long r), .second, .val (.int sh), .val (.int (1 : Int32)), .val (.int ((own_by vs q) &&& (255 : Int32)))] [(.int (127 : Int32)), (.int ((own_by vs q) &&& (255 : Int32))), (.long r)])) _
      refine XS.iand X19.here hx rfl (hb hby d7_101) rfl ?_
      show Steps p.tables e below (T19.setTop (mkF m 102 #[.val (.ref a), .val (.int st0), .val (.long r), .second, .val (.int sh), .val (.int (1 : Int32)), .val (.int ((own_by vs q) &&& (255 : Int32)))] [(.int (((own_by vs q) &&& (255 : Int32)) &&& (127 : Int32))), (.long r)])) _
      refine XS.i2l X19.here hx rfl (hb hby d7_102) rfl ?_
      show Steps p.tables e below (T19.setTop (mkF m 103 #[.val (.ref a), .val (.int st0), .val (.long r), .second, .val (.int sh), .val (.int (1 : Int32)), .val (.int ((own_by vs q) &&& (255 : Int32)))] [(.long ((((own_by vs q) &&& (255 : Int32)) &&& (127 : Int32)).toInt64)), (.long r)])) _
      refine XS.iload X19.here hx rfl (hb hby d7_103) rfl ?_
      show Steps p.tables e below (T19.setTop (mkF m 105 #[.val (.ref a), .val (.int st0), .val (.long r), .second, .val (.int sh), .val (.int (1 : Int32)), .val (.int ((own_by vs q) &&& (255 : Int32)))] [(.int sh), (.long ((((own_by vs q) &&& (255 : Int32)) &&& (127 : Int32)).toInt64)), (.long r)])) _
      refine XS.lshl X19.here hx rfl (hb hby d7_105) rfl ?_
      show Steps p.tables e below (T19.setTop (mkF m 106 #[.val (.ref a), .val (.int st0), .val (.long r), .second, .val (.int sh), .val (.int (1 : Int32)), .val (.int ((own_by vs q) &&& (255 : Int32)))] [(.long (((((own_by vs q) &&& (255 : Int32)) &&& (127 : Int32)).toInt64) <<< (sh &&& 0x3f).toInt64)), (.long r)])) _
      refine XS.lor X19.here hx rfl (hb hby d7_106) rfl ?_
      show Steps p.tables e below (T19.setTop (mkF m 107 #[.val (.ref a), .val (.int st0), .val (.long r), .second, .val (.int sh), .val (.int (1 : Int32)), .val (.int ((own_by vs q) &&& (255 : Int32)))] [(.long (r ||| (((((own_by vs q) &&& (255 : Int32)) &&& (127 : Int32)).toInt64) <<< (sh &&& 0x3f).toInt64)))])) _
      refine XS.lstoreN X19.here hx rfl (hb hby d7_107) rfl (l' := #[.val (.ref a), .val (.int st0), .val (.long (r ||| (((((own_by vs q) &&& (255 : Int32)) &&& (127 : Int32)).toInt64) <<< (sh &&& 0x3f).toInt64))), .second, .val (.int sh), .val (.int (1 : Int32)), .val (.int ((own_by vs q) &&& (255 : Int32)))]) rfl ?_
      show Steps p.tables e below (T19.setTop (mkF m 108 #[.val (.ref a), .val (.int st0), .val (.long (r ||| (((((own_by vs q) &&& (255 : Int32)) &&& (127 : Int32)).toInt64) <<< (sh &&& 0x3f).toInt64))), .second, .val (.int sh), .val (.int (1 : Int32)), .val (.int ((own_by vs q) &&& (255 : Int32)))] [])) _
      refine XS.iload X19.here hx rfl (hb hby d7_108) rfl ?_
      show Steps p.tables e below (T19.setTop (mkF m 110 #[.val (.ref a), .val (.int st0), .val (.long (r ||| (((((own_by vs q) &&& (255 : Int32)) &&& (127 : Int32)).toInt64) <<< (sh &&& 0x3f).toInt64))), .second, .val (.int sh), .val (.int (1 : Int32)), .val (.int ((own_by vs q) &&& (255 : Int32)))] [(.int ((own_by vs q) &&& (255 : Int32)))])) _
      refine XS.sipush X19.here hx rfl (hb hby d7_110) ?_
      show Steps p.tables e below (T19.setTop (mkF m 113 #[.val (.ref a), .val (.int st0), .val (.long (r ||| (((((own_by vs q) &&& (255 : Int32)) &&& (127 : Int32)).toInt64) <<< (sh &&& 0x3f).toInt64))), .second, .val (.int sh), .val (.int (1 : Int32)), .val (.int ((own_by vs q) &&& (255 : Int32)))] [(.int (128 : Int32)), (.int ((own_by vs q) &&& (255 : Int32)))])) _
      refine XS.iand X19.here hx rfl (hb hby d7_113) rfl ?_
      show Steps p.tables e below (T19.setTop (mkF m 114 #[.val (.ref a), .val (.int st0), .val (.long (r ||| (((((own_by vs q) &&& (255 : Int32)) &&& (127 : Int32)).toInt64) <<< (sh &&& 0x3f).toInt64))), .second, .val (.int sh), .val (.int (1 : Int32)), .val (.int ((own_by vs q) &&& (255 : Int32)))] [(.int (((own_by vs q) &&& (255 : Int32)) &&& (128 : Int32)))])) _
      exact Steps.refl _)
    obtain ⟨v25_0, hv25_0, S25⟩ : ∃ (v25_0 : Int32), (if (((own_by vs q) &&& (255 : Int32)) &&& (128 : Int32)) = (0 : Int32) then (0 : Int32) else (1 : Int32)) = v25_0 ∧ Steps p.tables e below (T19.setTop (mkF m 114 #[.val (.ref a), .val (.int st0), .val (.long (r ||| (((((own_by vs q) &&& (255 : Int32)) &&& (127 : Int32)).toInt64) <<< (sh &&& 0x3f).toInt64))), .second, .val (.int sh), .val (.int (1 : Int32)), .val (.int ((own_by vs q) &&& (255 : Int32)))] [(.int (((own_by vs q) &&& (255 : Int32)) &&& (128 : Int32)))])) (T19.setTop (mkF m 122 #[.val (.ref a), .val (.int st0), .val (.long (r ||| (((((own_by vs q) &&& (255 : Int32)) &&& (127 : Int32)).toInt64) <<< (sh &&& 0x3f).toInt64))), .second, .val (.int sh), .val (.int (1 : Int32)), .val (.int ((own_by vs q) &&& (255 : Int32)))] [(.int v25_0)])) := by
      have R25 := Steps.refl (tb := p.tables) (e := e) (below := below) (T19.setTop (mkF m 114 #[.val (.ref a), .val (.int st0), .val (.long (r ||| (((((own_by vs q) &&& (255 : Int32)) &&& (127 : Int32)).toInt64) <<< (sh &&& 0x3f).toInt64))), .second, .val (.int sh), .val (.int (1 : Int32)), .val (.int ((own_by vs q) &&& (255 : Int32)))] [(.int (((own_by vs q) &&& (255 : Int32)) &&& (128 : Int32)))]))
      by_cases hc114 : (((own_by vs q) &&& (255 : Int32)) &&& (128 : Int32)) = (0 : Int32)
      · have K26 : Steps p.tables e below _ (T19.setTop (mkF m 122 #[.val (.ref a), .val (.int st0), .val (.long (r ||| (((((own_by vs q) &&& (255 : Int32)) &&& (127 : Int32)).toInt64) <<< (sh &&& 0x3f).toInt64))), .second, .val (.int sh), .val (.int (1 : Int32)), .val (.int ((own_by vs q) &&& (255 : Int32)))] [(.int (0 : Int32))])) := R25.trans (by
          show Steps p.tables e below (T19.setTop (mkF m 114 #[.val (.ref a), .val (.int st0), .val (.long (r ||| (((((own_by vs q) &&& (255 : Int32)) &&& (127 : Int32)).toInt64) <<< (sh &&& 0x3f).toInt64))), .second, .val (.int sh), .val (.int (1 : Int32)), .val (.int ((own_by vs q) &&& (255 : Int32)))] [(.int (((own_by vs q) &&& (255 : Int32)) &&& (128 : Int32)))])) _
          refine XS.ifYes X19.here hx rfl (pc0 := 114) (pc' := 121) rfl (hb hby d7_114) rfl ((if0 _ _).trans (teq hc114).1) (by decide) (by decide) ?_
          show Steps p.tables e below (T19.setTop (mkF m 121 #[.val (.ref a), .val (.int st0), .val (.long (r ||| (((((own_by vs q) &&& (255 : Int32)) &&& (127 : Int32)).toInt64) <<< (sh &&& 0x3f).toInt64))), .second, .val (.int sh), .val (.int (1 : Int32)), .val (.int ((own_by vs q) &&& (255 : Int32)))] [])) _
          refine XS.iconst X19.here hx rfl (hb hby d7_121) ?_
          show Steps p.tables e below (T19.setTop (mkF m 122 #[.val (.ref a), .val (.int st0), .val (.long (r ||| (((((own_by vs q) &&& (255 : Int32)) &&& (127 : Int32)).toInt64) <<< (sh &&& 0x3f).toInt64))), .second, .val (.int sh), .val (.int (1 : Int32)), .val (.int ((own_by vs q) &&& (255 : Int32)))] [(.int (0 : Int32))])) _
          exact Steps.refl _)
        exact ⟨(0 : Int32), (by rw [if_pos hc114]), K26⟩
      · have K27 : Steps p.tables e below _ (T19.setTop (mkF m 122 #[.val (.ref a), .val (.int st0), .val (.long (r ||| (((((own_by vs q) &&& (255 : Int32)) &&& (127 : Int32)).toInt64) <<< (sh &&& 0x3f).toInt64))), .second, .val (.int sh), .val (.int (1 : Int32)), .val (.int ((own_by vs q) &&& (255 : Int32)))] [(.int (1 : Int32))])) := R25.trans (by
          show Steps p.tables e below (T19.setTop (mkF m 114 #[.val (.ref a), .val (.int st0), .val (.long (r ||| (((((own_by vs q) &&& (255 : Int32)) &&& (127 : Int32)).toInt64) <<< (sh &&& 0x3f).toInt64))), .second, .val (.int sh), .val (.int (1 : Int32)), .val (.int ((own_by vs q) &&& (255 : Int32)))] [(.int (((own_by vs q) &&& (255 : Int32)) &&& (128 : Int32)))])) _
          refine XS.ifNo X19.here hx rfl (hb hby d7_114) rfl ((if0 _ _).trans (feq hc114).1) ?_
          show Steps p.tables e below (T19.setTop (mkF m 117 #[.val (.ref a), .val (.int st0), .val (.long (r ||| (((((own_by vs q) &&& (255 : Int32)) &&& (127 : Int32)).toInt64) <<< (sh &&& 0x3f).toInt64))), .second, .val (.int sh), .val (.int (1 : Int32)), .val (.int ((own_by vs q) &&& (255 : Int32)))] [])) _
          refine XS.iconst X19.here hx rfl (hb hby d7_117) ?_
          show Steps p.tables e below (T19.setTop (mkF m 118 #[.val (.ref a), .val (.int st0), .val (.long (r ||| (((((own_by vs q) &&& (255 : Int32)) &&& (127 : Int32)).toInt64) <<< (sh &&& 0x3f).toInt64))), .second, .val (.int sh), .val (.int (1 : Int32)), .val (.int ((own_by vs q) &&& (255 : Int32)))] [(.int (1 : Int32))])) _
          refine XS.goto X19.here hx rfl (pc0 := 118) (pc' := 122) rfl (hb hby d7_118) (by decide) (by decide) ?_
          show Steps p.tables e below (T19.setTop (mkF m 122 #[.val (.ref a), .val (.int st0), .val (.long (r ||| (((((own_by vs q) &&& (255 : Int32)) &&& (127 : Int32)).toInt64) <<< (sh &&& 0x3f).toInt64))), .second, .val (.int sh), .val (.int (1 : Int32)), .val (.int ((own_by vs q) &&& (255 : Int32)))] [(.int (1 : Int32))])) _
          exact Steps.refl _)
        exact ⟨(1 : Int32), (by rw [if_neg hc114]), K27⟩
    have K28 := K24.trans S25
    have K29 : Steps p.tables e below _ (T19.setTop (mkF m 13 #[.val (.ref a), .val (.int st0), .val (.long (r ||| (((((own_by vs q) &&& (255 : Int32)) &&& (127 : Int32)).toInt64) <<< (sh &&& 0x3f).toInt64))), .second, .val (.int (sh + (7 : Int32))), .val (.int v25_0), .val (.int ((own_by vs q) &&& (255 : Int32)))] [])) := K28.trans (by
      show Steps p.tables e below (T19.setTop (mkF m 122 #[.val (.ref a), .val (.int st0), .val (.long (r ||| (((((own_by vs q) &&& (255 : Int32)) &&& (127 : Int32)).toInt64) <<< (sh &&& 0x3f).toInt64))), .second, .val (.int sh), .val (.int (1 : Int32)), .val (.int ((own_by vs q) &&& (255 : Int32)))] [(.int v25_0)])) _
      refine XS.istore X19.here hx rfl (hb hby d7_122) rfl (l' := #[.val (.ref a), .val (.int st0), .val (.long (r ||| (((((own_by vs q) &&& (255 : Int32)) &&& (127 : Int32)).toInt64) <<< (sh &&& 0x3f).toInt64))), .second, .val (.int sh), .val (.int v25_0), .val (.int ((own_by vs q) &&& (255 : Int32)))]) rfl ?_
      show Steps p.tables e below (T19.setTop (mkF m 124 #[.val (.ref a), .val (.int st0), .val (.long (r ||| (((((own_by vs q) &&& (255 : Int32)) &&& (127 : Int32)).toInt64) <<< (sh &&& 0x3f).toInt64))), .second, .val (.int sh), .val (.int v25_0), .val (.int ((own_by vs q) &&& (255 : Int32)))] [])) _
      refine XS.iinc X19.here hx rfl (hb hby d7_124) rfl (l' := #[.val (.ref a), .val (.int st0), .val (.long (r ||| (((((own_by vs q) &&& (255 : Int32)) &&& (127 : Int32)).toInt64) <<< (sh &&& 0x3f).toInt64))), .second, .val (.int (sh + (7 : Int32))), .val (.int v25_0), .val (.int ((own_by vs q) &&& (255 : Int32)))]) rfl ?_
      show Steps p.tables e below (T19.setTop (mkF m 127 #[.val (.ref a), .val (.int st0), .val (.long (r ||| (((((own_by vs q) &&& (255 : Int32)) &&& (127 : Int32)).toInt64) <<< (sh &&& 0x3f).toInt64))), .second, .val (.int (sh + (7 : Int32))), .val (.int v25_0), .val (.int ((own_by vs q) &&& (255 : Int32)))] [])) _
      refine XS.goto X19.here hx rfl (pc0 := 127) (pc' := 13) rfl (hb hby d7_127) (by decide) (by decide) ?_
      show Steps p.tables e below (T19.setTop (mkF m 13 #[.val (.ref a), .val (.int st0), .val (.long (r ||| (((((own_by vs q) &&& (255 : Int32)) &&& (127 : Int32)).toInt64) <<< (sh &&& 0x3f).toInt64))), .second, .val (.int (sh + (7 : Int32))), .val (.int v25_0), .val (.int ((own_by vs q) &&& (255 : Int32)))] [])) _
      exact Steps.refl _)
    subst hv25_0
    have E_36 : Exa Z h19 a "com/example/thin_gateway/thingateway/avro/AvroDecoder" := (E0.wr W19)
    have F_37 : Fld Z h19 a "com/example/thin_gateway/thingateway/avro/AvroDecoder" "input" "[B" (.ref ia) := (FI.other W19 (Or.inr (slot_ne (Or.inr (hw _ (List.mem_of_getElem? (i := 28) rfl))) (Or.inl (hw _ (List.mem_of_getElem? (i := 35) rfl))) (by decide) (t := (.array .byte)) (t' := .int) (by decide) (by decide))))
    have V_38 : Arv Z h19 ia ka .byte z vs (.int (0 : Int32)) := (V0.other W19 (Ne.symm nea))
    exact ⟨T19, _, h19, X19, e19, N19, Keep.of_wr W19, E_36, F_37, Fw19, V_38, K29⟩
  · have K30 : Steps p.tables e below _ (T19.setTop (mkF m 114 #[.val (.ref a), .val (.int st0), .val (.long (r ||| (((((own_by vs q) &&& (255 : Int32)) &&& (127 : Int32)).toInt64) <<< (sh &&& 0x3f).toInt64))), .second, .val (.int sh), .val (.int (1 : Int32)), .val (.int ((own_by vs q) &&& (255 : Int32)))] [(.int (((own_by vs q) &&& (255 : Int32)) &&& (128 : Int32)))])) := K21.trans (by
      show Steps p.tables e below (T19.setTop (mkF m 73 #[.val (.ref a), .val (.int st0), .val (.long r), .second, .val (.int sh), .val (.int (1 : Int32)), .val (.int ((own_by vs q) &&& (255 : Int32)))] [(.int (63 : Int32)), (.int sh)])) _
      refine XS.icmpYes X19.here hx rfl (pc0 := 73) (pc' := 96) rfl (hb hby d7_73) rfl (feq hc73).2 (by decide) (by decide) ?_
      show Steps p.tables e below (T19.setTop (mkF m 96 #[.val (.ref a), .val (.int st0), .val (.long r), .second, .val (.int sh), .val (.int (1 : Int32)), .val (.int ((own_by vs q) &&& (255 : Int32)))] [])) _
      refine XS.lloadN X19.here hx rfl (hb hby d7_96) rfl ?_
      show Steps p.tables e below (T19.setTop (mkF m 97 #[.val (.ref a), .val (.int st0), .val (.long r), .second, .val (.int sh), .val (.int (1 : Int32)), .val (.int ((own_by vs q) &&& (255 : Int32)))] [(.long r)])) _
      refine XS.iload X19.here hx rfl (hb hby d7_97) rfl ?_
      show Steps p.tables e below (T19.setTop (mkF m 99 #[.val (.ref a), .val (.int st0), .val (.long r), .second, .val (.int sh), .val (.int (1 : Int32)), .val (.int ((own_by vs q) &&& (255 : Int32)))] [(.int ((own_by vs q) &&& (255 : Int32))), (.long r)])) _
      refine XS.bipush X19.here hx rfl (hb hby d7_99) ?_
      show Steps p.tables e below (T19.setTop (mkF m 101 #[.val (.ref a), .val (.int st0), .val (.long r), .second, .val (.int sh), .val (.int (1 : Int32)), .val (.int ((own_by vs q) &&& (255 : Int32)))] [(.int (127 : Int32)), (.int ((own_by vs q) &&& (255 : Int32))), (.long r)])) _
      refine XS.iand X19.here hx rfl (hb hby d7_101) rfl ?_
      show Steps p.tables e below (T19.setTop (mkF m 102 #[.val (.ref a), .val (.int st0), .val (.long r), .second, .val (.int sh), .val (.int (1 : Int32)), .val (.int ((own_by vs q) &&& (255 : Int32)))] [(.int (((own_by vs q) &&& (255 : Int32)) &&& (127 : Int32))), (.long r)])) _
      refine XS.i2l X19.here hx rfl (hb hby d7_102) rfl ?_
      show Steps p.tables e below (T19.setTop (mkF m 103 #[.val (.ref a), .val (.int st0), .val (.long r), .second, .val (.int sh), .val (.int (1 : Int32)), .val (.int ((own_by vs q) &&& (255 : Int32)))] [(.long ((((own_by vs q) &&& (255 : Int32)) &&& (127 : Int32)).toInt64)), (.long r)])) _
      refine XS.iload X19.here hx rfl (hb hby d7_103) rfl ?_
      show Steps p.tables e below (T19.setTop (mkF m 105 #[.val (.ref a), .val (.int st0), .val (.long r), .second, .val (.int sh), .val (.int (1 : Int32)), .val (.int ((own_by vs q) &&& (255 : Int32)))] [(.int sh), (.long ((((own_by vs q) &&& (255 : Int32)) &&& (127 : Int32)).toInt64)), (.long r)])) _
      refine XS.lshl X19.here hx rfl (hb hby d7_105) rfl ?_
      show Steps p.tables e below (T19.setTop (mkF m 106 #[.val (.ref a), .val (.int st0), .val (.long r), .second, .val (.int sh), .val (.int (1 : Int32)), .val (.int ((own_by vs q) &&& (255 : Int32)))] [(.long (((((own_by vs q) &&& (255 : Int32)) &&& (127 : Int32)).toInt64) <<< (sh &&& 0x3f).toInt64)), (.long r)])) _
      refine XS.lor X19.here hx rfl (hb hby d7_106) rfl ?_
      show Steps p.tables e below (T19.setTop (mkF m 107 #[.val (.ref a), .val (.int st0), .val (.long r), .second, .val (.int sh), .val (.int (1 : Int32)), .val (.int ((own_by vs q) &&& (255 : Int32)))] [(.long (r ||| (((((own_by vs q) &&& (255 : Int32)) &&& (127 : Int32)).toInt64) <<< (sh &&& 0x3f).toInt64)))])) _
      refine XS.lstoreN X19.here hx rfl (hb hby d7_107) rfl (l' := #[.val (.ref a), .val (.int st0), .val (.long (r ||| (((((own_by vs q) &&& (255 : Int32)) &&& (127 : Int32)).toInt64) <<< (sh &&& 0x3f).toInt64))), .second, .val (.int sh), .val (.int (1 : Int32)), .val (.int ((own_by vs q) &&& (255 : Int32)))]) rfl ?_
      show Steps p.tables e below (T19.setTop (mkF m 108 #[.val (.ref a), .val (.int st0), .val (.long (r ||| (((((own_by vs q) &&& (255 : Int32)) &&& (127 : Int32)).toInt64) <<< (sh &&& 0x3f).toInt64))), .second, .val (.int sh), .val (.int (1 : Int32)), .val (.int ((own_by vs q) &&& (255 : Int32)))] [])) _
      refine XS.iload X19.here hx rfl (hb hby d7_108) rfl ?_
      show Steps p.tables e below (T19.setTop (mkF m 110 #[.val (.ref a), .val (.int st0), .val (.long (r ||| (((((own_by vs q) &&& (255 : Int32)) &&& (127 : Int32)).toInt64) <<< (sh &&& 0x3f).toInt64))), .second, .val (.int sh), .val (.int (1 : Int32)), .val (.int ((own_by vs q) &&& (255 : Int32)))] [(.int ((own_by vs q) &&& (255 : Int32)))])) _
      refine XS.sipush X19.here hx rfl (hb hby d7_110) ?_
      show Steps p.tables e below (T19.setTop (mkF m 113 #[.val (.ref a), .val (.int st0), .val (.long (r ||| (((((own_by vs q) &&& (255 : Int32)) &&& (127 : Int32)).toInt64) <<< (sh &&& 0x3f).toInt64))), .second, .val (.int sh), .val (.int (1 : Int32)), .val (.int ((own_by vs q) &&& (255 : Int32)))] [(.int (128 : Int32)), (.int ((own_by vs q) &&& (255 : Int32)))])) _
      refine XS.iand X19.here hx rfl (hb hby d7_113) rfl ?_
      show Steps p.tables e below (T19.setTop (mkF m 114 #[.val (.ref a), .val (.int st0), .val (.long (r ||| (((((own_by vs q) &&& (255 : Int32)) &&& (127 : Int32)).toInt64) <<< (sh &&& 0x3f).toInt64))), .second, .val (.int sh), .val (.int (1 : Int32)), .val (.int ((own_by vs q) &&& (255 : Int32)))] [(.int (((own_by vs q) &&& (255 : Int32)) &&& (128 : Int32)))])) _
      exact Steps.refl _)
    obtain ⟨v31_0, hv31_0, S31⟩ : ∃ (v31_0 : Int32), (if (((own_by vs q) &&& (255 : Int32)) &&& (128 : Int32)) = (0 : Int32) then (0 : Int32) else (1 : Int32)) = v31_0 ∧ Steps p.tables e below (T19.setTop (mkF m 114 #[.val (.ref a), .val (.int st0), .val (.long (r ||| (((((own_by vs q) &&& (255 : Int32)) &&& (127 : Int32)).toInt64) <<< (sh &&& 0x3f).toInt64))), .second, .val (.int sh), .val (.int (1 : Int32)), .val (.int ((own_by vs q) &&& (255 : Int32)))] [(.int (((own_by vs q) &&& (255 : Int32)) &&& (128 : Int32)))])) (T19.setTop (mkF m 122 #[.val (.ref a), .val (.int st0), .val (.long (r ||| (((((own_by vs q) &&& (255 : Int32)) &&& (127 : Int32)).toInt64) <<< (sh &&& 0x3f).toInt64))), .second, .val (.int sh), .val (.int (1 : Int32)), .val (.int ((own_by vs q) &&& (255 : Int32)))] [(.int v31_0)])) := by
      have R31 := Steps.refl (tb := p.tables) (e := e) (below := below) (T19.setTop (mkF m 114 #[.val (.ref a), .val (.int st0), .val (.long (r ||| (((((own_by vs q) &&& (255 : Int32)) &&& (127 : Int32)).toInt64) <<< (sh &&& 0x3f).toInt64))), .second, .val (.int sh), .val (.int (1 : Int32)), .val (.int ((own_by vs q) &&& (255 : Int32)))] [(.int (((own_by vs q) &&& (255 : Int32)) &&& (128 : Int32)))]))
      by_cases hc114 : (((own_by vs q) &&& (255 : Int32)) &&& (128 : Int32)) = (0 : Int32)
      · have K32 : Steps p.tables e below _ (T19.setTop (mkF m 122 #[.val (.ref a), .val (.int st0), .val (.long (r ||| (((((own_by vs q) &&& (255 : Int32)) &&& (127 : Int32)).toInt64) <<< (sh &&& 0x3f).toInt64))), .second, .val (.int sh), .val (.int (1 : Int32)), .val (.int ((own_by vs q) &&& (255 : Int32)))] [(.int (0 : Int32))])) := R31.trans (by
          show Steps p.tables e below (T19.setTop (mkF m 114 #[.val (.ref a), .val (.int st0), .val (.long (r ||| (((((own_by vs q) &&& (255 : Int32)) &&& (127 : Int32)).toInt64) <<< (sh &&& 0x3f).toInt64))), .second, .val (.int sh), .val (.int (1 : Int32)), .val (.int ((own_by vs q) &&& (255 : Int32)))] [(.int (((own_by vs q) &&& (255 : Int32)) &&& (128 : Int32)))])) _
          refine XS.ifYes X19.here hx rfl (pc0 := 114) (pc' := 121) rfl (hb hby d7_114) rfl ((if0 _ _).trans (teq hc114).1) (by decide) (by decide) ?_
          show Steps p.tables e below (T19.setTop (mkF m 121 #[.val (.ref a), .val (.int st0), .val (.long (r ||| (((((own_by vs q) &&& (255 : Int32)) &&& (127 : Int32)).toInt64) <<< (sh &&& 0x3f).toInt64))), .second, .val (.int sh), .val (.int (1 : Int32)), .val (.int ((own_by vs q) &&& (255 : Int32)))] [])) _
          refine XS.iconst X19.here hx rfl (hb hby d7_121) ?_
          show Steps p.tables e below (T19.setTop (mkF m 122 #[.val (.ref a), .val (.int st0), .val (.long (r ||| (((((own_by vs q) &&& (255 : Int32)) &&& (127 : Int32)).toInt64) <<< (sh &&& 0x3f).toInt64))), .second, .val (.int sh), .val (.int (1 : Int32)), .val (.int ((own_by vs q) &&& (255 : Int32)))] [(.int (0 : Int32))])) _
          exact Steps.refl _)
        exact ⟨(0 : Int32), (by rw [if_pos hc114]), K32⟩
      · have K33 : Steps p.tables e below _ (T19.setTop (mkF m 122 #[.val (.ref a), .val (.int st0), .val (.long (r ||| (((((own_by vs q) &&& (255 : Int32)) &&& (127 : Int32)).toInt64) <<< (sh &&& 0x3f).toInt64))), .second, .val (.int sh), .val (.int (1 : Int32)), .val (.int ((own_by vs q) &&& (255 : Int32)))] [(.int (1 : Int32))])) := R31.trans (by
          show Steps p.tables e below (T19.setTop (mkF m 114 #[.val (.ref a), .val (.int st0), .val (.long (r ||| (((((own_by vs q) &&& (255 : Int32)) &&& (127 : Int32)).toInt64) <<< (sh &&& 0x3f).toInt64))), .second, .val (.int sh), .val (.int (1 : Int32)), .val (.int ((own_by vs q) &&& (255 : Int32)))] [(.int (((own_by vs q) &&& (255 : Int32)) &&& (128 : Int32)))])) _
          refine XS.ifNo X19.here hx rfl (hb hby d7_114) rfl ((if0 _ _).trans (feq hc114).1) ?_
          show Steps p.tables e below (T19.setTop (mkF m 117 #[.val (.ref a), .val (.int st0), .val (.long (r ||| (((((own_by vs q) &&& (255 : Int32)) &&& (127 : Int32)).toInt64) <<< (sh &&& 0x3f).toInt64))), .second, .val (.int sh), .val (.int (1 : Int32)), .val (.int ((own_by vs q) &&& (255 : Int32)))] [])) _
          refine XS.iconst X19.here hx rfl (hb hby d7_117) ?_
          show Steps p.tables e below (T19.setTop (mkF m 118 #[.val (.ref a), .val (.int st0), .val (.long (r ||| (((((own_by vs q) &&& (255 : Int32)) &&& (127 : Int32)).toInt64) <<< (sh &&& 0x3f).toInt64))), .second, .val (.int sh), .val (.int (1 : Int32)), .val (.int ((own_by vs q) &&& (255 : Int32)))] [(.int (1 : Int32))])) _
          refine XS.goto X19.here hx rfl (pc0 := 118) (pc' := 122) rfl (hb hby d7_118) (by decide) (by decide) ?_
          show Steps p.tables e below (T19.setTop (mkF m 122 #[.val (.ref a), .val (.int st0), .val (.long (r ||| (((((own_by vs q) &&& (255 : Int32)) &&& (127 : Int32)).toInt64) <<< (sh &&& 0x3f).toInt64))), .second, .val (.int sh), .val (.int (1 : Int32)), .val (.int ((own_by vs q) &&& (255 : Int32)))] [(.int (1 : Int32))])) _
          exact Steps.refl _)
        exact ⟨(1 : Int32), (by rw [if_neg hc114]), K33⟩
    have K34 := K30.trans S31
    have K35 : Steps p.tables e below _ (T19.setTop (mkF m 13 #[.val (.ref a), .val (.int st0), .val (.long (r ||| (((((own_by vs q) &&& (255 : Int32)) &&& (127 : Int32)).toInt64) <<< (sh &&& 0x3f).toInt64))), .second, .val (.int (sh + (7 : Int32))), .val (.int v31_0), .val (.int ((own_by vs q) &&& (255 : Int32)))] [])) := K34.trans (by
      show Steps p.tables e below (T19.setTop (mkF m 122 #[.val (.ref a), .val (.int st0), .val (.long (r ||| (((((own_by vs q) &&& (255 : Int32)) &&& (127 : Int32)).toInt64) <<< (sh &&& 0x3f).toInt64))), .second, .val (.int sh), .val (.int (1 : Int32)), .val (.int ((own_by vs q) &&& (255 : Int32)))] [(.int v31_0)])) _
      refine XS.istore X19.here hx rfl (hb hby d7_122) rfl (l' := #[.val (.ref a), .val (.int st0), .val (.long (r ||| (((((own_by vs q) &&& (255 : Int32)) &&& (127 : Int32)).toInt64) <<< (sh &&& 0x3f).toInt64))), .second, .val (.int sh), .val (.int v31_0), .val (.int ((own_by vs q) &&& (255 : Int32)))]) rfl ?_
      show Steps p.tables e below (T19.setTop (mkF m 124 #[.val (.ref a), .val (.int st0), .val (.long (r ||| (((((own_by vs q) &&& (255 : Int32)) &&& (127 : Int32)).toInt64) <<< (sh &&& 0x3f).toInt64))), .second, .val (.int sh), .val (.int v31_0), .val (.int ((own_by vs q) &&& (255 : Int32)))] [])) _
      refine XS.iinc X19.here hx rfl (hb hby d7_124) rfl (l' := #[.val (.ref a), .val (.int st0), .val (.long (r ||| (((((own_by vs q) &&& (255 : Int32)) &&& (127 : Int32)).toInt64) <<< (sh &&& 0x3f).toInt64))), .second, .val (.int (sh + (7 : Int32))), .val (.int v31_0), .val (.int ((own_by vs q) &&& (255 : Int32)))]) rfl ?_
      show Steps p.tables e below (T19.setTop (mkF m 127 #[.val (.ref a), .val (.int st0), .val (.long (r ||| (((((own_by vs q) &&& (255 : Int32)) &&& (127 : Int32)).toInt64) <<< (sh &&& 0x3f).toInt64))), .second, .val (.int (sh + (7 : Int32))), .val (.int v31_0), .val (.int ((own_by vs q) &&& (255 : Int32)))] [])) _
      refine XS.goto X19.here hx rfl (pc0 := 127) (pc' := 13) rfl (hb hby d7_127) (by decide) (by decide) ?_
      show Steps p.tables e below (T19.setTop (mkF m 13 #[.val (.ref a), .val (.int st0), .val (.long (r ||| (((((own_by vs q) &&& (255 : Int32)) &&& (127 : Int32)).toInt64) <<< (sh &&& 0x3f).toInt64))), .second, .val (.int (sh + (7 : Int32))), .val (.int v31_0), .val (.int ((own_by vs q) &&& (255 : Int32)))] [])) _
      exact Steps.refl _)
    subst hv31_0
    have E_39 : Exa Z h19 a "com/example/thin_gateway/thingateway/avro/AvroDecoder" := (E0.wr W19)
    have F_40 : Fld Z h19 a "com/example/thin_gateway/thingateway/avro/AvroDecoder" "input" "[B" (.ref ia) := (FI.other W19 (Or.inr (slot_ne (Or.inr (hw _ (List.mem_of_getElem? (i := 28) rfl))) (Or.inl (hw _ (List.mem_of_getElem? (i := 35) rfl))) (by decide) (t := (.array .byte)) (t' := .int) (by decide) (by decide))))
    have V_41 : Arv Z h19 ia ka .byte z vs (.int (0 : Int32)) := (V0.other W19 (Ne.symm nea))
    exact ⟨T19, _, h19, X19, e19, N19, Keep.of_wr W19, E_39, F_40, Fw19, V_41, K35⟩
theorem rleave {p : Program} {l : Launch} {e : Env} {R : Room} {s : State} {m : MethodId} {args : Array Value} {below : List Frame} {meth : Method} {c : Code} {Z : State} {a0 : Array Value} {n0 : Nat} (hx : p.tables.exec = Jvm.exec) (hZ : Z.Warmed39 s.vm) (hw : ∀ d ∈ tables_1, d.before a0 Z = true) (hby : c.code = prog_1_method_4_code) (hml : c.maxLocals = 7) (hown : s.vm.findClass "com/example/thin_gateway/thingateway/avro/AvroDecoder" = some m.cls) {a : Addr} {st0 : Int32} (T0 : State) (locs : List Loc) (r : Int64) (sh : Int32) (s6 : Slot) (X0 : Stand p l e R s m args below meth c T0 locs 0 0) : Steps p.tables e below (T0.setTop (mkF m 13 #[.val (.ref a), .val (.int st0), .val (.long r), .second, .val (.int sh), .val (.int (0 : Int32)), s6] [])) (T0.setTop (mkF m 130 #[.val (.ref a), .val (.int st0), .val (.long r), .second, .val (.int sh), .val (.int (0 : Int32)), s6] [])) := by
  have K0 : Steps p.tables e below (T0.setTop (mkF m 13 #[.val (.ref a), .val (.int st0), .val (.long r), .second, .val (.int sh), .val (.int (0 : Int32)), s6] [])) (T0.setTop (mkF m 13 #[.val (.ref a), .val (.int st0), .val (.long r), .second, .val (.int sh), .val (.int (0 : Int32)), s6] [])) := Steps.refl _
  have K2 : Steps p.tables e below _ (T0.setTop (mkF m 15 #[.val (.ref a), .val (.int st0), .val (.long r), .second, .val (.int sh), .val (.int (0 : Int32)), s6] [(.int (0 : Int32))])) := K0.trans (by
    show Steps p.tables e below (T0.setTop (mkF m 13 #[.val (.ref a), .val (.int st0), .val (.long r), .second, .val (.int sh), .val (.int (0 : Int32)), s6] [])) _
    refine XS.iload X0.here hx rfl (hb hby d7_13) rfl ?_
    show Steps p.tables e below (T0.setTop (mkF m 15 #[.val (.ref a), .val (.int st0), .val (.long r), .second, .val (.int sh), .val (.int (0 : Int32)), s6] [(.int (0 : Int32))])) _
    exact Steps.refl _)
  have hc15_0 : (0 : Int32) = (0 : Int32) := rfl
  have K3 : Steps p.tables e below _ (T0.setTop (mkF m 130 #[.val (.ref a), .val (.int st0), .val (.long r), .second, .val (.int sh), .val (.int (0 : Int32)), s6] [])) := K2.trans (by
    show Steps p.tables e below (T0.setTop (mkF m 15 #[.val (.ref a), .val (.int st0), .val (.long r), .second, .val (.int sh), .val (.int (0 : Int32)), s6] [(.int (0 : Int32))])) _
    refine XS.ifYes X0.here hx rfl (pc0 := 15) (pc' := 130) rfl (hb hby d7_15) rfl ((if0 _ _).trans (teq hc15_0).1) (by decide) (by decide) ?_
    show Steps p.tables e below (T0.setTop (mkF m 130 #[.val (.ref a), .val (.int st0), .val (.long r), .second, .val (.int sh), .val (.int (0 : Int32)), s6] [])) _
    exact Steps.refl _)
  exact K3
set_option maxHeartbeats 4000000 in
theorem rloop {p : Program} {l : Launch} {e : Env} {R : Room} {s : State} {m : MethodId} {args : Array Value} {below : List Frame} {meth : Method} {c : Code} {Z : State} {a0 : Array Value} {n0 : Nat} (hx : p.tables.exec = Jvm.exec) (hZ : Z.Warmed39 s.vm) (hw : ∀ d ∈ tables_1, d.before a0 Z = true) (hby : c.code = prog_1_method_4_code) (hml : c.maxLocals = 7) (hown : s.vm.findClass "com/example/thin_gateway/thingateway/avro/AvroDecoder" = some m.cls) {a ia : Addr} {ka : ClassId} {z : Int32} {vs : List Value} {st0 : Int32} (ga : n0 ≤ a) (nea : a ≠ ia) : ∀ (k : Nat) (T0 : State) (locs : List Loc) (h0 : Heap) (q : Int32) (r : Int64) (sh : Int32) (s6 : Slot) (h6 : One s6) (X0 : Stand p l e R s m args below meth c T0 locs 0 0) (e0 : T0.heap = h0) (N0 : Fr n0 locs) (E0 : Exa Z h0 a "com/example/thin_gateway/thingateway/avro/AvroDecoder") (FI : Fld Z h0 a "com/example/thin_gateway/thingateway/avro/AvroDecoder" "input" "[B" (.ref ia)) (FP : Fld Z h0 a "com/example/thin_gateway/thingateway/avro/AvroDecoder" "position" "I" (.int q)) (V0 : Arv Z h0 ia ka .byte z vs (.int (0 : Int32))) (hk : rok k vs z q sh),
    ∃ (T' : State) (L' : List Loc) (h' : Heap) (sh' : Int32) (s' : Slot), Stand p l e R s m args below meth c T' L' 0 0 ∧ T'.heap = h' ∧ Fr n0 L' ∧ Keep h0 h' [a] ∧ Exa Z h' a "com/example/thin_gateway/thingateway/avro/AvroDecoder" ∧ Fld Z h' a "com/example/thin_gateway/thingateway/avro/AvroDecoder" "input" "[B" (.ref ia) ∧ Fld Z h' a "com/example/thin_gateway/thingateway/avro/AvroDecoder" "position" "I" (.int (rl k vs q r sh).2) ∧ Arv Z h' ia ka .byte z vs (.int (0 : Int32)) ∧ Steps p.tables e below (T0.setTop (mkF m 13 #[.val (.ref a), .val (.int st0), .val (.long r), .second, .val (.int sh), .val (.int (1 : Int32)), s6] [])) (T'.setTop (mkF m 130 #[.val (.ref a), .val (.int st0), .val (.long (rl k vs q r sh).1), .second, .val (.int sh'), .val (.int (0 : Int32)), s'] [])) := by
  intro k
  induction k with
  | zero => intro T0 locs h0 q r sh s6 h6 X0 e0 N0 E0 FI FP V0 hk; exact hk.elim
  | succ k ih =>
    intro T0 locs h0 q r sh s6 h6 X0 e0 N0 E0 FI FP V0 hk
    obtain ⟨hq, hat, h63, hnx⟩ := hk
    obtain ⟨T1, L1, h1, X1, e1, N1, Kp1, E1, FI1, FP1, V1, S1⟩ := rturn hx hZ hw hby hml hown ga nea T0 locs h0 q r sh s6 h6 X0 e0 N0 E0 FI FP V0 hq hat h63
    by_cases hc : (((own_by vs q) &&& (255 : Int32)) &&& (128 : Int32)) = (0 : Int32)
    · have z1 : rl (k + 1) vs q r sh = (own_res r (own_by vs q) sh, q + (1 : Int32)) := by simp only [rl]; rw [if_pos hc]
      rw [z1]
      rw [if_pos hc] at S1
      exact ⟨T1, L1, h1, _, _, X1, e1, N1, Kp1, E1, FI1, FP1, V1, S1.trans (rleave (n0 := n0) hx hZ hw hby hml hown T1 L1 _ _ _ X1)⟩
    · have z1 : rl (k + 1) vs q r sh = rl k vs (q + (1 : Int32)) (own_res r (own_by vs q) sh) (sh + (7 : Int32)) := by simp only [rl]; rw [if_neg hc]
      rw [z1]
      rw [if_neg hc] at S1
      obtain ⟨T2, L2, h2, sh2, s2, X2, e2, N2, Kp2, E2, FI2, FP2, V2, S2⟩ := ih T1 L1 h1 _ _ _ _ (One.val (w := .int ((own_by vs q) &&& (255 : Int32))) rfl) X1 e1 N1 E1 FI1 FP1 V1 (hnx.resolve_left hc)
      exact ⟨T2, L2, h2, sh2, s2, X2, e2, N2, Kp1.trans Kp2 (fun x hx => Or.inl hx), E2, FI2, FP2, V2, S1.trans S2⟩
theorem d7_0 : decode prog_1_method_4_code 0 = .ok (.aload_n 0, 1) := by decide +kernel
theorem d7_1 : decode prog_1_method_4_code 1 = .ok (.getfield 21, 3) := by decide +kernel
theorem d7_4 : decode prog_1_method_4_code 4 = .ok (.istore_n 1, 1) := by decide +kernel
theorem d7_5 : decode prog_1_method_4_code 5 = .ok (.lconst 0, 1) := by decide +kernel
theorem d7_6 : decode prog_1_method_4_code 6 = .ok (.lstore_n 2, 1) := by decide +kernel
theorem d7_7 : decode prog_1_method_4_code 7 = .ok (.iconst 0, 1) := by decide +kernel
theorem d7_8 : decode prog_1_method_4_code 8 = .ok (.istore 4, 2) := by decide +kernel
theorem d7_10 : decode prog_1_method_4_code 10 = .ok (.iconst 1, 1) := by decide +kernel
theorem d7_11 : decode prog_1_method_4_code 11 = .ok (.istore 5, 2) := by decide +kernel
theorem d7_130 : decode prog_1_method_4_code 130 = .ok (.lload_n 2, 1) := by decide +kernel
theorem d7_131 : decode prog_1_method_4_code 131 = .ok (.iconst 1, 1) := by decide +kernel
theorem d7_132 : decode prog_1_method_4_code 132 = .ok (.lushr, 1) := by decide +kernel
theorem d7_133 : decode prog_1_method_4_code 133 = .ok (.lload_n 2, 1) := by decide +kernel
theorem d7_134 : decode prog_1_method_4_code 134 = .ok (.lconst 1, 1) := by decide +kernel
theorem d7_135 : decode prog_1_method_4_code 135 = .ok (.land, 1) := by decide +kernel
theorem d7_136 : decode prog_1_method_4_code 136 = .ok (.lneg, 1) := by decide +kernel
theorem d7_137 : decode prog_1_method_4_code 137 = .ok (.lxor, 1) := by decide +kernel
def f_rm7 (vs : List Value) (n : Int32) : Int64 := ((((rl 10 vs n (0 : Int64) (0 : Int32)).1.toUInt64 >>> ((1 : Int32) &&& 0x3f).toInt64.toUInt64).toInt64) ^^^ (-((rl 10 vs n (0 : Int64) (0 : Int32)).1 &&& (1 : Int64))))
def Q_rm7 (Z : State) (o0 : Addr) (ia : Addr) (ka : ClassId) (z : Int32) (vs : List Value) (n : Int32) (h0 : Heap) (n0 : Nat) (v : Option Value) (h : Heap) (L : List Loc) : Prop := v = some (.long (f_rm7 vs n)) ∧ Fr n0 L ∧ Keep h0 h [o0] ∧ Exa Z h o0 "com/example/thin_gateway/thingateway/avro/AvroDecoder" ∧ Fld Z h o0 "com/example/thin_gateway/thingateway/avro/AvroDecoder" "input" "[B" (.ref ia) ∧ Fld Z h o0 "com/example/thin_gateway/thingateway/avro/AvroDecoder" "position" "I" (.int (rl 10 vs n (0 : Int64) (0 : Int32)).2)
theorem pn_7 : plainName "com/example/thin_gateway/thingateway/avro/AvroDecoder" = true := by first | (simp [plainName, overriddenIn]; done) | decide +kernel
theorem ef_7 (m : MethodId) (x0 : Addr) : entryFrame m #[(.ref x0)] 7 = mkF m 0 #[.val (.ref x0), .unset, .unset, .unset, .unset, .unset, .unset] [] := by first | (simp [entryFrame, mkF, argsToLocals, Value.category]; done) | rfl
theorem d7_138 : decode prog_1_method_4_code 138 = .ok (.lreturn, 1) := by decide +kernel
set_option maxRecDepth 65536 in
set_option maxHeartbeats 40000000 in
theorem rm7 (l : Launch) (Z : State) (a0 : Array Value) (hw : ∀ d ∈ tables_1, d.before a0 Z = true) (ws : List Jvm.Cond) (o0 : Addr) (ia : Addr) (ka : ClassId) (z : Int32) (vs : List Value) (n : Int32) (h0 : Heap) (n0 : Nat) (Z0 : n0 ≤ h0.size) (E_o0 : Exa Z h0 o0 "com/example/thin_gateway/thingateway/avro/AvroDecoder") (F_input_o0 : Fld Z h0 o0 "com/example/thin_gateway/thingateway/avro/AvroDecoder" "input" "[B" (.ref ia)) (F_position_o0 : Fld Z h0 o0 "com/example/thin_gateway/thingateway/avro/AvroDecoder" "position" "I" (.int n)) (V_ia : Arv Z h0 ia ka .byte z vs (.int (0 : Int32))) (ne_o0_ia : o0 ≠ ia) (g_o0 : n0 ≤ o0) (hok : rok 10 vs z n (0 : Int32)) :
    MetFree l (⟨"com/example/thin_gateway/thingateway/avro/AvroDecoder", "readLong", "()J"⟩ : MethodName) (head1 (Jvm.Cond.code (⟨"com/example/thin_gateway/thingateway/avro/AvroDecoder", "readLong", "()J"⟩ : MethodName) prog_1_method_4_code 7 (some .long) :: ws) ({ frames := 0, cells := 0, slots := 0, locals := 0 } : Room)) (fun a U => a = #[(.ref o0)] ∧ Z.Warmed39 U.vm ∧ U.heap = h0) (fun _ _ _ _ _ => True) (fun _ U o U' => ∃ v L, o = .returned v ∧ Q_rm7 Z o0 ia ka z vs n h0 n0 v U'.heap L ∧ FrameEnd U o U' L ({ frames := 0, cells := 0, slots := 0, locals := 0 } : Room).cells ({ frames := 0, cells := 0, slots := 0, locals := 0 } : Room).slots) := by
  refine MetFree.of_bodySF (plainFor_of_name pn_7) hisR ?_
  intro p e s m args below meth c s₁ Bd hml0 hP hK
  obtain ⟨rfl, hZ, hh⟩ := hP
  have hx := Bd.exec
  have hby := Bd.bytes
  have hml : c.maxLocals = 7 := hml0
  have hown : s.vm.findClass "com/example/thin_gateway/thingateway/avro/AvroDecoder" = some m.cls := findClass_of_methodNamed Bd.named
  have hnm := (name_of_methodNamed Bd.named Bd.method).1
  have X0 : Stand p l e ({ frames := 0, cells := 0, slots := 0, locals := 0 } : Room) s m #[(.ref o0)] below meth c s₁ [] 0 0 := Stand.of_body Bd
  have e0 : s₁.heap = h0 := by rw [← hh, Bd.state]; rfl
  have N0 := Fr.nil n0
  have Kp0 : Keep h0 h0 [o0] := Keep.refl _ _
  have K0 : Steps p.tables e below (s₁.setTop (entryFrame m #[(.ref o0)] 7)) (s₁.setTop (mkF m 0 #[.val (.ref o0), .unset, .unset, .unset, .unset, .unset, .unset] [])) := castTop (ef_7 m o0) (Steps.refl _)
  have K1 : Steps p.tables e below _ (s₁.setTop (mkF m 1 #[.val (.ref o0), .unset, .unset, .unset, .unset, .unset, .unset] [(.ref o0)])) := K0.trans (by
    show Steps p.tables e below (s₁.setTop (mkF m 0 #[.val (.ref o0), .unset, .unset, .unset, .unset, .unset, .unset] [])) _
    refine XS.aloadN X0.here hx rfl (hb hby d7_0) rfl rfl ?_
    show Steps p.tables e below (s₁.setTop (mkF m 1 #[.val (.ref o0), .unset, .unset, .unset, .unset, .unset, .unset] [(.ref o0)])) _
    exact Steps.refl _)
  obtain ⟨T2, X2, e2, st2⟩ := getF X0 hx hZ hown (host := "") (Or.inl (hw _ (List.mem_of_getElem? (i := 34) rfl))) Via.refl e0 F_position_o0 (g := (mkF m 1 #[.val (.ref o0), .unset, .unset, .unset, .unset, .unset, .unset] [(.ref o0)])) rfl rfl (hb hby d7_1)
  have K3 : Steps p.tables e below _ (T2.setTop (mkF m 4 #[.val (.ref o0), .unset, .unset, .unset, .unset, .unset, .unset] [(.int n)])) := K1.trans (st2 _ (Steps.refl _))
  have K4 : Steps p.tables e below _ (T2.setTop (mkF m 13 #[.val (.ref o0), .val (.int n), .val (.long (0 : Int64)), .second, .val (.int (0 : Int32)), .val (.int (1 : Int32)), .unset] [])) := K3.trans (by
    show Steps p.tables e below (T2.setTop (mkF m 4 #[.val (.ref o0), .unset, .unset, .unset, .unset, .unset, .unset] [(.int n)])) _
    refine XS.istoreN X2.here hx rfl (hb hby d7_4) rfl (l' := #[.val (.ref o0), .val (.int n), .unset, .unset, .unset, .unset, .unset]) rfl ?_
    show Steps p.tables e below (T2.setTop (mkF m 5 #[.val (.ref o0), .val (.int n), .unset, .unset, .unset, .unset, .unset] [])) _
    refine XS.lconst X2.here hx rfl (hb hby d7_5) ?_
    show Steps p.tables e below (T2.setTop (mkF m 6 #[.val (.ref o0), .val (.int n), .unset, .unset, .unset, .unset, .unset] [(.long (0 : Int64))])) _
    refine XS.lstoreN X2.here hx rfl (hb hby d7_6) rfl (l' := #[.val (.ref o0), .val (.int n), .val (.long (0 : Int64)), .second, .unset, .unset, .unset]) rfl ?_
    show Steps p.tables e below (T2.setTop (mkF m 7 #[.val (.ref o0), .val (.int n), .val (.long (0 : Int64)), .second, .unset, .unset, .unset] [])) _
    refine XS.iconst X2.here hx rfl (hb hby d7_7) ?_
    show Steps p.tables e below (T2.setTop (mkF m 8 #[.val (.ref o0), .val (.int n), .val (.long (0 : Int64)), .second, .unset, .unset, .unset] [(.int (0 : Int32))])) _
    refine XS.istore X2.here hx rfl (hb hby d7_8) rfl (l' := #[.val (.ref o0), .val (.int n), .val (.long (0 : Int64)), .second, .val (.int (0 : Int32)), .unset, .unset]) rfl ?_
    show Steps p.tables e below (T2.setTop (mkF m 10 #[.val (.ref o0), .val (.int n), .val (.long (0 : Int64)), .second, .val (.int (0 : Int32)), .unset, .unset] [])) _
    refine XS.iconst X2.here hx rfl (hb hby d7_10) ?_
    show Steps p.tables e below (T2.setTop (mkF m 11 #[.val (.ref o0), .val (.int n), .val (.long (0 : Int64)), .second, .val (.int (0 : Int32)), .unset, .unset] [(.int (1 : Int32))])) _
    refine XS.istore X2.here hx rfl (hb hby d7_11) rfl (l' := #[.val (.ref o0), .val (.int n), .val (.long (0 : Int64)), .second, .val (.int (0 : Int32)), .val (.int (1 : Int32)), .unset]) rfl ?_
    show Steps p.tables e below (T2.setTop (mkF m 13 #[.val (.ref o0), .val (.int n), .val (.long (0 : Int64)), .second, .val (.int (0 : Int32)), .val (.int (1 : Int32)), .unset] [])) _
    exact Steps.refl _)
  obtain ⟨T5, L5, h5, sh5, s5, X5, e5, N5, Kp5, E5, FI5, FP5, V5, S5⟩ := rloop hx hZ hw hby hml hown g_o0 ne_o0_ia 10 T2 _ _ n (0 : Int64) (0 : Int32) .unset One.u X2 e2 N0 E_o0 F_input_o0 F_position_o0 V_ia hok
  have K6 := K4.trans S5
  have K7 : Steps p.tables e below _ (T5.setTop (mkF m 138 #[.val (.ref o0), .val (.int n), .val (.long (rl 10 vs n (0 : Int64) (0 : Int32)).1), .second, .val (.int sh5), .val (.int (0 : Int32)), s5] [(.long ((((rl 10 vs n (0 : Int64) (0 : Int32)).1.toUInt64 >>> ((1 : Int32) &&& 0x3f).toInt64.toUInt64).toInt64) ^^^ (-((rl 10 vs n (0 : Int64) (0 : Int32)).1 &&& (1 : Int64)))))])) := K6.trans (by
    show Steps p.tables e below (T5.setTop (mkF m 130 #[.val (.ref o0), .val (.int n), .val (.long (rl 10 vs n (0 : Int64) (0 : Int32)).1), .second, .val (.int sh5), .val (.int (0 : Int32)), s5] [])) _
    refine XS.lloadN X5.here hx rfl (hb hby d7_130) rfl ?_
    show Steps p.tables e below (T5.setTop (mkF m 131 #[.val (.ref o0), .val (.int n), .val (.long (rl 10 vs n (0 : Int64) (0 : Int32)).1), .second, .val (.int sh5), .val (.int (0 : Int32)), s5] [(.long (rl 10 vs n (0 : Int64) (0 : Int32)).1)])) _
    refine XS.iconst X5.here hx rfl (hb hby d7_131) ?_
    show Steps p.tables e below (T5.setTop (mkF m 132 #[.val (.ref o0), .val (.int n), .val (.long (rl 10 vs n (0 : Int64) (0 : Int32)).1), .second, .val (.int sh5), .val (.int (0 : Int32)), s5] [(.int (1 : Int32)), (.long (rl 10 vs n (0 : Int64) (0 : Int32)).1)])) _
    refine XS.lushr X5.here hx rfl (hb hby d7_132) rfl ?_
    show Steps p.tables e below (T5.setTop (mkF m 133 #[.val (.ref o0), .val (.int n), .val (.long (rl 10 vs n (0 : Int64) (0 : Int32)).1), .second, .val (.int sh5), .val (.int (0 : Int32)), s5] [(.long (((rl 10 vs n (0 : Int64) (0 : Int32)).1.toUInt64 >>> ((1 : Int32) &&& 0x3f).toInt64.toUInt64).toInt64))])) _
    refine XS.lloadN X5.here hx rfl (hb hby d7_133) rfl ?_
    show Steps p.tables e below (T5.setTop (mkF m 134 #[.val (.ref o0), .val (.int n), .val (.long (rl 10 vs n (0 : Int64) (0 : Int32)).1), .second, .val (.int sh5), .val (.int (0 : Int32)), s5] [(.long (rl 10 vs n (0 : Int64) (0 : Int32)).1), (.long (((rl 10 vs n (0 : Int64) (0 : Int32)).1.toUInt64 >>> ((1 : Int32) &&& 0x3f).toInt64.toUInt64).toInt64))])) _
    refine XS.lconst X5.here hx rfl (hb hby d7_134) ?_
    show Steps p.tables e below (T5.setTop (mkF m 135 #[.val (.ref o0), .val (.int n), .val (.long (rl 10 vs n (0 : Int64) (0 : Int32)).1), .second, .val (.int sh5), .val (.int (0 : Int32)), s5] [(.long (1 : Int64)), (.long (rl 10 vs n (0 : Int64) (0 : Int32)).1), (.long (((rl 10 vs n (0 : Int64) (0 : Int32)).1.toUInt64 >>> ((1 : Int32) &&& 0x3f).toInt64.toUInt64).toInt64))])) _
    refine XS.land X5.here hx rfl (hb hby d7_135) rfl ?_
    show Steps p.tables e below (T5.setTop (mkF m 136 #[.val (.ref o0), .val (.int n), .val (.long (rl 10 vs n (0 : Int64) (0 : Int32)).1), .second, .val (.int sh5), .val (.int (0 : Int32)), s5] [(.long ((rl 10 vs n (0 : Int64) (0 : Int32)).1 &&& (1 : Int64))), (.long (((rl 10 vs n (0 : Int64) (0 : Int32)).1.toUInt64 >>> ((1 : Int32) &&& 0x3f).toInt64.toUInt64).toInt64))])) _
    refine XS.lneg X5.here hx rfl (hb hby d7_136) rfl ?_
    show Steps p.tables e below (T5.setTop (mkF m 137 #[.val (.ref o0), .val (.int n), .val (.long (rl 10 vs n (0 : Int64) (0 : Int32)).1), .second, .val (.int sh5), .val (.int (0 : Int32)), s5] [(.long (-((rl 10 vs n (0 : Int64) (0 : Int32)).1 &&& (1 : Int64)))), (.long (((rl 10 vs n (0 : Int64) (0 : Int32)).1.toUInt64 >>> ((1 : Int32) &&& 0x3f).toInt64.toUInt64).toInt64))])) _
    refine XS.lxor X5.here hx rfl (hb hby d7_137) rfl ?_
    show Steps p.tables e below (T5.setTop (mkF m 138 #[.val (.ref o0), .val (.int n), .val (.long (rl 10 vs n (0 : Int64) (0 : Int32)).1), .second, .val (.int sh5), .val (.int (0 : Int32)), s5] [(.long ((((rl 10 vs n (0 : Int64) (0 : Int32)).1.toUInt64 >>> ((1 : Int32) &&& 0x3f).toInt64.toUInt64).toInt64) ^^^ (-((rl 10 vs n (0 : Int64) (0 : Int32)).1 &&& (1 : Int64)))))])) _
    exact Steps.refl _)
  obtain ⟨fs, hr, hrun, hended, hW, hsame⟩ := X5.leave (v := some (.long ((((rl 10 vs n (0 : Int64) (0 : Int32)).1.toUInt64 >>> ((1 : Int32) &&& 0x3f).toInt64.toUInt64).toInt64) ^^^ (-((rl 10 vs n (0 : Int64) (0 : Int32)).1 &&& (1 : Int64)))))) (fun h => by rw [Bd.returns] at h; cases h)
  have K_8 : Keep h0 h5 [o0] := (Kp0.trans Kp5 (allS (Or.inl (List.mem_of_getElem? (i := 0) rfl)) all0))
  refine ⟨_, _, K7.trans (retOut X5 hx Bd.returns rfl (Or.inr (Or.inl ⟨rfl, rfl, _, rfl⟩)) (hb hby d7_138) hr), hrun, hended, _, _, rfl, ?_, ⟨_, rfl⟩, hW, hsame.mono (by decide) (by first | decide | omega)⟩
  show Q_rm7 Z o0 ia ka z vs n h0 n0 _ T5.heap _
  rw [e5]
  exact ⟨rfl, N5, K_8, E5, FI5, FP5⟩
theorem d6_0 : decode jdk_29_method_69_code 0 = .ok (.iload_n 0, 1) := by decide +kernel
theorem d6_1 : decode jdk_29_method_69_code 1 = .ok (.iload_n 1, 1) := by decide +kernel
theorem d6_2 : decode jdk_29_method_69_code 2 = .ok (.if_icmp .gt 7, 3) := by decide +kernel
theorem d6_9 : decode jdk_29_method_69_code 9 = .ok (.iload_n 1, 1) := by decide +kernel
theorem d6_5 : decode jdk_29_method_69_code 5 = .ok (.iload_n 0, 1) := by decide +kernel
theorem d6_6 : decode jdk_29_method_69_code 6 = .ok (.goto 4, 3) := by decide +kernel
def Q_rm6 (Z : State) (p0 : Int32) (p1 : Int32) (h0 : Heap) (n0 : Nat) (v : Option Value) (h : Heap) (L : List Loc) : Prop := v = some (.int (if p1 < p0 then p1 else p0)) ∧ Fr n0 L ∧ h = h0
theorem ef_6 (m : MethodId) (x0 : Int32) (x1 : Int32) : entryFrame m #[(.int x0), (.int x1)] 2 = mkF m 0 #[.val (.int x0), .val (.int x1)] [] := by first | (simp [entryFrame, mkF, argsToLocals, Value.category]; done) | rfl
theorem d6_10 : decode jdk_29_method_69_code 10 = .ok (.ireturn, 1) := by decide +kernel
set_option maxRecDepth 65536 in
set_option maxHeartbeats 40000000 in
theorem rm6 (l : Launch) (Z : State) (a0 : Array Value) (hw : ∀ d ∈ tables_1, d.before a0 Z = true) (ws : List Jvm.Cond) (p0 : Int32) (p1 : Int32) (h0 : Heap) (n0 : Nat) (Z0 : n0 ≤ h0.size) :
    MetFree l (⟨"java/lang/Math", "min", "(II)I"⟩ : MethodName) (head1 (Jvm.Cond.code (⟨"java/lang/Math", "min", "(II)I"⟩ : MethodName) jdk_29_method_69_code 2 (some .int) :: ws) ({ frames := 0, cells := 0, slots := 0, locals := 0 } : Room)) (fun a U => a = #[(.int p0), (.int p1)] ∧ Z.Warmed39 U.vm ∧ U.heap = h0) (fun _ _ _ _ _ => True) (fun _ U o U' => ∃ v L, o = .returned v ∧ Q_rm6 Z p0 p1 h0 n0 v U'.heap L ∧ FrameEnd U o U' L ({ frames := 0, cells := 0, slots := 0, locals := 0 } : Room).cells ({ frames := 0, cells := 0, slots := 0, locals := 0 } : Room).slots) := by
  refine MetFree.of_bodySF (Jvm.Free.JP.mathPlain rfl (by decide +kernel)) hisR ?_
  intro p e s m args below meth c s₁ Bd hml0 hP hK
  obtain ⟨rfl, hZ, hh⟩ := hP
  have hx := Bd.exec
  have hby := Bd.bytes
  have hml : c.maxLocals = 2 := hml0
  have hown : s.vm.findClass "java/lang/Math" = some m.cls := findClass_of_methodNamed Bd.named
  have hnm := (name_of_methodNamed Bd.named Bd.method).1
  have X0 : Stand p l e ({ frames := 0, cells := 0, slots := 0, locals := 0 } : Room) s m #[(.int p0), (.int p1)] below meth c s₁ [] 0 0 := Stand.of_body Bd
  have e0 : s₁.heap = h0 := by rw [← hh, Bd.state]; rfl
  have N0 := Fr.nil n0
  have Kp0 : Keep h0 h0 [] := Keep.refl _ _
  have K0 : Steps p.tables e below (s₁.setTop (entryFrame m #[(.int p0), (.int p1)] 2)) (s₁.setTop (mkF m 0 #[.val (.int p0), .val (.int p1)] [])) := castTop (ef_6 m p0 p1) (Steps.refl _)
  have K1 : Steps p.tables e below _ (s₁.setTop (mkF m 2 #[.val (.int p0), .val (.int p1)] [(.int p1), (.int p0)])) := K0.trans (by
    show Steps p.tables e below (s₁.setTop (mkF m 0 #[.val (.int p0), .val (.int p1)] [])) _
    refine XS.iloadN X0.here hx rfl (hb hby d6_0) rfl ?_
    show Steps p.tables e below (s₁.setTop (mkF m 1 #[.val (.int p0), .val (.int p1)] [(.int p0)])) _
    refine XS.iloadN X0.here hx rfl (hb hby d6_1) rfl ?_
    show Steps p.tables e below (s₁.setTop (mkF m 2 #[.val (.int p0), .val (.int p1)] [(.int p1), (.int p0)])) _
    exact Steps.refl _)
  obtain ⟨v2_0, hv2_0, S2⟩ : ∃ (v2_0 : Int32), (if p1 < p0 then p1 else p0) = v2_0 ∧ Steps p.tables e below (s₁.setTop (mkF m 2 #[.val (.int p0), .val (.int p1)] [(.int p1), (.int p0)])) (s₁.setTop (mkF m 10 #[.val (.int p0), .val (.int p1)] [(.int v2_0)])) := by
    have R2 := Steps.refl (tb := p.tables) (e := e) (below := below) (s₁.setTop (mkF m 2 #[.val (.int p0), .val (.int p1)] [(.int p1), (.int p0)]))
    by_cases hc2 : p1 < p0
    · have K3 : Steps p.tables e below _ (s₁.setTop (mkF m 10 #[.val (.int p0), .val (.int p1)] [(.int p1)])) := R2.trans (by
        show Steps p.tables e below (s₁.setTop (mkF m 2 #[.val (.int p0), .val (.int p1)] [(.int p1), (.int p0)])) _
        refine XS.icmpYes X0.here hx rfl (pc0 := 2) (pc' := 9) rfl (hb hby d6_2) rfl (tlt hc2).2.2.1 (by decide) (by decide) ?_
        show Steps p.tables e below (s₁.setTop (mkF m 9 #[.val (.int p0), .val (.int p1)] [])) _
        refine XS.iloadN X0.here hx rfl (hb hby d6_9) rfl ?_
        show Steps p.tables e below (s₁.setTop (mkF m 10 #[.val (.int p0), .val (.int p1)] [(.int p1)])) _
        exact Steps.refl _)
      exact ⟨p1, (by rw [if_pos hc2]), K3⟩
    · have K4 : Steps p.tables e below _ (s₁.setTop (mkF m 10 #[.val (.int p0), .val (.int p1)] [(.int p0)])) := R2.trans (by
        show Steps p.tables e below (s₁.setTop (mkF m 2 #[.val (.int p0), .val (.int p1)] [(.int p1), (.int p0)])) _
        refine XS.icmpNo X0.here hx rfl (hb hby d6_2) rfl (flt hc2).2.2.1 ?_
        show Steps p.tables e below (s₁.setTop (mkF m 5 #[.val (.int p0), .val (.int p1)] [])) _
        refine XS.iloadN X0.here hx rfl (hb hby d6_5) rfl ?_
        show Steps p.tables e below (s₁.setTop (mkF m 6 #[.val (.int p0), .val (.int p1)] [(.int p0)])) _
        refine XS.goto X0.here hx rfl (pc0 := 6) (pc' := 10) rfl (hb hby d6_6) (by decide) (by decide) ?_
        show Steps p.tables e below (s₁.setTop (mkF m 10 #[.val (.int p0), .val (.int p1)] [(.int p0)])) _
        exact Steps.refl _)
      exact ⟨p0, (by rw [if_neg hc2]), K4⟩
  have K5 := K1.trans S2
  subst hv2_0
  obtain ⟨fs, hr, hrun, hended, hW, hsame⟩ := X0.leave (v := some (.int (if p1 < p0 then p1 else p0))) (fun h => by rw [Bd.returns] at h; cases h)
  refine ⟨_, _, K5.trans (retOut X0 hx Bd.returns rfl (Or.inl ⟨rfl, Or.inl rfl, _, rfl⟩) (hb hby d6_10) hr), hrun, hended, _, _, rfl, ?_, ⟨_, rfl⟩, hW, hsame.mono (by decide) (by first | decide | omega)⟩
  show Q_rm6 Z p0 p1 h0 n0 _ s₁.heap _
  rw [e0]
  exact ⟨rfl, N0, rfl⟩
theorem own_arvn {Z : State} {h : Heap} {a : Addr} {k : ClassId} {ty : FieldType} {n n' : Int32} {vs : List Value} {d : Value} (q : n' = n) (F : Arv Z h a k ty n vs d) : Arv Z h a k ty n' vs d := by subst q; exact F
theorem own_arvext {Z : State} {h : Heap} {a : Addr} {k : ClassId} {ty : FieldType} {n : Int32} {vs vs' : List Value} {d : Value} (F : Arv Z h a k ty n vs d) (q : ∀ i, i < n.toNatClampNeg → vs'.getD i d = vs.getD i d) : Arv Z h a k ty n vs' d := by
  obtain ⟨c, A, r1, r2, r3, H, G⟩ := F
  exact ⟨c, A, r1, r2, r3, fun i hi => by rw [q i (r2 ▸ hi)]; exact H i hi, fun i hi => by rw [q i (r2 ▸ hi)]; exact G i hi⟩
theorem own_pre0 (a b c d : Value) : ∀ i, i < (0 : Int32).toNatClampNeg → [a, b, c, d].getD i (Value.int (0 : Int32)) = [].getD i (Value.int (0 : Int32)) := by
  intro i hi
  have h : i < 0 := hi
  omega
theorem own_pre1 (a b c d : Value) : ∀ i, i < (1 : Int32).toNatClampNeg → [a, b, c, d].getD i (Value.int (0 : Int32)) = [a].getD i (Value.int (0 : Int32)) := by
  intro i hi
  have h : i < 1 := hi
  match i, h with
  | 0, _ => rfl
theorem own_pre2 (a b c d : Value) : ∀ i, i < (2 : Int32).toNatClampNeg → [a, b, c, d].getD i (Value.int (0 : Int32)) = [a, b].getD i (Value.int (0 : Int32)) := by
  intro i hi
  have h : i < 2 := hi
  match i, h with
  | 0, _ => rfl
  | 1, _ => rfl
theorem own_pre3 (a b c d : Value) : ∀ i, i < (3 : Int32).toNatClampNeg → [a, b, c, d].getD i (Value.int (0 : Int32)) = [a, b, c].getD i (Value.int (0 : Int32)) := by
  intro i hi
  have h : i < 3 := hi
  match i, h with
  | 0, _ => rfl
  | 1, _ => rfl
  | 2, _ => rfl
theorem own_pre4 (a b c d : Value) : ∀ i, i < (4 : Int32).toNatClampNeg → [a, b, c, d].getD i (Value.int (0 : Int32)) = [a, b, c, d].getD i (Value.int (0 : Int32)) := by
  intro i hi
  have h : i < 4 := hi
  match i, h with
  | 0, _ => rfl
  | 1, _ => rfl
  | 2, _ => rfl
  | 3, _ => rfl
theorem own_n4 {p : Int32} (h : p = (0 : Int32) ∨ p = (1 : Int32) ∨ p = (2 : Int32) ∨ p = (3 : Int32) ∨ p = (4 : Int32)) (h0 : ¬ p = (0 : Int32)) (h1 : ¬ p = (1 : Int32)) (h2 : ¬ p = (2 : Int32)) (h3 : ¬ p = (3 : Int32)) : p = (4 : Int32) := by
  rcases h with h | h | h | h | h <;> first | exact h | contradiction
theorem d1_0 : decode method_2_code 0 = .ok (.iload_n 0, 1) := by decide +kernel
theorem d1_1 : decode method_2_code 1 = .ok (.ifCond .ne 7, 3) := by decide +kernel
theorem d1_4 : decode method_2_code 4 = .ok (.iconst 0, 1) := by decide +kernel
theorem d1_5 : decode method_2_code 5 = .ok (.newarray .byte, 2) := by decide +kernel
theorem d1_8 : decode method_2_code 8 = .ok (.iload_n 0, 1) := by decide +kernel
theorem d1_9 : decode method_2_code 9 = .ok (.iconst 1, 1) := by decide +kernel
theorem d1_10 : decode method_2_code 10 = .ok (.if_icmp .ne 11, 3) := by decide +kernel
theorem d1_13 : decode method_2_code 13 = .ok (.iconst 1, 1) := by decide +kernel
theorem d1_14 : decode method_2_code 14 = .ok (.newarray .byte, 2) := by decide +kernel
theorem d1_16 : decode method_2_code 16 = .ok (.dup, 1) := by decide +kernel
theorem d1_17 : decode method_2_code 17 = .ok (.iconst 0, 1) := by decide +kernel
theorem d1_18 : decode method_2_code 18 = .ok (.iload_n 1, 1) := by decide +kernel
theorem d1_19 : decode method_2_code 19 = .ok (.bastore, 1) := by decide +kernel
theorem d1_21 : decode method_2_code 21 = .ok (.iload_n 0, 1) := by decide +kernel
theorem d1_22 : decode method_2_code 22 = .ok (.iconst 2, 1) := by decide +kernel
theorem d1_23 : decode method_2_code 23 = .ok (.if_icmp .ne 15, 3) := by decide +kernel
theorem d1_26 : decode method_2_code 26 = .ok (.iconst 2, 1) := by decide +kernel
theorem d1_27 : decode method_2_code 27 = .ok (.newarray .byte, 2) := by decide +kernel
theorem d1_29 : decode method_2_code 29 = .ok (.dup, 1) := by decide +kernel
theorem d1_30 : decode method_2_code 30 = .ok (.iconst 0, 1) := by decide +kernel
theorem d1_31 : decode method_2_code 31 = .ok (.iload_n 1, 1) := by decide +kernel
theorem d1_32 : decode method_2_code 32 = .ok (.bastore, 1) := by decide +kernel
theorem d1_33 : decode method_2_code 33 = .ok (.dup, 1) := by decide +kernel
theorem d1_34 : decode method_2_code 34 = .ok (.iconst 1, 1) := by decide +kernel
theorem d1_35 : decode method_2_code 35 = .ok (.iload_n 2, 1) := by decide +kernel
theorem d1_36 : decode method_2_code 36 = .ok (.bastore, 1) := by decide +kernel
theorem d1_38 : decode method_2_code 38 = .ok (.iload_n 0, 1) := by decide +kernel
theorem d1_39 : decode method_2_code 39 = .ok (.iconst 3, 1) := by decide +kernel
theorem d1_40 : decode method_2_code 40 = .ok (.if_icmp .ne 19, 3) := by decide +kernel
theorem d1_43 : decode method_2_code 43 = .ok (.iconst 3, 1) := by decide +kernel
theorem d1_44 : decode method_2_code 44 = .ok (.newarray .byte, 2) := by decide +kernel
theorem d1_46 : decode method_2_code 46 = .ok (.dup, 1) := by decide +kernel
theorem d1_47 : decode method_2_code 47 = .ok (.iconst 0, 1) := by decide +kernel
theorem d1_48 : decode method_2_code 48 = .ok (.iload_n 1, 1) := by decide +kernel
theorem d1_49 : decode method_2_code 49 = .ok (.bastore, 1) := by decide +kernel
theorem d1_50 : decode method_2_code 50 = .ok (.dup, 1) := by decide +kernel
theorem d1_51 : decode method_2_code 51 = .ok (.iconst 1, 1) := by decide +kernel
theorem d1_52 : decode method_2_code 52 = .ok (.iload_n 2, 1) := by decide +kernel
theorem d1_53 : decode method_2_code 53 = .ok (.bastore, 1) := by decide +kernel
theorem d1_54 : decode method_2_code 54 = .ok (.dup, 1) := by decide +kernel
theorem d1_55 : decode method_2_code 55 = .ok (.iconst 2, 1) := by decide +kernel
theorem d1_56 : decode method_2_code 56 = .ok (.iload_n 3, 1) := by decide +kernel
theorem d1_57 : decode method_2_code 57 = .ok (.bastore, 1) := by decide +kernel
theorem d1_59 : decode method_2_code 59 = .ok (.iconst 4, 1) := by decide +kernel
theorem d1_60 : decode method_2_code 60 = .ok (.newarray .byte, 2) := by decide +kernel
theorem d1_62 : decode method_2_code 62 = .ok (.dup, 1) := by decide +kernel
theorem d1_63 : decode method_2_code 63 = .ok (.iconst 0, 1) := by decide +kernel
theorem d1_64 : decode method_2_code 64 = .ok (.iload_n 1, 1) := by decide +kernel
theorem d1_65 : decode method_2_code 65 = .ok (.bastore, 1) := by decide +kernel
theorem d1_66 : decode method_2_code 66 = .ok (.dup, 1) := by decide +kernel
theorem d1_67 : decode method_2_code 67 = .ok (.iconst 1, 1) := by decide +kernel
theorem d1_68 : decode method_2_code 68 = .ok (.iload_n 2, 1) := by decide +kernel
theorem d1_69 : decode method_2_code 69 = .ok (.bastore, 1) := by decide +kernel
theorem d1_70 : decode method_2_code 70 = .ok (.dup, 1) := by decide +kernel
theorem d1_71 : decode method_2_code 71 = .ok (.iconst 2, 1) := by decide +kernel
theorem d1_72 : decode method_2_code 72 = .ok (.iload_n 3, 1) := by decide +kernel
theorem d1_73 : decode method_2_code 73 = .ok (.bastore, 1) := by decide +kernel
theorem d1_74 : decode method_2_code 74 = .ok (.dup, 1) := by decide +kernel
theorem d1_75 : decode method_2_code 75 = .ok (.iconst 3, 1) := by decide +kernel
theorem d1_76 : decode method_2_code 76 = .ok (.iload 4, 2) := by decide +kernel
theorem d1_78 : decode method_2_code 78 = .ok (.bastore, 1) := by decide +kernel
def Q_rm1 (Z : State) (p0 : Int32) (p1 : Int32) (p2 : Int32) (p3 : Int32) (p4 : Int32) (h0 : Heap) (n0 : Nat) (v : Option Value) (h : Heap) (L : List Loc) : Prop := ∃ b : Addr, ∃ k : ClassId, v = some (.ref b) ∧ Fr n0 L ∧ Keep h0 h [] ∧ Exa Z h b "[B" ∧ Arv Z h b k .byte p0 [(.int (p1.toInt8.toInt32)), (.int (p2.toInt8.toInt32)), (.int (p3.toInt8.toInt32)), (.int (p4.toInt8.toInt32))] (.int (0 : Int32)) ∧ h0.size ≤ b
theorem pn_1 : plainName "com/example/thin_gateway/thingateway/avro/AvroDecoderIsAtEndPinLaw" = true := by first | (simp [plainName, overriddenIn]; done) | decide +kernel
theorem ef_1 (m : MethodId) (x0 : Int32) (x1 : Int32) (x2 : Int32) (x3 : Int32) (x4 : Int32) : entryFrame m #[(.int x0), (.int x1), (.int x2), (.int x3), (.int x4)] 5 = mkF m 0 #[.val (.int x0), .val (.int x1), .val (.int x2), .val (.int x3), .val (.int x4)] [] := by first | (simp [entryFrame, mkF, argsToLocals, Value.category]; done) | rfl
theorem d1_7 : decode method_2_code 7 = .ok (.areturn, 1) := by decide +kernel
theorem d1_20 : decode method_2_code 20 = .ok (.areturn, 1) := by decide +kernel
theorem d1_37 : decode method_2_code 37 = .ok (.areturn, 1) := by decide +kernel
theorem d1_58 : decode method_2_code 58 = .ok (.areturn, 1) := by decide +kernel
theorem d1_79 : decode method_2_code 79 = .ok (.areturn, 1) := by decide +kernel
set_option maxRecDepth 65536 in
set_option maxHeartbeats 40000000 in
theorem rm1 (l : Launch) (Z : State) (a0 : Array Value) (hw : ∀ d ∈ tables_1, d.before a0 Z = true) (ws : List Jvm.Cond) (p0 : Int32) (p1 : Int32) (p2 : Int32) (p3 : Int32) (p4 : Int32) (h0 : Heap) (n0 : Nat) (Z0 : n0 ≤ h0.size) (hn : p0 = (0 : Int32) ∨ p0 = (1 : Int32) ∨ p0 = (2 : Int32) ∨ p0 = (3 : Int32) ∨ p0 = (4 : Int32)) :
    MetFree l (⟨"com/example/thin_gateway/thingateway/avro/AvroDecoderIsAtEndPinLaw", "build", "(IBBBB)[B"⟩ : MethodName) (head1 (Jvm.Cond.code (⟨"com/example/thin_gateway/thingateway/avro/AvroDecoderIsAtEndPinLaw", "build", "(IBBBB)[B"⟩ : MethodName) method_2_code 5 (some (.array .byte)) :: ws) ({ frames := 0, cells := 1, slots := 4, locals := 0 } : Room)) (fun a U => a = #[(.int p0), (.int p1), (.int p2), (.int p3), (.int p4)] ∧ Z.Warmed39 U.vm ∧ U.heap = h0) (fun _ _ _ _ _ => True) (fun _ U o U' => ∃ v L, o = .returned v ∧ Q_rm1 Z p0 p1 p2 p3 p4 h0 n0 v U'.heap L ∧ FrameEnd U o U' L ({ frames := 0, cells := 1, slots := 4, locals := 0 } : Room).cells ({ frames := 0, cells := 1, slots := 4, locals := 0 } : Room).slots) := by
  refine MetFree.of_bodySF (plainFor_of_name pn_1) hisR ?_
  intro p e s m args below meth c s₁ Bd hml0 hP hK
  obtain ⟨rfl, hZ, hh⟩ := hP
  have hx := Bd.exec
  have hby := Bd.bytes
  have hml : c.maxLocals = 5 := hml0
  have hown : s.vm.findClass "com/example/thin_gateway/thingateway/avro/AvroDecoderIsAtEndPinLaw" = some m.cls := findClass_of_methodNamed Bd.named
  have hnm := (name_of_methodNamed Bd.named Bd.method).1
  have X0 : Stand p l e ({ frames := 0, cells := 1, slots := 4, locals := 0 } : Room) s m #[(.int p0), (.int p1), (.int p2), (.int p3), (.int p4)] below meth c s₁ [] 0 0 := Stand.of_body Bd
  have e0 : s₁.heap = h0 := by rw [← hh, Bd.state]; rfl
  have N0 := Fr.nil n0
  have Kp0 : Keep h0 h0 [] := Keep.refl _ _
  have K0 : Steps p.tables e below (s₁.setTop (entryFrame m #[(.int p0), (.int p1), (.int p2), (.int p3), (.int p4)] 5)) (s₁.setTop (mkF m 0 #[.val (.int p0), .val (.int p1), .val (.int p2), .val (.int p3), .val (.int p4)] [])) := castTop (ef_1 m p0 p1 p2 p3 p4) (Steps.refl _)
  have K1 : Steps p.tables e below _ (s₁.setTop (mkF m 1 #[.val (.int p0), .val (.int p1), .val (.int p2), .val (.int p3), .val (.int p4)] [(.int p0)])) := K0.trans (by
    show Steps p.tables e below (s₁.setTop (mkF m 0 #[.val (.int p0), .val (.int p1), .val (.int p2), .val (.int p3), .val (.int p4)] [])) _
    refine XS.iloadN X0.here hx rfl (hb hby d1_0) rfl ?_
    show Steps p.tables e below (s₁.setTop (mkF m 1 #[.val (.int p0), .val (.int p1), .val (.int p2), .val (.int p3), .val (.int p4)] [(.int p0)])) _
    exact Steps.refl _)
  by_cases hc1 : p0 = (0 : Int32)
  · have K2 : Steps p.tables e below _ (s₁.setTop (mkF m 5 #[.val (.int p0), .val (.int p1), .val (.int p2), .val (.int p3), .val (.int p4)] [(.int (0 : Int32))])) := K1.trans (by
      show Steps p.tables e below (s₁.setTop (mkF m 1 #[.val (.int p0), .val (.int p1), .val (.int p2), .val (.int p3), .val (.int p4)] [(.int p0)])) _
      refine XS.ifNo X0.here hx rfl (hb hby d1_1) rfl ((if0 _ _).trans (teq hc1).2) ?_
      show Steps p.tables e below (s₁.setTop (mkF m 4 #[.val (.int p0), .val (.int p1), .val (.int p2), .val (.int p3), .val (.int p4)] [])) _
      refine XS.iconst X0.here hx rfl (hb hby d1_4) ?_
      show Steps p.tables e below (s₁.setTop (mkF m 5 #[.val (.int p0), .val (.int p1), .val (.int p2), .val (.int p3), .val (.int p4)] [(.int (0 : Int32))])) _
      exact Steps.refl _)
    obtain ⟨T3, h3, k3, b3, X3, e3, E3, g3, V3, A3, st3⟩ := own_newB X0 hx hZ (hw _ (List.mem_of_getElem? (i := 4) rfl)) e0 (g := (mkF m 5 #[.val (.int p0), .val (.int p1), .val (.int p2), .val (.int p3), .val (.int p4)] [(.int (0 : Int32))])) rfl (hb hby d1_5) rfl (by decide) 0 (by decide) (by decide) (by decide) (by decide)
    have ge_b3 : n0 ≤ b3 := Nat.le_trans Z0 (Nat.le_of_eq g3.symm)
    have sz_b3 : h0.size ≤ b3 := Nat.le_trans Kp0.1 (Nat.le_of_eq g3.symm)
    have K4 : Steps p.tables e below _ (T3.setTop (mkF m 7 #[.val (.int p0), .val (.int p1), .val (.int p2), .val (.int p3), .val (.int p4)] [(.ref b3)])) := K2.trans st3
    have Vn3 : Arv Z h3 b3 k3 .byte (0 : Int32) [] (.int (0 : Int32)) := V3
    obtain ⟨fs, hr, hrun, hended, hW, hsame⟩ := X3.leave (v := some (.ref b3)) (fun h => by rw [Bd.returns] at h; cases h)
    have K_50 : Keep h0 h3 [] := (Kp0.ext E3)
    refine ⟨_, _, K4.trans (retOut X3 hx Bd.returns rfl (Or.inr (Or.inr (Or.inr (Or.inr ⟨rfl, rfl, rfl⟩)))) (hb hby d1_7) hr), hrun, hended, _, _, rfl, ?_, ⟨_, rfl⟩, hW, hsame.mono (by decide) (by first | decide | omega)⟩
    show Q_rm1 Z p0 p1 p2 p3 p4 h0 n0 _ T3.heap _
    rw [e3]
    exact ⟨b3, k3, rfl, N0, K_50, A3, (own_arvext (own_arvn hc1 Vn3) (by rw [hc1]; exact own_pre0 _ _ _ _)), sz_b3⟩
  · have K5 : Steps p.tables e below _ (s₁.setTop (mkF m 10 #[.val (.int p0), .val (.int p1), .val (.int p2), .val (.int p3), .val (.int p4)] [(.int (1 : Int32)), (.int p0)])) := K1.trans (by
      show Steps p.tables e below (s₁.setTop (mkF m 1 #[.val (.int p0), .val (.int p1), .val (.int p2), .val (.int p3), .val (.int p4)] [(.int p0)])) _
      refine XS.ifYes X0.here hx rfl (pc0 := 1) (pc' := 8) rfl (hb hby d1_1) rfl ((if0 _ _).trans (feq hc1).2) (by decide) (by decide) ?_
      show Steps p.tables e below (s₁.setTop (mkF m 8 #[.val (.int p0), .val (.int p1), .val (.int p2), .val (.int p3), .val (.int p4)] [])) _
      refine XS.iloadN X0.here hx rfl (hb hby d1_8) rfl ?_
      show Steps p.tables e below (s₁.setTop (mkF m 9 #[.val (.int p0), .val (.int p1), .val (.int p2), .val (.int p3), .val (.int p4)] [(.int p0)])) _
      refine XS.iconst X0.here hx rfl (hb hby d1_9) ?_
      show Steps p.tables e below (s₁.setTop (mkF m 10 #[.val (.int p0), .val (.int p1), .val (.int p2), .val (.int p3), .val (.int p4)] [(.int (1 : Int32)), (.int p0)])) _
      exact Steps.refl _)
    by_cases hc10 : p0 = (1 : Int32)
    · have K6 : Steps p.tables e below _ (s₁.setTop (mkF m 14 #[.val (.int p0), .val (.int p1), .val (.int p2), .val (.int p3), .val (.int p4)] [(.int (1 : Int32))])) := K5.trans (by
        show Steps p.tables e below (s₁.setTop (mkF m 10 #[.val (.int p0), .val (.int p1), .val (.int p2), .val (.int p3), .val (.int p4)] [(.int (1 : Int32)), (.int p0)])) _
        refine XS.icmpNo X0.here hx rfl (hb hby d1_10) rfl (teq hc10).2 ?_
        show Steps p.tables e below (s₁.setTop (mkF m 13 #[.val (.int p0), .val (.int p1), .val (.int p2), .val (.int p3), .val (.int p4)] [])) _
        refine XS.iconst X0.here hx rfl (hb hby d1_13) ?_
        show Steps p.tables e below (s₁.setTop (mkF m 14 #[.val (.int p0), .val (.int p1), .val (.int p2), .val (.int p3), .val (.int p4)] [(.int (1 : Int32))])) _
        exact Steps.refl _)
      obtain ⟨T7, h7, k7, b7, X7, e7, E7, g7, V7, A7, st7⟩ := own_newB X0 hx hZ (hw _ (List.mem_of_getElem? (i := 4) rfl)) e0 (g := (mkF m 14 #[.val (.int p0), .val (.int p1), .val (.int p2), .val (.int p3), .val (.int p4)] [(.int (1 : Int32))])) rfl (hb hby d1_14) rfl (by decide) 1 (by decide) (by decide) (by decide) (by decide)
      have ge_b7 : n0 ≤ b7 := Nat.le_trans Z0 (Nat.le_of_eq g7.symm)
      have sz_b7 : h0.size ≤ b7 := Nat.le_trans Kp0.1 (Nat.le_of_eq g7.symm)
      have K8 : Steps p.tables e below _ (T7.setTop (mkF m 16 #[.val (.int p0), .val (.int p1), .val (.int p2), .val (.int p3), .val (.int p4)] [(.ref b7)])) := K6.trans st7
      have Vn7 : Arv Z h7 b7 k7 .byte (1 : Int32) [(.int (0 : Int32))] (.int (0 : Int32)) := V7
      have K9 : Steps p.tables e below _ (T7.setTop (mkF m 19 #[.val (.int p0), .val (.int p1), .val (.int p2), .val (.int p3), .val (.int p4)] [(.int p1), (.int (0 : Int32)), (.ref b7), (.ref b7)])) := K8.trans (by
        show Steps p.tables e below (T7.setTop (mkF m 16 #[.val (.int p0), .val (.int p1), .val (.int p2), .val (.int p3), .val (.int p4)] [(.ref b7)])) _
        refine XS.dup X7.here hx rfl (hb hby d1_16) rfl rfl ?_
        show Steps p.tables e below (T7.setTop (mkF m 17 #[.val (.int p0), .val (.int p1), .val (.int p2), .val (.int p3), .val (.int p4)] [(.ref b7), (.ref b7)])) _
        refine XS.iconst X7.here hx rfl (hb hby d1_17) ?_
        show Steps p.tables e below (T7.setTop (mkF m 18 #[.val (.int p0), .val (.int p1), .val (.int p2), .val (.int p3), .val (.int p4)] [(.int (0 : Int32)), (.ref b7), (.ref b7)])) _
        refine XS.iloadN X7.here hx rfl (hb hby d1_18) rfl ?_
        show Steps p.tables e below (T7.setTop (mkF m 19 #[.val (.int p0), .val (.int p1), .val (.int p2), .val (.int p3), .val (.int p4)] [(.int p1), (.int (0 : Int32)), (.ref b7), (.ref b7)])) _
        exact Steps.refl _)
      obtain ⟨T10, h10, X10, e10, W10, V10, st10⟩ := own_stB X7 hx hZ e7 Vn7 (j := (0 : Int32)) ⟨by decide, by decide⟩ 0 rfl (Nat.le_of_ble_eq_true rfl) (g := (mkF m 19 #[.val (.int p0), .val (.int p1), .val (.int p2), .val (.int p3), .val (.int p4)] [(.int p1), (.int (0 : Int32)), (.ref b7), (.ref b7)])) rfl rfl (hb hby d1_19)
      have K11 : Steps p.tables e below _ (T10.setTop (mkF m 20 #[.val (.int p0), .val (.int p1), .val (.int p2), .val (.int p3), .val (.int p4)] [(.ref b7)])) := K9.trans st10
      have Vw10 : Arv Z h10 b7 k7 .byte (1 : Int32) [(.int (p1.toInt8.toInt32))] (.int (0 : Int32)) := V10
      have N10 := Fr.snoc X10 N0 ge_b7
      obtain ⟨fs, hr, hrun, hended, hW, hsame⟩ := X10.leave (v := some (.ref b7)) (fun h => by rw [Bd.returns] at h; cases h)
      have K_51 : Keep h0 h10 [] := ((Kp0.ext E7).wr W10 (Or.inr sz_b7))
      have E_52 : Exa Z h10 b7 "[B" := (A7.wr W10)
      refine ⟨_, _, K11.trans (retOut X10 hx Bd.returns rfl (Or.inr (Or.inr (Or.inr (Or.inr ⟨rfl, rfl, rfl⟩)))) (hb hby d1_20) hr), hrun, hended, _, _, rfl, ?_, ⟨_, rfl⟩, hW, hsame.mono (by decide) (by first | decide | omega)⟩
      show Q_rm1 Z p0 p1 p2 p3 p4 h0 n0 _ T10.heap _
      rw [e10]
      exact ⟨b7, k7, rfl, N10, K_51, E_52, (own_arvext (own_arvn hc10 Vw10) (by rw [hc10]; exact own_pre1 _ _ _ _)), sz_b7⟩
    · have K12 : Steps p.tables e below _ (s₁.setTop (mkF m 23 #[.val (.int p0), .val (.int p1), .val (.int p2), .val (.int p3), .val (.int p4)] [(.int (2 : Int32)), (.int p0)])) := K5.trans (by
        show Steps p.tables e below (s₁.setTop (mkF m 10 #[.val (.int p0), .val (.int p1), .val (.int p2), .val (.int p3), .val (.int p4)] [(.int (1 : Int32)), (.int p0)])) _
        refine XS.icmpYes X0.here hx rfl (pc0 := 10) (pc' := 21) rfl (hb hby d1_10) rfl (feq hc10).2 (by decide) (by decide) ?_
        show Steps p.tables e below (s₁.setTop (mkF m 21 #[.val (.int p0), .val (.int p1), .val (.int p2), .val (.int p3), .val (.int p4)] [])) _
        refine XS.iloadN X0.here hx rfl (hb hby d1_21) rfl ?_
        show Steps p.tables e below (s₁.setTop (mkF m 22 #[.val (.int p0), .val (.int p1), .val (.int p2), .val (.int p3), .val (.int p4)] [(.int p0)])) _
        refine XS.iconst X0.here hx rfl (hb hby d1_22) ?_
        show Steps p.tables e below (s₁.setTop (mkF m 23 #[.val (.int p0), .val (.int p1), .val (.int p2), .val (.int p3), .val (.int p4)] [(.int (2 : Int32)), (.int p0)])) _
        exact Steps.refl _)
      by_cases hc23 : p0 = (2 : Int32)
      · have K13 : Steps p.tables e below _ (s₁.setTop (mkF m 27 #[.val (.int p0), .val (.int p1), .val (.int p2), .val (.int p3), .val (.int p4)] [(.int (2 : Int32))])) := K12.trans (by
          show Steps p.tables e below (s₁.setTop (mkF m 23 #[.val (.int p0), .val (.int p1), .val (.int p2), .val (.int p3), .val (.int p4)] [(.int (2 : Int32)), (.int p0)])) _
          refine XS.icmpNo X0.here hx rfl (hb hby d1_23) rfl (teq hc23).2 ?_
          show Steps p.tables e below (s₁.setTop (mkF m 26 #[.val (.int p0), .val (.int p1), .val (.int p2), .val (.int p3), .val (.int p4)] [])) _
          refine XS.iconst X0.here hx rfl (hb hby d1_26) ?_
          show Steps p.tables e below (s₁.setTop (mkF m 27 #[.val (.int p0), .val (.int p1), .val (.int p2), .val (.int p3), .val (.int p4)] [(.int (2 : Int32))])) _
          exact Steps.refl _)
        obtain ⟨T14, h14, k14, b14, X14, e14, E14, g14, V14, A14, st14⟩ := own_newB X0 hx hZ (hw _ (List.mem_of_getElem? (i := 4) rfl)) e0 (g := (mkF m 27 #[.val (.int p0), .val (.int p1), .val (.int p2), .val (.int p3), .val (.int p4)] [(.int (2 : Int32))])) rfl (hb hby d1_27) rfl (by decide) 2 (by decide) (by decide) (by decide) (by decide)
        have ge_b14 : n0 ≤ b14 := Nat.le_trans Z0 (Nat.le_of_eq g14.symm)
        have sz_b14 : h0.size ≤ b14 := Nat.le_trans Kp0.1 (Nat.le_of_eq g14.symm)
        have K15 : Steps p.tables e below _ (T14.setTop (mkF m 29 #[.val (.int p0), .val (.int p1), .val (.int p2), .val (.int p3), .val (.int p4)] [(.ref b14)])) := K13.trans st14
        have Vn14 : Arv Z h14 b14 k14 .byte (2 : Int32) [(.int (0 : Int32)), (.int (0 : Int32))] (.int (0 : Int32)) := V14
        have K16 : Steps p.tables e below _ (T14.setTop (mkF m 32 #[.val (.int p0), .val (.int p1), .val (.int p2), .val (.int p3), .val (.int p4)] [(.int p1), (.int (0 : Int32)), (.ref b14), (.ref b14)])) := K15.trans (by
          show Steps p.tables e below (T14.setTop (mkF m 29 #[.val (.int p0), .val (.int p1), .val (.int p2), .val (.int p3), .val (.int p4)] [(.ref b14)])) _
          refine XS.dup X14.here hx rfl (hb hby d1_29) rfl rfl ?_
          show Steps p.tables e below (T14.setTop (mkF m 30 #[.val (.int p0), .val (.int p1), .val (.int p2), .val (.int p3), .val (.int p4)] [(.ref b14), (.ref b14)])) _
          refine XS.iconst X14.here hx rfl (hb hby d1_30) ?_
          show Steps p.tables e below (T14.setTop (mkF m 31 #[.val (.int p0), .val (.int p1), .val (.int p2), .val (.int p3), .val (.int p4)] [(.int (0 : Int32)), (.ref b14), (.ref b14)])) _
          refine XS.iloadN X14.here hx rfl (hb hby d1_31) rfl ?_
          show Steps p.tables e below (T14.setTop (mkF m 32 #[.val (.int p0), .val (.int p1), .val (.int p2), .val (.int p3), .val (.int p4)] [(.int p1), (.int (0 : Int32)), (.ref b14), (.ref b14)])) _
          exact Steps.refl _)
        obtain ⟨T17, h17, X17, e17, W17, V17, st17⟩ := own_stB X14 hx hZ e14 Vn14 (j := (0 : Int32)) ⟨by decide, by decide⟩ 0 rfl (Nat.le_of_ble_eq_true rfl) (g := (mkF m 32 #[.val (.int p0), .val (.int p1), .val (.int p2), .val (.int p3), .val (.int p4)] [(.int p1), (.int (0 : Int32)), (.ref b14), (.ref b14)])) rfl rfl (hb hby d1_32)
        have K18 : Steps p.tables e below _ (T17.setTop (mkF m 33 #[.val (.int p0), .val (.int p1), .val (.int p2), .val (.int p3), .val (.int p4)] [(.ref b14)])) := K16.trans st17
        have Vw17 : Arv Z h17 b14 k14 .byte (2 : Int32) [(.int (p1.toInt8.toInt32)), (.int (0 : Int32))] (.int (0 : Int32)) := V17
        have N17 := Fr.snoc X17 N0 ge_b14
        have K19 : Steps p.tables e below _ (T17.setTop (mkF m 36 #[.val (.int p0), .val (.int p1), .val (.int p2), .val (.int p3), .val (.int p4)] [(.int p2), (.int (1 : Int32)), (.ref b14), (.ref b14)])) := K18.trans (by
          show Steps p.tables e below (T17.setTop (mkF m 33 #[.val (.int p0), .val (.int p1), .val (.int p2), .val (.int p3), .val (.int p4)] [(.ref b14)])) _
          refine XS.dup X17.here hx rfl (hb hby d1_33) rfl rfl ?_
          show Steps p.tables e below (T17.setTop (mkF m 34 #[.val (.int p0), .val (.int p1), .val (.int p2), .val (.int p3), .val (.int p4)] [(.ref b14), (.ref b14)])) _
          refine XS.iconst X17.here hx rfl (hb hby d1_34) ?_
          show Steps p.tables e below (T17.setTop (mkF m 35 #[.val (.int p0), .val (.int p1), .val (.int p2), .val (.int p3), .val (.int p4)] [(.int (1 : Int32)), (.ref b14), (.ref b14)])) _
          refine XS.iloadN X17.here hx rfl (hb hby d1_35) rfl ?_
          show Steps p.tables e below (T17.setTop (mkF m 36 #[.val (.int p0), .val (.int p1), .val (.int p2), .val (.int p3), .val (.int p4)] [(.int p2), (.int (1 : Int32)), (.ref b14), (.ref b14)])) _
          exact Steps.refl _)
        obtain ⟨T20, h20, X20, e20, W20, V20, st20⟩ := own_stB X17 hx hZ e17 Vw17 (j := (1 : Int32)) ⟨by decide, by decide⟩ 1 rfl (Nat.le_of_ble_eq_true rfl) (g := (mkF m 36 #[.val (.int p0), .val (.int p1), .val (.int p2), .val (.int p3), .val (.int p4)] [(.int p2), (.int (1 : Int32)), (.ref b14), (.ref b14)])) rfl rfl (hb hby d1_36)
        have K21 : Steps p.tables e below _ (T20.setTop (mkF m 37 #[.val (.int p0), .val (.int p1), .val (.int p2), .val (.int p3), .val (.int p4)] [(.ref b14)])) := K19.trans st20
        have Vw20 : Arv Z h20 b14 k14 .byte (2 : Int32) [(.int (p1.toInt8.toInt32)), (.int (p2.toInt8.toInt32))] (.int (0 : Int32)) := V20
        have N20 := Fr.snoc X20 N17 ge_b14
        obtain ⟨fs, hr, hrun, hended, hW, hsame⟩ := X20.leave (v := some (.ref b14)) (fun h => by rw [Bd.returns] at h; cases h)
        have K_53 : Keep h0 h20 [] := (((Kp0.ext E14).wr W17 (Or.inr sz_b14)).wr W20 (Or.inr sz_b14))
        have E_54 : Exa Z h20 b14 "[B" := ((A14.wr W17).wr W20)
        refine ⟨_, _, K21.trans (retOut X20 hx Bd.returns rfl (Or.inr (Or.inr (Or.inr (Or.inr ⟨rfl, rfl, rfl⟩)))) (hb hby d1_37) hr), hrun, hended, _, _, rfl, ?_, ⟨_, rfl⟩, hW, hsame.mono (by decide) (by first | decide | omega)⟩
        show Q_rm1 Z p0 p1 p2 p3 p4 h0 n0 _ T20.heap _
        rw [e20]
        exact ⟨b14, k14, rfl, N20, K_53, E_54, (own_arvext (own_arvn hc23 Vw20) (by rw [hc23]; exact own_pre2 _ _ _ _)), sz_b14⟩
      · have K22 : Steps p.tables e below _ (s₁.setTop (mkF m 40 #[.val (.int p0), .val (.int p1), .val (.int p2), .val (.int p3), .val (.int p4)] [(.int (3 : Int32)), (.int p0)])) := K12.trans (by
          show Steps p.tables e below (s₁.setTop (mkF m 23 #[.val (.int p0), .val (.int p1), .val (.int p2), .val (.int p3), .val (.int p4)] [(.int (2 : Int32)), (.int p0)])) _
          refine XS.icmpYes X0.here hx rfl (pc0 := 23) (pc' := 38) rfl (hb hby d1_23) rfl (feq hc23).2 (by decide) (by decide) ?_
          show Steps p.tables e below (s₁.setTop (mkF m 38 #[.val (.int p0), .val (.int p1), .val (.int p2), .val (.int p3), .val (.int p4)] [])) _
          refine XS.iloadN X0.here hx rfl (hb hby d1_38) rfl ?_
          show Steps p.tables e below (s₁.setTop (mkF m 39 #[.val (.int p0), .val (.int p1), .val (.int p2), .val (.int p3), .val (.int p4)] [(.int p0)])) _
          refine XS.iconst X0.here hx rfl (hb hby d1_39) ?_
          show Steps p.tables e below (s₁.setTop (mkF m 40 #[.val (.int p0), .val (.int p1), .val (.int p2), .val (.int p3), .val (.int p4)] [(.int (3 : Int32)), (.int p0)])) _
          exact Steps.refl _)
        by_cases hc40 : p0 = (3 : Int32)
        · have K23 : Steps p.tables e below _ (s₁.setTop (mkF m 44 #[.val (.int p0), .val (.int p1), .val (.int p2), .val (.int p3), .val (.int p4)] [(.int (3 : Int32))])) := K22.trans (by
            show Steps p.tables e below (s₁.setTop (mkF m 40 #[.val (.int p0), .val (.int p1), .val (.int p2), .val (.int p3), .val (.int p4)] [(.int (3 : Int32)), (.int p0)])) _
            refine XS.icmpNo X0.here hx rfl (hb hby d1_40) rfl (teq hc40).2 ?_
            show Steps p.tables e below (s₁.setTop (mkF m 43 #[.val (.int p0), .val (.int p1), .val (.int p2), .val (.int p3), .val (.int p4)] [])) _
            refine XS.iconst X0.here hx rfl (hb hby d1_43) ?_
            show Steps p.tables e below (s₁.setTop (mkF m 44 #[.val (.int p0), .val (.int p1), .val (.int p2), .val (.int p3), .val (.int p4)] [(.int (3 : Int32))])) _
            exact Steps.refl _)
          obtain ⟨T24, h24, k24, b24, X24, e24, E24, g24, V24, A24, st24⟩ := own_newB X0 hx hZ (hw _ (List.mem_of_getElem? (i := 4) rfl)) e0 (g := (mkF m 44 #[.val (.int p0), .val (.int p1), .val (.int p2), .val (.int p3), .val (.int p4)] [(.int (3 : Int32))])) rfl (hb hby d1_44) rfl (by decide) 3 (by decide) (by decide) (by decide) (by decide)
          have ge_b24 : n0 ≤ b24 := Nat.le_trans Z0 (Nat.le_of_eq g24.symm)
          have sz_b24 : h0.size ≤ b24 := Nat.le_trans Kp0.1 (Nat.le_of_eq g24.symm)
          have K25 : Steps p.tables e below _ (T24.setTop (mkF m 46 #[.val (.int p0), .val (.int p1), .val (.int p2), .val (.int p3), .val (.int p4)] [(.ref b24)])) := K23.trans st24
          have Vn24 : Arv Z h24 b24 k24 .byte (3 : Int32) [(.int (0 : Int32)), (.int (0 : Int32)), (.int (0 : Int32))] (.int (0 : Int32)) := V24
          have K26 : Steps p.tables e below _ (T24.setTop (mkF m 49 #[.val (.int p0), .val (.int p1), .val (.int p2), .val (.int p3), .val (.int p4)] [(.int p1), (.int (0 : Int32)), (.ref b24), (.ref b24)])) := K25.trans (by
            show Steps p.tables e below (T24.setTop (mkF m 46 #[.val (.int p0), .val (.int p1), .val (.int p2), .val (.int p3), .val (.int p4)] [(.ref b24)])) _
            refine XS.dup X24.here hx rfl (hb hby d1_46) rfl rfl ?_
            show Steps p.tables e below (T24.setTop (mkF m 47 #[.val (.int p0), .val (.int p1), .val (.int p2), .val (.int p3), .val (.int p4)] [(.ref b24), (.ref b24)])) _
            refine XS.iconst X24.here hx rfl (hb hby d1_47) ?_
            show Steps p.tables e below (T24.setTop (mkF m 48 #[.val (.int p0), .val (.int p1), .val (.int p2), .val (.int p3), .val (.int p4)] [(.int (0 : Int32)), (.ref b24), (.ref b24)])) _
            refine XS.iloadN X24.here hx rfl (hb hby d1_48) rfl ?_
            show Steps p.tables e below (T24.setTop (mkF m 49 #[.val (.int p0), .val (.int p1), .val (.int p2), .val (.int p3), .val (.int p4)] [(.int p1), (.int (0 : Int32)), (.ref b24), (.ref b24)])) _
            exact Steps.refl _)
          obtain ⟨T27, h27, X27, e27, W27, V27, st27⟩ := own_stB X24 hx hZ e24 Vn24 (j := (0 : Int32)) ⟨by decide, by decide⟩ 0 rfl (Nat.le_of_ble_eq_true rfl) (g := (mkF m 49 #[.val (.int p0), .val (.int p1), .val (.int p2), .val (.int p3), .val (.int p4)] [(.int p1), (.int (0 : Int32)), (.ref b24), (.ref b24)])) rfl rfl (hb hby d1_49)
          have K28 : Steps p.tables e below _ (T27.setTop (mkF m 50 #[.val (.int p0), .val (.int p1), .val (.int p2), .val (.int p3), .val (.int p4)] [(.ref b24)])) := K26.trans st27
          have Vw27 : Arv Z h27 b24 k24 .byte (3 : Int32) [(.int (p1.toInt8.toInt32)), (.int (0 : Int32)), (.int (0 : Int32))] (.int (0 : Int32)) := V27
          have N27 := Fr.snoc X27 N0 ge_b24
          have K29 : Steps p.tables e below _ (T27.setTop (mkF m 53 #[.val (.int p0), .val (.int p1), .val (.int p2), .val (.int p3), .val (.int p4)] [(.int p2), (.int (1 : Int32)), (.ref b24), (.ref b24)])) := K28.trans (by
            show Steps p.tables e below (T27.setTop (mkF m 50 #[.val (.int p0), .val (.int p1), .val (.int p2), .val (.int p3), .val (.int p4)] [(.ref b24)])) _
            refine XS.dup X27.here hx rfl (hb hby d1_50) rfl rfl ?_
            show Steps p.tables e below (T27.setTop (mkF m 51 #[.val (.int p0), .val (.int p1), .val (.int p2), .val (.int p3), .val (.int p4)] [(.ref b24), (.ref b24)])) _
            refine XS.iconst X27.here hx rfl (hb hby d1_51) ?_
            show Steps p.tables e below (T27.setTop (mkF m 52 #[.val (.int p0), .val (.int p1), .val (.int p2), .val (.int p3), .val (.int p4)] [(.int (1 : Int32)), (.ref b24), (.ref b24)])) _
            refine XS.iloadN X27.here hx rfl (hb hby d1_52) rfl ?_
            show Steps p.tables e below (T27.setTop (mkF m 53 #[.val (.int p0), .val (.int p1), .val (.int p2), .val (.int p3), .val (.int p4)] [(.int p2), (.int (1 : Int32)), (.ref b24), (.ref b24)])) _
            exact Steps.refl _)
          obtain ⟨T30, h30, X30, e30, W30, V30, st30⟩ := own_stB X27 hx hZ e27 Vw27 (j := (1 : Int32)) ⟨by decide, by decide⟩ 1 rfl (Nat.le_of_ble_eq_true rfl) (g := (mkF m 53 #[.val (.int p0), .val (.int p1), .val (.int p2), .val (.int p3), .val (.int p4)] [(.int p2), (.int (1 : Int32)), (.ref b24), (.ref b24)])) rfl rfl (hb hby d1_53)
          have K31 : Steps p.tables e below _ (T30.setTop (mkF m 54 #[.val (.int p0), .val (.int p1), .val (.int p2), .val (.int p3), .val (.int p4)] [(.ref b24)])) := K29.trans st30
          have Vw30 : Arv Z h30 b24 k24 .byte (3 : Int32) [(.int (p1.toInt8.toInt32)), (.int (p2.toInt8.toInt32)), (.int (0 : Int32))] (.int (0 : Int32)) := V30
          have N30 := Fr.snoc X30 N27 ge_b24
          have K32 : Steps p.tables e below _ (T30.setTop (mkF m 57 #[.val (.int p0), .val (.int p1), .val (.int p2), .val (.int p3), .val (.int p4)] [(.int p3), (.int (2 : Int32)), (.ref b24), (.ref b24)])) := K31.trans (by
            show Steps p.tables e below (T30.setTop (mkF m 54 #[.val (.int p0), .val (.int p1), .val (.int p2), .val (.int p3), .val (.int p4)] [(.ref b24)])) _
            refine XS.dup X30.here hx rfl (hb hby d1_54) rfl rfl ?_
            show Steps p.tables e below (T30.setTop (mkF m 55 #[.val (.int p0), .val (.int p1), .val (.int p2), .val (.int p3), .val (.int p4)] [(.ref b24), (.ref b24)])) _
            refine XS.iconst X30.here hx rfl (hb hby d1_55) ?_
            show Steps p.tables e below (T30.setTop (mkF m 56 #[.val (.int p0), .val (.int p1), .val (.int p2), .val (.int p3), .val (.int p4)] [(.int (2 : Int32)), (.ref b24), (.ref b24)])) _
            refine XS.iloadN X30.here hx rfl (hb hby d1_56) rfl ?_
            show Steps p.tables e below (T30.setTop (mkF m 57 #[.val (.int p0), .val (.int p1), .val (.int p2), .val (.int p3), .val (.int p4)] [(.int p3), (.int (2 : Int32)), (.ref b24), (.ref b24)])) _
            exact Steps.refl _)
          obtain ⟨T33, h33, X33, e33, W33, V33, st33⟩ := own_stB X30 hx hZ e30 Vw30 (j := (2 : Int32)) ⟨by decide, by decide⟩ 2 rfl (Nat.le_of_ble_eq_true rfl) (g := (mkF m 57 #[.val (.int p0), .val (.int p1), .val (.int p2), .val (.int p3), .val (.int p4)] [(.int p3), (.int (2 : Int32)), (.ref b24), (.ref b24)])) rfl rfl (hb hby d1_57)
          have K34 : Steps p.tables e below _ (T33.setTop (mkF m 58 #[.val (.int p0), .val (.int p1), .val (.int p2), .val (.int p3), .val (.int p4)] [(.ref b24)])) := K32.trans st33
          have Vw33 : Arv Z h33 b24 k24 .byte (3 : Int32) [(.int (p1.toInt8.toInt32)), (.int (p2.toInt8.toInt32)), (.int (p3.toInt8.toInt32))] (.int (0 : Int32)) := V33
          have N33 := Fr.snoc X33 N30 ge_b24
          obtain ⟨fs, hr, hrun, hended, hW, hsame⟩ := X33.leave (v := some (.ref b24)) (fun h => by rw [Bd.returns] at h; cases h)
          have K_55 : Keep h0 h33 [] := ((((Kp0.ext E24).wr W27 (Or.inr sz_b24)).wr W30 (Or.inr sz_b24)).wr W33 (Or.inr sz_b24))
          have E_56 : Exa Z h33 b24 "[B" := (((A24.wr W27).wr W30).wr W33)
          refine ⟨_, _, K34.trans (retOut X33 hx Bd.returns rfl (Or.inr (Or.inr (Or.inr (Or.inr ⟨rfl, rfl, rfl⟩)))) (hb hby d1_58) hr), hrun, hended, _, _, rfl, ?_, ⟨_, rfl⟩, hW, hsame.mono (by decide) (by first | decide | omega)⟩
          show Q_rm1 Z p0 p1 p2 p3 p4 h0 n0 _ T33.heap _
          rw [e33]
          exact ⟨b24, k24, rfl, N33, K_55, E_56, (own_arvext (own_arvn hc40 Vw33) (by rw [hc40]; exact own_pre3 _ _ _ _)), sz_b24⟩
        · have K35 : Steps p.tables e below _ (s₁.setTop (mkF m 60 #[.val (.int p0), .val (.int p1), .val (.int p2), .val (.int p3), .val (.int p4)] [(.int (4 : Int32))])) := K22.trans (by
            show Steps p.tables e below (s₁.setTop (mkF m 40 #[.val (.int p0), .val (.int p1), .val (.int p2), .val (.int p3), .val (.int p4)] [(.int (3 : Int32)), (.int p0)])) _
            refine XS.icmpYes X0.here hx rfl (pc0 := 40) (pc' := 59) rfl (hb hby d1_40) rfl (feq hc40).2 (by decide) (by decide) ?_
            show Steps p.tables e below (s₁.setTop (mkF m 59 #[.val (.int p0), .val (.int p1), .val (.int p2), .val (.int p3), .val (.int p4)] [])) _
            refine XS.iconst X0.here hx rfl (hb hby d1_59) ?_
            show Steps p.tables e below (s₁.setTop (mkF m 60 #[.val (.int p0), .val (.int p1), .val (.int p2), .val (.int p3), .val (.int p4)] [(.int (4 : Int32))])) _
            exact Steps.refl _)
          obtain ⟨T36, h36, k36, b36, X36, e36, E36, g36, V36, A36, st36⟩ := own_newB X0 hx hZ (hw _ (List.mem_of_getElem? (i := 4) rfl)) e0 (g := (mkF m 60 #[.val (.int p0), .val (.int p1), .val (.int p2), .val (.int p3), .val (.int p4)] [(.int (4 : Int32))])) rfl (hb hby d1_60) rfl (by decide) 4 (by decide) (by decide) (by decide) (by decide)
          have ge_b36 : n0 ≤ b36 := Nat.le_trans Z0 (Nat.le_of_eq g36.symm)
          have sz_b36 : h0.size ≤ b36 := Nat.le_trans Kp0.1 (Nat.le_of_eq g36.symm)
          have K37 : Steps p.tables e below _ (T36.setTop (mkF m 62 #[.val (.int p0), .val (.int p1), .val (.int p2), .val (.int p3), .val (.int p4)] [(.ref b36)])) := K35.trans st36
          have Vn36 : Arv Z h36 b36 k36 .byte (4 : Int32) [(.int (0 : Int32)), (.int (0 : Int32)), (.int (0 : Int32)), (.int (0 : Int32))] (.int (0 : Int32)) := V36
          have K38 : Steps p.tables e below _ (T36.setTop (mkF m 65 #[.val (.int p0), .val (.int p1), .val (.int p2), .val (.int p3), .val (.int p4)] [(.int p1), (.int (0 : Int32)), (.ref b36), (.ref b36)])) := K37.trans (by
            show Steps p.tables e below (T36.setTop (mkF m 62 #[.val (.int p0), .val (.int p1), .val (.int p2), .val (.int p3), .val (.int p4)] [(.ref b36)])) _
            refine XS.dup X36.here hx rfl (hb hby d1_62) rfl rfl ?_
            show Steps p.tables e below (T36.setTop (mkF m 63 #[.val (.int p0), .val (.int p1), .val (.int p2), .val (.int p3), .val (.int p4)] [(.ref b36), (.ref b36)])) _
            refine XS.iconst X36.here hx rfl (hb hby d1_63) ?_
            show Steps p.tables e below (T36.setTop (mkF m 64 #[.val (.int p0), .val (.int p1), .val (.int p2), .val (.int p3), .val (.int p4)] [(.int (0 : Int32)), (.ref b36), (.ref b36)])) _
            refine XS.iloadN X36.here hx rfl (hb hby d1_64) rfl ?_
            show Steps p.tables e below (T36.setTop (mkF m 65 #[.val (.int p0), .val (.int p1), .val (.int p2), .val (.int p3), .val (.int p4)] [(.int p1), (.int (0 : Int32)), (.ref b36), (.ref b36)])) _
            exact Steps.refl _)
          obtain ⟨T39, h39, X39, e39, W39, V39, st39⟩ := own_stB X36 hx hZ e36 Vn36 (j := (0 : Int32)) ⟨by decide, by decide⟩ 0 rfl (Nat.le_of_ble_eq_true rfl) (g := (mkF m 65 #[.val (.int p0), .val (.int p1), .val (.int p2), .val (.int p3), .val (.int p4)] [(.int p1), (.int (0 : Int32)), (.ref b36), (.ref b36)])) rfl rfl (hb hby d1_65)
          have K40 : Steps p.tables e below _ (T39.setTop (mkF m 66 #[.val (.int p0), .val (.int p1), .val (.int p2), .val (.int p3), .val (.int p4)] [(.ref b36)])) := K38.trans st39
          have Vw39 : Arv Z h39 b36 k36 .byte (4 : Int32) [(.int (p1.toInt8.toInt32)), (.int (0 : Int32)), (.int (0 : Int32)), (.int (0 : Int32))] (.int (0 : Int32)) := V39
          have N39 := Fr.snoc X39 N0 ge_b36
          have K41 : Steps p.tables e below _ (T39.setTop (mkF m 69 #[.val (.int p0), .val (.int p1), .val (.int p2), .val (.int p3), .val (.int p4)] [(.int p2), (.int (1 : Int32)), (.ref b36), (.ref b36)])) := K40.trans (by
            show Steps p.tables e below (T39.setTop (mkF m 66 #[.val (.int p0), .val (.int p1), .val (.int p2), .val (.int p3), .val (.int p4)] [(.ref b36)])) _
            refine XS.dup X39.here hx rfl (hb hby d1_66) rfl rfl ?_
            show Steps p.tables e below (T39.setTop (mkF m 67 #[.val (.int p0), .val (.int p1), .val (.int p2), .val (.int p3), .val (.int p4)] [(.ref b36), (.ref b36)])) _
            refine XS.iconst X39.here hx rfl (hb hby d1_67) ?_
            show Steps p.tables e below (T39.setTop (mkF m 68 #[.val (.int p0), .val (.int p1), .val (.int p2), .val (.int p3), .val (.int p4)] [(.int (1 : Int32)), (.ref b36), (.ref b36)])) _
            refine XS.iloadN X39.here hx rfl (hb hby d1_68) rfl ?_
            show Steps p.tables e below (T39.setTop (mkF m 69 #[.val (.int p0), .val (.int p1), .val (.int p2), .val (.int p3), .val (.int p4)] [(.int p2), (.int (1 : Int32)), (.ref b36), (.ref b36)])) _
            exact Steps.refl _)
          obtain ⟨T42, h42, X42, e42, W42, V42, st42⟩ := own_stB X39 hx hZ e39 Vw39 (j := (1 : Int32)) ⟨by decide, by decide⟩ 1 rfl (Nat.le_of_ble_eq_true rfl) (g := (mkF m 69 #[.val (.int p0), .val (.int p1), .val (.int p2), .val (.int p3), .val (.int p4)] [(.int p2), (.int (1 : Int32)), (.ref b36), (.ref b36)])) rfl rfl (hb hby d1_69)
          have K43 : Steps p.tables e below _ (T42.setTop (mkF m 70 #[.val (.int p0), .val (.int p1), .val (.int p2), .val (.int p3), .val (.int p4)] [(.ref b36)])) := K41.trans st42
          have Vw42 : Arv Z h42 b36 k36 .byte (4 : Int32) [(.int (p1.toInt8.toInt32)), (.int (p2.toInt8.toInt32)), (.int (0 : Int32)), (.int (0 : Int32))] (.int (0 : Int32)) := V42
          have N42 := Fr.snoc X42 N39 ge_b36
          have K44 : Steps p.tables e below _ (T42.setTop (mkF m 73 #[.val (.int p0), .val (.int p1), .val (.int p2), .val (.int p3), .val (.int p4)] [(.int p3), (.int (2 : Int32)), (.ref b36), (.ref b36)])) := K43.trans (by
            show Steps p.tables e below (T42.setTop (mkF m 70 #[.val (.int p0), .val (.int p1), .val (.int p2), .val (.int p3), .val (.int p4)] [(.ref b36)])) _
            refine XS.dup X42.here hx rfl (hb hby d1_70) rfl rfl ?_
            show Steps p.tables e below (T42.setTop (mkF m 71 #[.val (.int p0), .val (.int p1), .val (.int p2), .val (.int p3), .val (.int p4)] [(.ref b36), (.ref b36)])) _
            refine XS.iconst X42.here hx rfl (hb hby d1_71) ?_
            show Steps p.tables e below (T42.setTop (mkF m 72 #[.val (.int p0), .val (.int p1), .val (.int p2), .val (.int p3), .val (.int p4)] [(.int (2 : Int32)), (.ref b36), (.ref b36)])) _
            refine XS.iloadN X42.here hx rfl (hb hby d1_72) rfl ?_
            show Steps p.tables e below (T42.setTop (mkF m 73 #[.val (.int p0), .val (.int p1), .val (.int p2), .val (.int p3), .val (.int p4)] [(.int p3), (.int (2 : Int32)), (.ref b36), (.ref b36)])) _
            exact Steps.refl _)
          obtain ⟨T45, h45, X45, e45, W45, V45, st45⟩ := own_stB X42 hx hZ e42 Vw42 (j := (2 : Int32)) ⟨by decide, by decide⟩ 2 rfl (Nat.le_of_ble_eq_true rfl) (g := (mkF m 73 #[.val (.int p0), .val (.int p1), .val (.int p2), .val (.int p3), .val (.int p4)] [(.int p3), (.int (2 : Int32)), (.ref b36), (.ref b36)])) rfl rfl (hb hby d1_73)
          have K46 : Steps p.tables e below _ (T45.setTop (mkF m 74 #[.val (.int p0), .val (.int p1), .val (.int p2), .val (.int p3), .val (.int p4)] [(.ref b36)])) := K44.trans st45
          have Vw45 : Arv Z h45 b36 k36 .byte (4 : Int32) [(.int (p1.toInt8.toInt32)), (.int (p2.toInt8.toInt32)), (.int (p3.toInt8.toInt32)), (.int (0 : Int32))] (.int (0 : Int32)) := V45
          have N45 := Fr.snoc X45 N42 ge_b36
          have K47 : Steps p.tables e below _ (T45.setTop (mkF m 78 #[.val (.int p0), .val (.int p1), .val (.int p2), .val (.int p3), .val (.int p4)] [(.int p4), (.int (3 : Int32)), (.ref b36), (.ref b36)])) := K46.trans (by
            show Steps p.tables e below (T45.setTop (mkF m 74 #[.val (.int p0), .val (.int p1), .val (.int p2), .val (.int p3), .val (.int p4)] [(.ref b36)])) _
            refine XS.dup X45.here hx rfl (hb hby d1_74) rfl rfl ?_
            show Steps p.tables e below (T45.setTop (mkF m 75 #[.val (.int p0), .val (.int p1), .val (.int p2), .val (.int p3), .val (.int p4)] [(.ref b36), (.ref b36)])) _
            refine XS.iconst X45.here hx rfl (hb hby d1_75) ?_
            show Steps p.tables e below (T45.setTop (mkF m 76 #[.val (.int p0), .val (.int p1), .val (.int p2), .val (.int p3), .val (.int p4)] [(.int (3 : Int32)), (.ref b36), (.ref b36)])) _
            refine XS.iload X45.here hx rfl (hb hby d1_76) rfl ?_
            show Steps p.tables e below (T45.setTop (mkF m 78 #[.val (.int p0), .val (.int p1), .val (.int p2), .val (.int p3), .val (.int p4)] [(.int p4), (.int (3 : Int32)), (.ref b36), (.ref b36)])) _
            exact Steps.refl _)
          obtain ⟨T48, h48, X48, e48, W48, V48, st48⟩ := own_stB X45 hx hZ e45 Vw45 (j := (3 : Int32)) ⟨by decide, by decide⟩ 3 rfl (Nat.le_of_ble_eq_true rfl) (g := (mkF m 78 #[.val (.int p0), .val (.int p1), .val (.int p2), .val (.int p3), .val (.int p4)] [(.int p4), (.int (3 : Int32)), (.ref b36), (.ref b36)])) rfl rfl (hb hby d1_78)
          have K49 : Steps p.tables e below _ (T48.setTop (mkF m 79 #[.val (.int p0), .val (.int p1), .val (.int p2), .val (.int p3), .val (.int p4)] [(.ref b36)])) := K47.trans st48
          have Vw48 : Arv Z h48 b36 k36 .byte (4 : Int32) [(.int (p1.toInt8.toInt32)), (.int (p2.toInt8.toInt32)), (.int (p3.toInt8.toInt32)), (.int (p4.toInt8.toInt32))] (.int (0 : Int32)) := V48
          have N48 := Fr.snoc X48 N45 ge_b36
          obtain ⟨fs, hr, hrun, hended, hW, hsame⟩ := X48.leave (v := some (.ref b36)) (fun h => by rw [Bd.returns] at h; cases h)
          have K_57 : Keep h0 h48 [] := (((((Kp0.ext E36).wr W39 (Or.inr sz_b36)).wr W42 (Or.inr sz_b36)).wr W45 (Or.inr sz_b36)).wr W48 (Or.inr sz_b36))
          have E_58 : Exa Z h48 b36 "[B" := ((((A36.wr W39).wr W42).wr W45).wr W48)
          refine ⟨_, _, K49.trans (retOut X48 hx Bd.returns rfl (Or.inr (Or.inr (Or.inr (Or.inr ⟨rfl, rfl, rfl⟩)))) (hb hby d1_79) hr), hrun, hended, _, _, rfl, ?_, ⟨_, rfl⟩, hW, hsame.mono (by decide) (by first | decide | omega)⟩
          show Q_rm1 Z p0 p1 p2 p3 p4 h0 n0 _ T48.heap _
          rw [e48]
          exact ⟨b36, k36, rfl, N48, K_57, E_58, (own_arvext (own_arvn (own_n4 hn hc1 hc10 hc23 hc40) Vw48) (by rw [(own_n4 hn hc1 hc10 hc23 hc40)]; exact own_pre4 _ _ _ _)), sz_b36⟩
theorem own_n04 {p n : Int32} (h : ((p &&& (7 : Int32)) % (5 : Int32)) = n) : 0 ≤ n.toInt ∧ n.toInt ≤ 4 := by
  have t := Jvm.RoadKit.c_mask p (7 : Int32) 3 (by decide) (by decide)
  have t' : 0 ≤ (p &&& (7 : Int32)).toInt := by rw [t]; omega
  have r := (Jvm.RoadKit.c_irem (p &&& (7 : Int32)) (5 : Int32) 5 rfl).1 t'
  rw [h] at r
  omega
theorem own_n5 {p n : Int32} (h : ((p &&& (7 : Int32)) % (5 : Int32)) = n) : n = (0 : Int32) ∨ n = (1 : Int32) ∨ n = (2 : Int32) ∨ n = (3 : Int32) ∨ n = (4 : Int32) := by
  have g := own_n04 h
  simp only [← Int32.toInt_inj]
  show n.toInt = 0 ∨ n.toInt = 1 ∨ n.toInt = 2 ∨ n.toInt = 3 ∨ n.toInt = 4
  omega
theorem own_b7 {X b : Int32} (h : ((X &&& (127 : Int32)).toInt8.toInt32) = b) : 0 ≤ b.toInt ∧ b.toInt < 128 := by
  have t := Jvm.RoadKit.c_mask X (127 : Int32) 7 (by decide) (by decide)
  have u := Jvm.RoadKit.c_i2b (X &&& (127 : Int32))
  rw [h] at u
  omega
def own_D (vs : List Value) (nn j va r : Int32) : Prop := (∀ q : Int32, 0 ≤ q.toInt → q.toInt ≤ 3 → vs.getD q.toNatClampNeg (.int (0 : Int32)) = .int (own_by vs q) ∧ (0 ≤ ((own_by vs q) &&& (255 : Int32)).toInt ∧ ((own_by vs q) &&& (255 : Int32)).toInt < 256) ∧ ((q.toInt ≠ 0 ∨ j.toInt = 0) → ((own_by vs q) &&& (255 : Int32)).toInt < 128) ∧ (q.toInt = 0 → j.toInt = 1 → 128 ≤ ((own_by vs q) &&& (255 : Int32)).toInt)) ∧ (0 ≤ nn.toInt ∧ nn.toInt ≤ 4) ∧ (j.toInt = 0 ∨ j.toInt = 1) ∧ (j.toInt = 1 → 2 ≤ nn.toInt) ∧ va.toInt = nn.toInt - j.toInt ∧ (0 ≤ r.toInt ∧ r.toInt ≤ va.toInt)
theorem own_mkD {p0 p1 p2 p3 nn X1 X2 X3 b0 b1 b2 b3 j w va r : Int32} {vs : List Value} (hnn : ((p0 &&& (7 : Int32)) % (5 : Int32)) = nn) (h0 : ((p1 &&& (127 : Int32)).toInt8.toInt32) = b0) (h1 : ((X1 &&& (127 : Int32)).toInt8.toInt32) = b1) (h2 : ((X2 &&& (127 : Int32)).toInt8.toInt32) = b2) (h3 : ((X3 &&& (127 : Int32)).toInt8.toInt32) = b3)
    (hj : (if (p2 &&& (1 : Int32)) = (0 : Int32) then (0 : Int32) else (if nn < (2 : Int32) then (0 : Int32) else (1 : Int32))) = j) (hw : (if j = (0 : Int32) then b0 else ((b0 ||| (128 : Int32)).toInt8.toInt32)) = w) (hva : (if j = (0 : Int32) then nn else (nn - (1 : Int32))) = va) (hr : (if va < (p3 &&& (7 : Int32)) then va else (p3 &&& (7 : Int32))) = r)
    (hvs : [(.int (w.toInt8.toInt32)), (.int (b1.toInt8.toInt32)), (.int (b2.toInt8.toInt32)), (.int (b3.toInt8.toInt32))] = vs) : own_D vs nn j va r := by
  have e0 := own_z0
  have e1 := own_z1
  have e2 := own_z2
  have n1 := own_n04 hnn
  have g0 := own_b7 h0
  have g1 := own_b7 h1
  have g2 := own_b7 h2
  have g3 := own_b7 h3
  have t := Jvm.RoadKit.c_mask p3 (7 : Int32) 3 (by decide) (by decide)
  have t' : 0 ≤ (p3 &&& (7 : Int32)).toInt := by rw [t]; omega
  have J : (j = (0 : Int32) ∧ w = b0 ∧ va = nn) ∨ (j = (1 : Int32) ∧ w = ((b0 ||| (128 : Int32)).toInt8.toInt32) ∧ va = nn - (1 : Int32) ∧ 2 ≤ nn.toInt) := by
    by_cases c : (p2 &&& (1 : Int32)) = (0 : Int32)
    · rw [if_pos c] at hj
      rw [if_pos hj.symm] at hw hva
      exact Or.inl ⟨hj.symm, hw.symm, hva.symm⟩
    · rw [if_neg c] at hj
      by_cases d : nn < (2 : Int32)
      · rw [if_pos d] at hj
        rw [if_pos hj.symm] at hw hva
        exact Or.inl ⟨hj.symm, hw.symm, hva.symm⟩
      · rw [if_neg d] at hj
        have f : ¬ j = (0 : Int32) := by rw [← hj]; decide
        rw [if_neg f] at hw hva
        have d' : ¬ nn.toInt < (2 : Int32).toInt := fun h => d (own_lt32.mpr h)
        exact Or.inr ⟨hj.symm, hw.symm, hva.symm, by omega⟩
  have W : (j.toInt = 0 → w.toInt % 256 < 128) ∧ (j.toInt = 1 → 128 ≤ w.toInt % 256) := by
    rcases J with ⟨a, b, c⟩ | ⟨a, b, c, d⟩
    · rw [a, own_z0, b]; exact ⟨fun _ => by omega, fun h => absurd h (by decide)⟩
    · have e : (128 : Int32).toInt = 128 := rfl
      have o := Jvm.RoadKit.c_or' b0 (128 : Int32) 7 (by decide) 128 (by decide) (by rw [e]; decide) (by omega) (by omega)
      have u := Jvm.RoadKit.c_i2b (b0 ||| (128 : Int32))
      rw [← b] at u
      rw [a, own_z1]; exact ⟨fun h => absurd h (by decide), fun _ => by omega⟩
  have R : 0 ≤ va.toInt ∧ va.toInt = nn.toInt - j.toInt ∧ (j.toInt = 0 ∨ j.toInt = 1) ∧ (j.toInt = 1 → 2 ≤ nn.toInt) := by
    rcases J with ⟨a, b, c⟩ | ⟨a, b, c, d⟩
    · rw [a, own_z0, c]; exact ⟨by omega, by omega, Or.inl rfl, fun h => absurd h (by decide)⟩
    · have s := Jvm.RoadKit.c_isub nn (1 : Int32)
      have s' := Jvm.RoadKit.rng32 (nn - (1 : Int32))
      rw [← c] at s s'
      rw [a, own_z1]; exact ⟨by omega, by omega, Or.inr rfl, fun _ => d⟩
  have r1 : 0 ≤ r.toInt ∧ r.toInt ≤ va.toInt := by
    by_cases c : va < (p3 &&& (7 : Int32))
    · rw [if_pos c] at hr
      rw [← hr]; omega
    · have c' : ¬ va.toInt < (p3 &&& (7 : Int32)).toInt := fun h => c (own_lt32.mpr h)
      rw [if_neg c] at hr
      rw [← hr]; omega
  refine ⟨?_, n1, R.2.2.1, R.2.2.2, R.2.1, r1⟩
  intro q a1 a2
  have hc : q = 0 ∨ q = 1 ∨ q = 2 ∨ q = 3 := by
    simp only [← Int32.toInt_inj]
    show q.toInt = 0 ∨ q.toInt = 1 ∨ q.toInt = 2 ∨ q.toInt = 3
    omega
  have L : ∀ (i : Nat) (b : Int32), q.toNatClampNeg = i → vs.getD i (.int (0 : Int32)) = .int (b.toInt8.toInt32) → vs.getD q.toNatClampNeg (.int (0 : Int32)) = .int (own_by vs q) ∧ ((own_by vs q) &&& (255 : Int32)).toInt = b.toInt % 256 := by
    intro i b k1 k2
    obtain ⟨m1, m2⟩ := own_e vs q i _ k1 k2
    refine ⟨m1, ?_⟩
    rw [m2, own_b255]
  rcases hc with e | e | e | e
  · obtain ⟨k1, k2⟩ := L 0 w (by rw [e]; decide) (by rw [← hvs]; rfl)
    have q0 : q.toInt = 0 := by rw [e]; rfl
    refine ⟨k1, ?_⟩
    rw [k2]
    refine ⟨by omega, ?_, fun _ h => W.2 h⟩
    intro h
    rcases h with h | h
    · exact absurd q0 h
    · exact W.1 h
  · obtain ⟨k1, k2⟩ := L 1 b1 (by rw [e]; decide) (by rw [← hvs]; rfl)
    have q0 : q.toInt = 1 := by rw [e]; rfl
    refine ⟨k1, ?_⟩
    rw [k2]
    exact ⟨by omega, fun _ => by omega, fun h _ => by omega⟩
  · obtain ⟨k1, k2⟩ := L 2 b2 (by rw [e]; decide) (by rw [← hvs]; rfl)
    have q0 : q.toInt = 2 := by rw [e]; rfl
    refine ⟨k1, ?_⟩
    rw [k2]
    exact ⟨by omega, fun _ => by omega, fun h _ => by omega⟩
  · obtain ⟨k1, k2⟩ := L 3 b3 (by rw [e]; decide) (by rw [← hvs]; rfl)
    have q0 : q.toInt = 3 := by rw [e]; rfl
    refine ⟨k1, ?_⟩
    rw [k2]
    exact ⟨by omega, fun _ => by omega, fun h _ => by omega⟩
theorem own_r1 {vs : List Value} {nn j va r : Int32} (D : own_D vs nn j va r) (T : Int) (hT : 1 ≤ T ∧ T ≤ r.toInt) (pos : Int32) (h1 : T = 1 → pos.toInt = 0) (h2 : 2 ≤ T → pos.toInt = T - 1 + j.toInt) : rok 10 vs nn pos (0 : Int32) ∧ (rl 10 vs pos (0 : Int64) (0 : Int32)).2.toInt = T + j.toInt := by
  obtain ⟨B, n1, j1, j2, v1, r1⟩ := D
  have one : ∀ s : Int, pos.toInt = s → 0 ≤ s → s ≤ 3 → s + 1 ≤ nn.toInt → (s ≠ 0 ∨ j.toInt = 0) → rok 10 vs nn pos (0 : Int32) ∧ (rl 10 vs pos (0 : Int64) (0 : Int32)).2.toInt = s + 1 := by
    intro s e g1 g2 g3 g4
    obtain ⟨b1, b2, b3, b4⟩ := B pos (by omega) (by omega)
    have b5 := b3 (by rw [e]; exact g4)
    have H : own_okb vs s 1 ((own_by vs pos) &&& (255 : Int32)).toInt := by
      intro i q hi hq
      have i0 : i = 0 := by omega
      subst i0
      have eq : q = pos := Int32.toInt_inj.mp (by omega)
      subst eq
      refine ⟨b1, ?_⟩
      rw [if_neg (by omega)]
      rw [own_p0]
      omega
    obtain ⟨c1, c2, c3⟩ := own_rd0 vs nn pos s 1 ((own_by vs pos) &&& (255 : Int32)).toInt (by omega) g1 (by omega) (by omega) g3 H e
    exact ⟨c1, c2⟩
  by_cases c : T = 1 ∧ j.toInt = 1
  · have p0 := h1 c.1
    have nn2 := j2 c.2
    obtain ⟨b1, b2, b3, b4⟩ := B pos (by omega) (by omega)
    have b5 := b4 p0 c.2
    have o1 : ∀ q : Int32, q.toInt = 1 → vs.getD q.toNatClampNeg (.int (0 : Int32)) = .int (own_by vs q) ∧ (0 ≤ ((own_by vs q) &&& (255 : Int32)).toInt ∧ ((own_by vs q) &&& (255 : Int32)).toInt < 128) := by
      intro q hq
      obtain ⟨d1, d2, d3, d4⟩ := B q (by omega) (by omega)
      exact ⟨d1, d2.1, d3 (Or.inl (by omega))⟩
    have f1 := (o1 (1 : Int32) rfl).2
    have H : own_okb vs 0 2 (((own_by vs pos) &&& (255 : Int32)).toInt - 128 + 128 * ((own_by vs (1 : Int32)) &&& (255 : Int32)).toInt) := by
      intro i q hi hq
      have ic : i = 0 ∨ i = 1 := by omega
      rcases ic with i0 | i0
      · subst i0
        have eq : q = pos := Int32.toInt_inj.mp (by omega)
        subst eq
        refine ⟨b1, ?_⟩
        rw [if_pos (by omega)]
        rw [own_p0]
        omega
      · subst i0
        have eq : q = (1 : Int32) := Int32.toInt_inj.mp (by rw [own_z1]; omega)
        rw [eq]
        refine ⟨(o1 (1 : Int32) rfl).1, ?_⟩
        rw [if_neg (by omega)]
        rw [own_p1]
        omega
    obtain ⟨c1, c2, c3⟩ := own_rd0 vs nn pos 0 2 (((own_by vs pos) &&& (255 : Int32)).toInt - 128 + 128 * ((own_by vs (1 : Int32)) &&& (255 : Int32)).toInt) (by omega) (by omega) (by omega) (by omega) (by omega) H p0
    exact ⟨c1, by omega⟩
  · by_cases d : T = 1
    · have p0 := h1 d
      obtain ⟨c1, c2⟩ := one 0 p0 (by omega) (by omega) (by omega) (Or.inr (by omega))
      exact ⟨c1, by omega⟩
    · have p0 := h2 (by omega)
      obtain ⟨c1, c2⟩ := one (T - 1 + j.toInt) p0 (by omega) (by omega) (by omega) (Or.inl (by omega))
      exact ⟨c1, by omega⟩
def own_Q (r p j T : Int) : Prop := (T = 0 → p = 0) ∧ (r = 0 → p = 0) ∧ (1 ≤ r → r ≤ T → p = r + j) ∧ (1 ≤ T → T ≤ r → p = T + j)
theorem own_Q0 (r j : Int) : own_Q r (0 : Int32).toInt j (1 - 1) := by
  rw [own_z0]
  exact ⟨fun _ => rfl, fun _ => rfl, by intro a b; omega, by intro a b; omega⟩
theorem own_r2 {vs : List Value} {nn j va r : Int32} (D : own_D vs nn j va r) (t : Int32) (T : Int) (ht : t.toInt = T) (hT : 1 ≤ T ∧ T ≤ 4) {pos : Int32} (Q : own_Q r.toInt pos.toInt j.toInt (T - 1)) (c : ¬ r < t) : rok 10 vs nn pos (0 : Int32) ∧ (rl 10 vs pos (0 : Int64) (0 : Int32)).2.toInt = T + j.toInt := by
  obtain ⟨q0, q1, q2, q3⟩ := Q
  have c' : ¬ r.toInt < t.toInt := fun h => c (own_lt32.mpr h)
  exact own_r1 D T (by omega) pos (by intro a; exact q0 (by omega)) (by intro a; exact q3 (by omega) (by omega))
theorem own_q {vs : List Value} {nn j va r : Int32} (D : own_D vs nn j va r) (t : Int32) (T : Int) (ht : t.toInt = T) (hT : 1 ≤ T ∧ T ≤ 4) {pos pos' : Int32} (Q : own_Q r.toInt pos.toInt j.toInt (T - 1)) (h : (if r < t then pos else (rl 10 vs pos (0 : Int64) (0 : Int32)).2) = pos') : own_Q r.toInt pos'.toInt j.toInt (T + 1 - 1) := by
  have dr := D.2.2.2.2.2.1
  by_cases c : r < t
  · obtain ⟨q0, q1, q2, q3⟩ := Q
    rw [if_pos c] at h
    subst h
    have c' := own_lt32.mp c
    exact ⟨by intro a; omega, q1, by intro a b; exact q2 a (by omega), by intro a b; omega⟩
  · have c' : ¬ r.toInt < t.toInt := fun h => c (own_lt32.mpr h)
    have e := (own_r2 D t T ht hT Q c).2
    rw [if_neg c] at h
    rw [h] at e
    exact ⟨by intro a; omega, by intro a; omega, by intro a b; omega, by intro a b; omega⟩
theorem own_oo {vs : List Value} {nn j va r : Int32} (D : own_D vs nn j va r) (t : Int32) (T : Int) (ht : t.toInt = T) (hT : 1 ≤ T ∧ T ≤ 4) {pos o o' : Int32} (Q : own_Q r.toInt pos.toInt j.toInt (T - 1)) (ho : o = (1 : Int32)) (h : (if r < t then o else (if o = (0 : Int32) then (0 : Int32) else (if ((if (rl 10 vs pos (0 : Int64) (0 : Int32)).2 = nn then (1 : Int32) else (0 : Int32)) &&& 1) = (if va = t then (1 : Int32) else (0 : Int32)) then (1 : Int32) else (0 : Int32)))) = o') : o' = (1 : Int32) := by
  by_cases c : r < t
  · rw [if_pos c] at h; exact h.symm.trans ho
  · have e := (own_r2 D t T ht hT Q c).2
    have v1 := D.2.2.2.2.1
    have no : ¬ o = (0 : Int32) := by rw [ho]; decide
    rw [if_neg c, if_neg no] at h
    by_cases d : va = t
    · have d' : (rl 10 vs pos (0 : Int64) (0 : Int32)).2 = nn := Int32.toInt_inj.mp (by rw [d] at v1; omega)
      rw [if_pos d', if_pos d] at h
      rw [← h] <;> first | rfl | decide
    · have d' : ¬ (rl 10 vs pos (0 : Int64) (0 : Int32)).2 = nn := by
        intro k; apply d; apply Int32.toInt_inj.mp; rw [k] at e; omega
      rw [if_neg d', if_neg d] at h
      rw [← h] <;> first | rfl | decide
theorem own_o0 {vs : List Value} {nn j va r a b o : Int32} (D : own_D vs nn j va r) (h1 : ((if (0 : Int32) = nn then (1 : Int32) else (0 : Int32)) &&& 1) = a) (h2 : (if va = (0 : Int32) then (1 : Int32) else (0 : Int32)) = b) (h3 : (if a = b then (1 : Int32) else (0 : Int32)) = o) : o = (1 : Int32) := by
  obtain ⟨B, n1, j1, j2, v1, r1⟩ := D
  have e0 := own_z0
  by_cases d : va = (0 : Int32)
  · have d' : (0 : Int32) = nn := by
      apply Int32.toInt_inj.mp
      rw [d] at v1
      rcases j1 with j0 | j0
      · omega
      · have := j2 j0; omega
    rw [if_pos d] at h2
    rw [if_pos d'] at h1
    rw [← h3, ← h1, ← h2] <;> first | rfl | decide
  · have d' : ¬ (0 : Int32) = nn := by
      intro k; apply d; apply Int32.toInt_inj.mp; rw [← k] at v1 j2 n1
      rcases j1 with j0 | j0
      · omega
      · have := j2 j0; omega
    rw [if_neg d] at h2
    rw [if_neg d'] at h1
    rw [← h3, ← h1, ← h2] <;> first | rfl | decide
theorem own_last {vs : List Value} {nn j va r pos a o f : Int32} (D : own_D vs nn j va r) (Q : own_Q r.toInt pos.toInt j.toInt (4 + 1 - 1)) (h1 : ((if pos = nn then (1 : Int32) else (0 : Int32)) &&& 1) = a) (ho : o = (1 : Int32)) (h : (if o = (0 : Int32) then (0 : Int32) else (if a = (if r = va then (1 : Int32) else (0 : Int32)) then (1 : Int32) else (0 : Int32))) = f) : (f &&& 1) = (1 : Int32) := by
  obtain ⟨B, n1, j1, j2, v1, r1⟩ := D
  obtain ⟨q0, q1, q2, q3⟩ := Q
  have no : ¬ o = (0 : Int32) := by rw [ho]; decide
  rw [if_neg no] at h
  by_cases d : r = va
  · have d' : pos = nn := by
      apply Int32.toInt_inj.mp
      rw [d] at q1 q2
      by_cases z : va.toInt = 0
      · have := q1 z
        rcases j1 with j0 | j0
        · omega
        · have := j2 j0; omega
      · have := q2 (by omega) (by omega); omega
    rw [if_pos d'] at h1
    rw [if_pos d] at h
    rw [← h, ← h1] <;> first | rfl | decide
  · have d' : ¬ pos = nn := by
      intro k; apply d; apply Int32.toInt_inj.mp
      rw [k] at q1 q2
      by_cases z : r.toInt = 0
      · have := q1 z; omega
      · have := q2 (by omega) (by omega); omega
    rw [if_neg d'] at h1
    rw [if_neg d] at h
    rw [← h, ← h1] <;> first | rfl | decide

theorem pd_1 : parseMethodDescriptor "(IBBBB)[B" = some ⟨[.int, .byte, .byte, .byte, .byte], some (.array .byte)⟩ := by decide +kernel
theorem pd_2 : parseMethodDescriptor "([B)V" = some ⟨[(.array .byte)], none⟩ := by decide +kernel
theorem pd_3 : parseMethodDescriptor "()Z" = some ⟨[], some .boolean⟩ := by decide +kernel
theorem pd_4 : parseMethodDescriptor "(II)I" = some ⟨[.int, .int], some .int⟩ := by decide +kernel
theorem pd_5 : parseMethodDescriptor "()J" = some ⟨[], some .long⟩ := by decide +kernel
def Q_rm0 (n0 : Nat) (v : Option Value) (L : List Loc) : Prop := v = some (.int 1) ∧ Fr n0 L
theorem pn_0 : plainName "com/example/thin_gateway/thingateway/avro/AvroDecoderIsAtEndPinLaw" = true := by first | (simp [plainName, overriddenIn]; done) | decide +kernel
theorem ef_0 (m : MethodId) (x0 : Int32) (x1 : Int32) (x2 : Int32) (x3 : Int32) : entryFrame m #[(.int x0), (.int x1), (.int x2), (.int x3)] maxLocals = mkF m 0 #[.val (.int x0), .val (.int x1), .val (.int x2), .val (.int x3), .unset, .unset, .unset, .unset, .unset, .unset, .unset, .unset, .unset, .unset, .unset, .unset] [] := by first | (simp [entryFrame, mkF, argsToLocals, Value.category, maxLocals]; done) | rfl
set_option maxRecDepth 65536 in
set_option maxHeartbeats 4000000 in
theorem own_law_0 (p0 : Int32) (p1 : Int32) (p2 : Int32) (p3 : Int32) (nn : Int32) (ba0 : Int32) (ba1 : Int32) (ba2 : Int32) (ba3 : Int32) (v7_0 : Int32) (v14_0 : Int32) (v19_0 : Int32) (vsb : List Value) (r39 : Int32) (v42_0 : Int32) (v46_0 : Int32) (r52 : Int32) (v56_0 : Int32) (v56_1 : Int32) (v87_0 : Int32) (v87_1 : Int32) (v117_0 : Int32) (v117_1 : Int32) (v147_0 : Int32) (v147_1 : Int32) (r178 : Int32) (v181_0 : Int32) (hnn : ((p0 &&& (7 : Int32)) % (5 : Int32)) = nn) (hba0 : ((p1 &&& (127 : Int32)).toInt8.toInt32) = ba0) (hba1 : ((((p1.toUInt32 >>> ((8 : Int32) &&& 31).toUInt32).toInt32) &&& (127 : Int32)).toInt8.toInt32) = ba1) (hba2 : ((((p1.toUInt32 >>> ((16 : Int32) &&& 31).toUInt32).toInt32) &&& (127 : Int32)).toInt8.toInt32) = ba2) (hba3 : ((((p1.toUInt32 >>> ((24 : Int32) &&& 31).toUInt32).toInt32) &&& (127 : Int32)).toInt8.toInt32) = ba3) (hv7_0 : (if (p2 &&& (1 : Int32)) = (0 : Int32) then (0 : Int32) else (if nn < (2 : Int32) then (0 : Int32) else (1 : Int32))) = v7_0) (hv14_0 : (if v7_0 = (0 : Int32) then ba0 else ((ba0 ||| (128 : Int32)).toInt8.toInt32)) = v14_0) (hv19_0 : (if v7_0 = (0 : Int32) then nn else (nn - (1 : Int32))) = v19_0) (hvsb : [(.int (v14_0.toInt8.toInt32)), (.int (ba1.toInt8.toInt32)), (.int (ba2.toInt8.toInt32)), (.int (ba3.toInt8.toInt32))] = vsb) (hr39 : ((if (0 : Int32) = nn then (1 : Int32) else (0 : Int32)) &&& 1) = r39) (hv42_0 : (if v19_0 = (0 : Int32) then (1 : Int32) else (0 : Int32)) = v42_0) (hv46_0 : (if r39 = v42_0 then (1 : Int32) else (0 : Int32)) = v46_0) (hr52 : (if v19_0 < (p3 &&& (7 : Int32)) then v19_0 else (p3 &&& (7 : Int32))) = r52) (hv56_0 : (if r52 < (1 : Int32) then v46_0 else (if v46_0 = (0 : Int32) then (0 : Int32) else (if ((if ((rl 10 vsb (0 : Int32) (0 : Int64) (0 : Int32)).2) = nn then (1 : Int32) else (0 : Int32)) &&& 1) = (if v19_0 = (1 : Int32) then (1 : Int32) else (0 : Int32)) then (1 : Int32) else (0 : Int32)))) = v56_0) (hv56_1 : (if r52 < (1 : Int32) then (0 : Int32) else (rl 10 vsb (0 : Int32) (0 : Int64) (0 : Int32)).2) = v56_1) (hv87_0 : (if r52 < (2 : Int32) then v56_0 else (if v56_0 = (0 : Int32) then (0 : Int32) else (if ((if ((rl 10 vsb v56_1 (0 : Int64) (0 : Int32)).2) = nn then (1 : Int32) else (0 : Int32)) &&& 1) = (if v19_0 = (2 : Int32) then (1 : Int32) else (0 : Int32)) then (1 : Int32) else (0 : Int32)))) = v87_0) (hv87_1 : (if r52 < (2 : Int32) then v56_1 else (rl 10 vsb v56_1 (0 : Int64) (0 : Int32)).2) = v87_1) (hv117_0 : (if r52 < (3 : Int32) then v87_0 else (if v87_0 = (0 : Int32) then (0 : Int32) else (if ((if ((rl 10 vsb v87_1 (0 : Int64) (0 : Int32)).2) = nn then (1 : Int32) else (0 : Int32)) &&& 1) = (if v19_0 = (3 : Int32) then (1 : Int32) else (0 : Int32)) then (1 : Int32) else (0 : Int32)))) = v117_0) (hv117_1 : (if r52 < (3 : Int32) then v87_1 else (rl 10 vsb v87_1 (0 : Int64) (0 : Int32)).2) = v117_1) (hv147_0 : (if r52 < (4 : Int32) then v117_0 else (if v117_0 = (0 : Int32) then (0 : Int32) else (if ((if ((rl 10 vsb v117_1 (0 : Int64) (0 : Int32)).2) = nn then (1 : Int32) else (0 : Int32)) &&& 1) = (if v19_0 = (4 : Int32) then (1 : Int32) else (0 : Int32)) then (1 : Int32) else (0 : Int32)))) = v147_0) (hv147_1 : (if r52 < (4 : Int32) then v117_1 else (rl 10 vsb v117_1 (0 : Int64) (0 : Int32)).2) = v147_1) (hr178 : ((if v147_1 = nn then (1 : Int32) else (0 : Int32)) &&& 1) = r178) (hv181_0 : (if v147_0 = (0 : Int32) then (0 : Int32) else (if r178 = (if r52 = v19_0 then (1 : Int32) else (0 : Int32)) then (1 : Int32) else (0 : Int32))) = v181_0) : (v181_0 &&& 1) = (1 : Int32) := by
  have hD := own_mkD hnn hba0 hba1 hba2 hba3 hv7_0 hv14_0 hv19_0 hr52 hvsb
  have hQ1 := own_Q0 r52.toInt v7_0.toInt
  have o1 := own_o0 hD hr39 hv42_0 hv46_0
  have hQ2 := own_q hD (1 : Int32) 1 rfl (by decide) hQ1 hv56_1
  have o2 := own_oo hD (1 : Int32) 1 rfl (by decide) hQ1 o1 hv56_0
  have hQ3 := own_q hD (2 : Int32) 2 rfl (by decide) hQ2 hv87_1
  have o3 := own_oo hD (2 : Int32) 2 rfl (by decide) hQ2 o2 hv87_0
  have hQ4 := own_q hD (3 : Int32) 3 rfl (by decide) hQ3 hv117_1
  have o4 := own_oo hD (3 : Int32) 3 rfl (by decide) hQ3 o3 hv117_0
  have hQ5 := own_q hD (4 : Int32) 4 rfl (by decide) hQ4 hv147_1
  have o5 := own_oo hD (4 : Int32) 4 rfl (by decide) hQ4 o4 hv147_0
  exact own_last hD hQ5 hr178 o5 hv181_0
set_option maxRecDepth 65536 in
set_option maxHeartbeats 40000000 in
theorem rm0 (l : Launch) (Z : State) (a0 : Array Value) (hw : ∀ d ∈ tables_1, d.before a0 Z = true) (ws : List Jvm.Cond) (p0 : Int32) (p1 : Int32) (p2 : Int32) (p3 : Int32) (h0 : Heap) (n0 : Nat) (Z0 : n0 ≤ h0.size) :
    MetFree l x (head1 (Jvm.Cond.code x code maxLocals ret :: ws) room_1) (fun a U => a = #[(.int p0), (.int p1), (.int p2), (.int p3)] ∧ Z.Warmed39 U.vm ∧ U.heap = h0) (fun _ _ _ _ _ => True) (fun _ U o U' => ∃ v L, o = .returned v ∧ Q_rm0 n0 v L ∧ ReturnedEndW U o U' L 4 30) := by
  refine MetFree.of_bodySF (plainFor_of_name pn_0) hisR ?_
  intro p e s m args below meth c s₁ Bd hml0 hP hK
  obtain ⟨rfl, hZ, hh⟩ := hP
  have hx := Bd.exec
  have hby := Bd.bytes
  have hml : c.maxLocals = 16 := hml0
  have hown : s.vm.findClass "com/example/thin_gateway/thingateway/avro/AvroDecoderIsAtEndPinLaw" = some m.cls := findClass_of_methodNamed Bd.named
  have hnm := (name_of_methodNamed Bd.named Bd.method).1
  have X0 : Stand p l e room_1 s m #[(.int p0), (.int p1), (.int p2), (.int p3)] below meth c s₁ [] 0 0 := Stand.of_body Bd
  have e0 : s₁.heap = h0 := by rw [← hh, Bd.state]; rfl
  have N0 := Fr.nil n0
  have K0 : Steps p.tables e below (s₁.setTop (entryFrame m #[(.int p0), (.int p1), (.int p2), (.int p3)] maxLocals)) (s₁.setTop (mkF m 0 #[.val (.int p0), .val (.int p1), .val (.int p2), .val (.int p3), .unset, .unset, .unset, .unset, .unset, .unset, .unset, .unset, .unset, .unset, .unset, .unset] [])) := castTop (ef_0 m p0 p1 p2 p3) (Steps.refl _)
  have K1 : Steps p.tables e below _ (s₁.setTop (mkF m 6 #[.val (.int p0), .val (.int p1), .val (.int p2), .val (.int p3), .unset, .unset, .unset, .unset, .unset, .unset, .unset, .unset, .unset, .unset, .unset, .unset] [(.int ((p0 &&& (7 : Int32)) % (5 : Int32)))])) := K0.trans (by
    refine XS.iloadN X0.here hx rfl (hb hby at_0) rfl ?_
    refine XS.bipush X0.here hx rfl (hb hby at_1) ?_
    refine XS.iand X0.here hx rfl (hb hby at_3) rfl ?_
    refine XS.iconst X0.here hx rfl (hb hby at_4) ?_
    refine iremM X0 hx rfl (hb hby at_5) rfl (by decide) ?_
    show Steps p.tables e below (s₁.setTop (mkF m 6 #[.val (.int p0), .val (.int p1), .val (.int p2), .val (.int p3), .unset, .unset, .unset, .unset, .unset, .unset, .unset, .unset, .unset, .unset, .unset, .unset] [(.int ((p0 &&& (7 : Int32)) % (5 : Int32)))])) _
    exact Steps.refl _)
  obtain ⟨nn, hnn⟩ : ∃ z : Int32, ((p0 &&& (7 : Int32)) % (5 : Int32)) = z := ⟨_, rfl⟩
  rw [hnn] at K1
  have K2 : Steps p.tables e below _ (s₁.setTop (mkF m 13 #[.val (.int p0), .val (.int p1), .val (.int p2), .val (.int p3), .val (.int nn), .unset, .unset, .unset, .unset, .unset, .unset, .unset, .unset, .unset, .unset, .unset] [(.int ((p1 &&& (127 : Int32)).toInt8.toInt32))])) := K1.trans (by
    refine XS.istore X0.here hx rfl (hb hby at_6) rfl (l' := #[.val (.int p0), .val (.int p1), .val (.int p2), .val (.int p3), .val (.int nn), .unset, .unset, .unset, .unset, .unset, .unset, .unset, .unset, .unset, .unset, .unset]) rfl ?_
    refine XS.iloadN X0.here hx rfl (hb hby at_8) rfl ?_
    refine XS.bipush X0.here hx rfl (hb hby at_9) ?_
    refine XS.iand X0.here hx rfl (hb hby at_11) rfl ?_
    refine XS.i2b X0.here hx rfl (hb hby at_12) rfl ?_
    show Steps p.tables e below (s₁.setTop (mkF m 13 #[.val (.int p0), .val (.int p1), .val (.int p2), .val (.int p3), .val (.int nn), .unset, .unset, .unset, .unset, .unset, .unset, .unset, .unset, .unset, .unset, .unset] [(.int ((p1 &&& (127 : Int32)).toInt8.toInt32))])) _
    exact Steps.refl _)
  obtain ⟨ba0, hba0⟩ : ∃ z : Int32, ((p1 &&& (127 : Int32)).toInt8.toInt32) = z := ⟨_, rfl⟩
  rw [hba0] at K2
  have K3 : Steps p.tables e below _ (s₁.setTop (mkF m 23 #[.val (.int p0), .val (.int p1), .val (.int p2), .val (.int p3), .val (.int nn), .val (.int ba0), .unset, .unset, .unset, .unset, .unset, .unset, .unset, .unset, .unset, .unset] [(.int ((((p1.toUInt32 >>> ((8 : Int32) &&& 31).toUInt32).toInt32) &&& (127 : Int32)).toInt8.toInt32))])) := K2.trans (by
    refine XS.istore X0.here hx rfl (hb hby at_13) rfl (l' := #[.val (.int p0), .val (.int p1), .val (.int p2), .val (.int p3), .val (.int nn), .val (.int ba0), .unset, .unset, .unset, .unset, .unset, .unset, .unset, .unset, .unset, .unset]) rfl ?_
    refine XS.iloadN X0.here hx rfl (hb hby at_15) rfl ?_
    refine XS.bipush X0.here hx rfl (hb hby at_16) ?_
    refine XS.iushr X0.here hx rfl (hb hby at_18) rfl ?_
    refine XS.bipush X0.here hx rfl (hb hby at_19) ?_
    show Steps p.tables e below (s₁.setTop (mkF m 21 #[.val (.int p0), .val (.int p1), .val (.int p2), .val (.int p3), .val (.int nn), .val (.int ba0), .unset, .unset, .unset, .unset, .unset, .unset, .unset, .unset, .unset, .unset] [(.int (127 : Int32)), (.int ((p1.toUInt32 >>> ((8 : Int32) &&& 31).toUInt32).toInt32))])) _
    refine XS.iand X0.here hx rfl (hb hby at_21) rfl ?_
    refine XS.i2b X0.here hx rfl (hb hby at_22) rfl ?_
    exact Steps.refl _)
  obtain ⟨ba1, hba1⟩ : ∃ z : Int32, ((((p1.toUInt32 >>> ((8 : Int32) &&& 31).toUInt32).toInt32) &&& (127 : Int32)).toInt8.toInt32) = z := ⟨_, rfl⟩
  rw [hba1] at K3
  have K4 : Steps p.tables e below _ (s₁.setTop (mkF m 33 #[.val (.int p0), .val (.int p1), .val (.int p2), .val (.int p3), .val (.int nn), .val (.int ba0), .val (.int ba1), .unset, .unset, .unset, .unset, .unset, .unset, .unset, .unset, .unset] [(.int ((((p1.toUInt32 >>> ((16 : Int32) &&& 31).toUInt32).toInt32) &&& (127 : Int32)).toInt8.toInt32))])) := K3.trans (by
    refine XS.istore X0.here hx rfl (hb hby at_23) rfl (l' := #[.val (.int p0), .val (.int p1), .val (.int p2), .val (.int p3), .val (.int nn), .val (.int ba0), .val (.int ba1), .unset, .unset, .unset, .unset, .unset, .unset, .unset, .unset, .unset]) rfl ?_
    refine XS.iloadN X0.here hx rfl (hb hby at_25) rfl ?_
    refine XS.bipush X0.here hx rfl (hb hby at_26) ?_
    refine XS.iushr X0.here hx rfl (hb hby at_28) rfl ?_
    refine XS.bipush X0.here hx rfl (hb hby at_29) ?_
    show Steps p.tables e below (s₁.setTop (mkF m 31 #[.val (.int p0), .val (.int p1), .val (.int p2), .val (.int p3), .val (.int nn), .val (.int ba0), .val (.int ba1), .unset, .unset, .unset, .unset, .unset, .unset, .unset, .unset, .unset] [(.int (127 : Int32)), (.int ((p1.toUInt32 >>> ((16 : Int32) &&& 31).toUInt32).toInt32))])) _
    refine XS.iand X0.here hx rfl (hb hby at_31) rfl ?_
    refine XS.i2b X0.here hx rfl (hb hby at_32) rfl ?_
    exact Steps.refl _)
  obtain ⟨ba2, hba2⟩ : ∃ z : Int32, ((((p1.toUInt32 >>> ((16 : Int32) &&& 31).toUInt32).toInt32) &&& (127 : Int32)).toInt8.toInt32) = z := ⟨_, rfl⟩
  rw [hba2] at K4
  have K5 : Steps p.tables e below _ (s₁.setTop (mkF m 43 #[.val (.int p0), .val (.int p1), .val (.int p2), .val (.int p3), .val (.int nn), .val (.int ba0), .val (.int ba1), .val (.int ba2), .unset, .unset, .unset, .unset, .unset, .unset, .unset, .unset] [(.int ((((p1.toUInt32 >>> ((24 : Int32) &&& 31).toUInt32).toInt32) &&& (127 : Int32)).toInt8.toInt32))])) := K4.trans (by
    refine XS.istore X0.here hx rfl (hb hby at_33) rfl (l' := #[.val (.int p0), .val (.int p1), .val (.int p2), .val (.int p3), .val (.int nn), .val (.int ba0), .val (.int ba1), .val (.int ba2), .unset, .unset, .unset, .unset, .unset, .unset, .unset, .unset]) rfl ?_
    refine XS.iloadN X0.here hx rfl (hb hby at_35) rfl ?_
    refine XS.bipush X0.here hx rfl (hb hby at_36) ?_
    refine XS.iushr X0.here hx rfl (hb hby at_38) rfl ?_
    refine XS.bipush X0.here hx rfl (hb hby at_39) ?_
    show Steps p.tables e below (s₁.setTop (mkF m 41 #[.val (.int p0), .val (.int p1), .val (.int p2), .val (.int p3), .val (.int nn), .val (.int ba0), .val (.int ba1), .val (.int ba2), .unset, .unset, .unset, .unset, .unset, .unset, .unset, .unset] [(.int (127 : Int32)), (.int ((p1.toUInt32 >>> ((24 : Int32) &&& 31).toUInt32).toInt32))])) _
    refine XS.iand X0.here hx rfl (hb hby at_41) rfl ?_
    refine XS.i2b X0.here hx rfl (hb hby at_42) rfl ?_
    exact Steps.refl _)
  obtain ⟨ba3, hba3⟩ : ∃ z : Int32, ((((p1.toUInt32 >>> ((24 : Int32) &&& 31).toUInt32).toInt32) &&& (127 : Int32)).toInt8.toInt32) = z := ⟨_, rfl⟩
  rw [hba3] at K5
  have K6 : Steps p.tables e below _ (s₁.setTop (mkF m 48 #[.val (.int p0), .val (.int p1), .val (.int p2), .val (.int p3), .val (.int nn), .val (.int ba0), .val (.int ba1), .val (.int ba2), .val (.int ba3), .unset, .unset, .unset, .unset, .unset, .unset, .unset] [(.int (p2 &&& (1 : Int32)))])) := K5.trans (by
    refine XS.istore X0.here hx rfl (hb hby at_43) rfl (l' := #[.val (.int p0), .val (.int p1), .val (.int p2), .val (.int p3), .val (.int nn), .val (.int ba0), .val (.int ba1), .val (.int ba2), .val (.int ba3), .unset, .unset, .unset, .unset, .unset, .unset, .unset]) rfl ?_
    refine XS.iloadN X0.here hx rfl (hb hby at_45) rfl ?_
    refine XS.iconst X0.here hx rfl (hb hby at_46) ?_
    refine XS.iand X0.here hx rfl (hb hby at_47) rfl ?_
    exact Steps.refl _)
  obtain ⟨v7_0, hv7_0, S7⟩ : ∃ (v7_0 : Int32), (if (p2 &&& (1 : Int32)) = (0 : Int32) then (0 : Int32) else (if nn < (2 : Int32) then (0 : Int32) else (1 : Int32))) = v7_0 ∧ Steps p.tables e below (s₁.setTop (mkF m 48 #[.val (.int p0), .val (.int p1), .val (.int p2), .val (.int p3), .val (.int nn), .val (.int ba0), .val (.int ba1), .val (.int ba2), .val (.int ba3), .unset, .unset, .unset, .unset, .unset, .unset, .unset] [(.int (p2 &&& (1 : Int32)))])) (s₁.setTop (mkF m 62 #[.val (.int p0), .val (.int p1), .val (.int p2), .val (.int p3), .val (.int nn), .val (.int ba0), .val (.int ba1), .val (.int ba2), .val (.int ba3), .unset, .unset, .unset, .unset, .unset, .unset, .unset] [(.int v7_0)])) := by
    have R7 := Steps.refl (tb := p.tables) (e := e) (below := below) (s₁.setTop (mkF m 48 #[.val (.int p0), .val (.int p1), .val (.int p2), .val (.int p3), .val (.int nn), .val (.int ba0), .val (.int ba1), .val (.int ba2), .val (.int ba3), .unset, .unset, .unset, .unset, .unset, .unset, .unset] [(.int (p2 &&& (1 : Int32)))]))
    by_cases hc48 : (p2 &&& (1 : Int32)) = (0 : Int32)
    · have K8 : Steps p.tables e below _ (s₁.setTop (mkF m 62 #[.val (.int p0), .val (.int p1), .val (.int p2), .val (.int p3), .val (.int nn), .val (.int ba0), .val (.int ba1), .val (.int ba2), .val (.int ba3), .unset, .unset, .unset, .unset, .unset, .unset, .unset] [(.int (0 : Int32))])) := R7.trans (by
        refine XS.ifYes X0.here hx rfl (pc0 := 48) (pc' := 61) rfl (hb hby at_48) rfl ((if0 _ _).trans (teq hc48).1) (by decide) (by decide) ?_
        refine XS.iconst X0.here hx rfl (hb hby at_61) ?_
        exact Steps.refl _)
      exact ⟨(0 : Int32), (by rw [if_pos hc48]), K8⟩
    · have K9 : Steps p.tables e below _ (s₁.setTop (mkF m 54 #[.val (.int p0), .val (.int p1), .val (.int p2), .val (.int p3), .val (.int nn), .val (.int ba0), .val (.int ba1), .val (.int ba2), .val (.int ba3), .unset, .unset, .unset, .unset, .unset, .unset, .unset] [(.int (2 : Int32)), (.int nn)])) := R7.trans (by
        refine XS.ifNo X0.here hx rfl (hb hby at_48) rfl ((if0 _ _).trans (feq hc48).1) ?_
        refine XS.iload X0.here hx rfl (hb hby at_51) rfl ?_
        refine XS.iconst X0.here hx rfl (hb hby at_53) ?_
        exact Steps.refl _)
      by_cases hc54 : nn < (2 : Int32)
      · have K10 : Steps p.tables e below _ (s₁.setTop (mkF m 62 #[.val (.int p0), .val (.int p1), .val (.int p2), .val (.int p3), .val (.int nn), .val (.int ba0), .val (.int ba1), .val (.int ba2), .val (.int ba3), .unset, .unset, .unset, .unset, .unset, .unset, .unset] [(.int (0 : Int32))])) := K9.trans (by
          refine XS.icmpYes X0.here hx rfl (pc0 := 54) (pc' := 61) rfl (hb hby at_54) rfl (tlt hc54).1 (by decide) (by decide) ?_
          refine XS.iconst X0.here hx rfl (hb hby at_61) ?_
          exact Steps.refl _)
        exact ⟨(0 : Int32), (by rw [if_neg hc48, if_pos hc54]), K10⟩
      · have K11 : Steps p.tables e below _ (s₁.setTop (mkF m 62 #[.val (.int p0), .val (.int p1), .val (.int p2), .val (.int p3), .val (.int nn), .val (.int ba0), .val (.int ba1), .val (.int ba2), .val (.int ba3), .unset, .unset, .unset, .unset, .unset, .unset, .unset] [(.int (1 : Int32))])) := K9.trans (by
          refine XS.icmpNo X0.here hx rfl (hb hby at_54) rfl (flt hc54).1 ?_
          refine XS.iconst X0.here hx rfl (hb hby at_57) ?_
          refine XS.goto X0.here hx rfl (pc0 := 58) (pc' := 62) rfl (hb hby at_58) (by decide) (by decide) ?_
          exact Steps.refl _)
        exact ⟨(1 : Int32), (by rw [if_neg hc48, if_neg hc54]), K11⟩
  have K12 := K6.trans S7
  have K13 : Steps p.tables e below _ (s₁.setTop (mkF m 66 #[.val (.int p0), .val (.int p1), .val (.int p2), .val (.int p3), .val (.int nn), .val (.int ba0), .val (.int ba1), .val (.int ba2), .val (.int ba3), .val (.int v7_0), .unset, .unset, .unset, .unset, .unset, .unset] [(.int v7_0)])) := K12.trans (by
    refine XS.istore X0.here hx rfl (hb hby at_62) rfl (l' := #[.val (.int p0), .val (.int p1), .val (.int p2), .val (.int p3), .val (.int nn), .val (.int ba0), .val (.int ba1), .val (.int ba2), .val (.int ba3), .val (.int v7_0), .unset, .unset, .unset, .unset, .unset, .unset]) rfl ?_
    refine XS.iload X0.here hx rfl (hb hby at_64) rfl ?_
    exact Steps.refl _)
  obtain ⟨v14_0, hv14_0, S14⟩ : ∃ (v14_0 : Int32), (if v7_0 = (0 : Int32) then ba0 else ((ba0 ||| (128 : Int32)).toInt8.toInt32)) = v14_0 ∧ Steps p.tables e below (s₁.setTop (mkF m 66 #[.val (.int p0), .val (.int p1), .val (.int p2), .val (.int p3), .val (.int nn), .val (.int ba0), .val (.int ba1), .val (.int ba2), .val (.int ba3), .val (.int v7_0), .unset, .unset, .unset, .unset, .unset, .unset] [(.int v7_0)])) (s₁.setTop (mkF m 78 #[.val (.int p0), .val (.int p1), .val (.int p2), .val (.int p3), .val (.int nn), .val (.int v14_0), .val (.int ba1), .val (.int ba2), .val (.int ba3), .val (.int v7_0), .unset, .unset, .unset, .unset, .unset, .unset] [])) := by
    have R14 := Steps.refl (tb := p.tables) (e := e) (below := below) (s₁.setTop (mkF m 66 #[.val (.int p0), .val (.int p1), .val (.int p2), .val (.int p3), .val (.int nn), .val (.int ba0), .val (.int ba1), .val (.int ba2), .val (.int ba3), .val (.int v7_0), .unset, .unset, .unset, .unset, .unset, .unset] [(.int v7_0)]))
    by_cases hc66 : v7_0 = (0 : Int32)
    · have K15 : Steps p.tables e below _ (s₁.setTop (mkF m 78 #[.val (.int p0), .val (.int p1), .val (.int p2), .val (.int p3), .val (.int nn), .val (.int ba0), .val (.int ba1), .val (.int ba2), .val (.int ba3), .val (.int v7_0), .unset, .unset, .unset, .unset, .unset, .unset] [])) := R14.trans (by
        refine XS.ifYes X0.here hx rfl (pc0 := 66) (pc' := 78) rfl (hb hby at_66) rfl ((if0 _ _).trans (teq hc66).1) (by decide) (by decide) ?_
        exact Steps.refl _)
      exact ⟨ba0, (by rw [if_pos hc66]), K15⟩
    · have K16 : Steps p.tables e below _ (s₁.setTop (mkF m 78 #[.val (.int p0), .val (.int p1), .val (.int p2), .val (.int p3), .val (.int nn), .val (.int ((ba0 ||| (128 : Int32)).toInt8.toInt32)), .val (.int ba1), .val (.int ba2), .val (.int ba3), .val (.int v7_0), .unset, .unset, .unset, .unset, .unset, .unset] [])) := R14.trans (by
        refine XS.ifNo X0.here hx rfl (hb hby at_66) rfl ((if0 _ _).trans (feq hc66).1) ?_
        refine XS.iload X0.here hx rfl (hb hby at_69) rfl ?_
        refine XS.sipush X0.here hx rfl (hb hby at_71) ?_
        refine XS.ior X0.here hx rfl (hb hby at_74) rfl ?_
        refine XS.i2b X0.here hx rfl (hb hby at_75) rfl ?_
        show Steps p.tables e below (s₁.setTop (mkF m 76 #[.val (.int p0), .val (.int p1), .val (.int p2), .val (.int p3), .val (.int nn), .val (.int ba0), .val (.int ba1), .val (.int ba2), .val (.int ba3), .val (.int v7_0), .unset, .unset, .unset, .unset, .unset, .unset] [(.int ((ba0 ||| (128 : Int32)).toInt8.toInt32))])) _
        refine XS.istore X0.here hx rfl (hb hby at_76) rfl (l' := #[.val (.int p0), .val (.int p1), .val (.int p2), .val (.int p3), .val (.int nn), .val (.int ((ba0 ||| (128 : Int32)).toInt8.toInt32)), .val (.int ba1), .val (.int ba2), .val (.int ba3), .val (.int v7_0), .unset, .unset, .unset, .unset, .unset, .unset]) rfl ?_
        exact Steps.refl _)
      exact ⟨((ba0 ||| (128 : Int32)).toInt8.toInt32), (by rw [if_neg hc66]), K16⟩
  have K17 := K13.trans S14
  have K18 : Steps p.tables e below _ (s₁.setTop (mkF m 80 #[.val (.int p0), .val (.int p1), .val (.int p2), .val (.int p3), .val (.int nn), .val (.int v14_0), .val (.int ba1), .val (.int ba2), .val (.int ba3), .val (.int v7_0), .unset, .unset, .unset, .unset, .unset, .unset] [(.int v7_0)])) := K17.trans (by
    refine XS.iload X0.here hx rfl (hb hby at_78) rfl ?_
    exact Steps.refl _)
  obtain ⟨v19_0, hv19_0, S19⟩ : ∃ (v19_0 : Int32), (if v7_0 = (0 : Int32) then nn else (nn - (1 : Int32))) = v19_0 ∧ Steps p.tables e below (s₁.setTop (mkF m 80 #[.val (.int p0), .val (.int p1), .val (.int p2), .val (.int p3), .val (.int nn), .val (.int v14_0), .val (.int ba1), .val (.int ba2), .val (.int ba3), .val (.int v7_0), .unset, .unset, .unset, .unset, .unset, .unset] [(.int v7_0)])) (s₁.setTop (mkF m 92 #[.val (.int p0), .val (.int p1), .val (.int p2), .val (.int p3), .val (.int nn), .val (.int v14_0), .val (.int ba1), .val (.int ba2), .val (.int ba3), .val (.int v7_0), .unset, .unset, .unset, .unset, .unset, .unset] [(.int v19_0)])) := by
    have R19 := Steps.refl (tb := p.tables) (e := e) (below := below) (s₁.setTop (mkF m 80 #[.val (.int p0), .val (.int p1), .val (.int p2), .val (.int p3), .val (.int nn), .val (.int v14_0), .val (.int ba1), .val (.int ba2), .val (.int ba3), .val (.int v7_0), .unset, .unset, .unset, .unset, .unset, .unset] [(.int v7_0)]))
    by_cases hc80 : v7_0 = (0 : Int32)
    · have K20 : Steps p.tables e below _ (s₁.setTop (mkF m 92 #[.val (.int p0), .val (.int p1), .val (.int p2), .val (.int p3), .val (.int nn), .val (.int v14_0), .val (.int ba1), .val (.int ba2), .val (.int ba3), .val (.int v7_0), .unset, .unset, .unset, .unset, .unset, .unset] [(.int nn)])) := R19.trans (by
        refine XS.ifYes X0.here hx rfl (pc0 := 80) (pc' := 90) rfl (hb hby at_80) rfl ((if0 _ _).trans (teq hc80).1) (by decide) (by decide) ?_
        refine XS.iload X0.here hx rfl (hb hby at_90) rfl ?_
        exact Steps.refl _)
      exact ⟨nn, (by rw [if_pos hc80]), K20⟩
    · have K21 : Steps p.tables e below _ (s₁.setTop (mkF m 92 #[.val (.int p0), .val (.int p1), .val (.int p2), .val (.int p3), .val (.int nn), .val (.int v14_0), .val (.int ba1), .val (.int ba2), .val (.int ba3), .val (.int v7_0), .unset, .unset, .unset, .unset, .unset, .unset] [(.int (nn - (1 : Int32)))])) := R19.trans (by
        refine XS.ifNo X0.here hx rfl (hb hby at_80) rfl ((if0 _ _).trans (feq hc80).1) ?_
        refine XS.iload X0.here hx rfl (hb hby at_83) rfl ?_
        refine XS.iconst X0.here hx rfl (hb hby at_85) ?_
        refine XS.isub X0.here hx rfl (hb hby at_86) rfl ?_
        refine XS.goto X0.here hx rfl (pc0 := 87) (pc' := 92) rfl (hb hby at_87) (by decide) (by decide) ?_
        show Steps p.tables e below (s₁.setTop (mkF m 92 #[.val (.int p0), .val (.int p1), .val (.int p2), .val (.int p3), .val (.int nn), .val (.int v14_0), .val (.int ba1), .val (.int ba2), .val (.int ba3), .val (.int v7_0), .unset, .unset, .unset, .unset, .unset, .unset] [(.int (nn - (1 : Int32)))])) _
        exact Steps.refl _)
      exact ⟨(nn - (1 : Int32)), (by rw [if_neg hc80]), K21⟩
  have K22 := K18.trans S19
  have K23 : Steps p.tables e below _ (s₁.setTop (mkF m 104 #[.val (.int p0), .val (.int p1), .val (.int p2), .val (.int p3), .val (.int nn), .val (.int v14_0), .val (.int ba1), .val (.int ba2), .val (.int ba3), .val (.int v7_0), .val (.int v19_0), .unset, .unset, .unset, .unset, .unset] [(.int ba3), (.int ba2), (.int ba1), (.int v14_0), (.int nn)])) := K22.trans (by
    refine XS.istore X0.here hx rfl (hb hby at_92) rfl (l' := #[.val (.int p0), .val (.int p1), .val (.int p2), .val (.int p3), .val (.int nn), .val (.int v14_0), .val (.int ba1), .val (.int ba2), .val (.int ba3), .val (.int v7_0), .val (.int v19_0), .unset, .unset, .unset, .unset, .unset]) rfl ?_
    refine XS.iload X0.here hx rfl (hb hby at_94) rfl ?_
    refine XS.iload X0.here hx rfl (hb hby at_96) rfl ?_
    refine XS.iload X0.here hx rfl (hb hby at_98) rfl ?_
    refine XS.iload X0.here hx rfl (hb hby at_100) rfl ?_
    show Steps p.tables e below (s₁.setTop (mkF m 102 #[.val (.int p0), .val (.int p1), .val (.int p2), .val (.int p3), .val (.int nn), .val (.int v14_0), .val (.int ba1), .val (.int ba2), .val (.int ba3), .val (.int v7_0), .val (.int v19_0), .unset, .unset, .unset, .unset, .unset] [(.int ba2), (.int ba1), (.int v14_0), (.int nn)])) _
    refine XS.iload X0.here hx rfl (hb hby at_102) rfl ?_
    exact Steps.refl _)
  obtain ⟨_, _, ⟨T24, L24, k24, n24⟩, -, X24, ⟨Lc24, hQ24, l24, y24, z24⟩, st24⟩ := Jvm.LawKit.callS X0 hx (y := (⟨"com/example/thin_gateway/thingateway/avro/AvroDecoderIsAtEndPinLaw", "build", "(IBBBB)[B"⟩ : MethodName)) hown (mvT hZ (hw _ (List.mem_of_getElem? (i := 0) rfl))) (mvT hZ (hw _ (List.mem_of_getElem? (i := 1) rfl))) (mvT hZ (hw _ (List.mem_of_getElem? (i := 2) rfl))) (mvT hZ (hw _ (List.mem_of_getElem? (i := 3) rfl))) (by decide) (backOf (W := 0) (rm1 l Z a0 hw [] nn v14_0 ba1 ba2 ba3 h0 n0 Z0 (own_n5 hnn)) hZ (hw _ (List.mem_of_getElem? (i := 3) rfl)) (hw _ (List.mem_of_getElem? (i := 2) rfl)) (by decide) (by decide)) (g := (mkF m 104 #[.val (.int p0), .val (.int p1), .val (.int p2), .val (.int p3), .val (.int nn), .val (.int v14_0), .val (.int ba1), .val (.int ba2), .val (.int ba3), .val (.int v7_0), .val (.int v19_0), .unset, .unset, .unset, .unset, .unset] [(.int ba3), (.int ba2), (.int ba1), (.int v14_0), (.int nn)])) rfl (by rw [hml]; rfl) (argsL := [(.int nn), (.int v14_0), (.int ba1), (.int ba2), (.int ba3)]) (rest := []) (lenOf pd_1 rfl) rfl (by show 2 * 0 + _ ≤ _; exact Nat.le_of_eq rfl) (hb hby at_104) (fun _ _ => ⟨rfl, e0, (by decide : 0 + 1 ≤ _), (by decide : 0 + 4 ≤ _)⟩)
  dsimp only [Pt.U, Pt.locs, Pt.cells, Pt.slots] at X24 l24 y24 z24 st24 hQ24
  subst l24 y24 z24
  obtain ⟨b24_b, k_24, rfl, N24, Kp24, Q24_0, Q24_1, sz24_b⟩ := hQ24
  have ge_b24_b : n0 ≤ b24_b := Nat.le_trans Z0 sz24_b
  have N24' := Fr.app N0 N24
  obtain ⟨Lg24, Xg24, Ng24⟩ : ∃ Lg, Stand p l e room_1 s m #[(.int p0), (.int p1), (.int p2), (.int p3)] below meth c T24 Lg 1 4 ∧ Fr n0 Lg := ⟨_, X24, N24'⟩
  have K25 : Steps p.tables e below _ (T24.setTop (mkF m 107 #[.val (.int p0), .val (.int p1), .val (.int p2), .val (.int p3), .val (.int nn), .val (.int v14_0), .val (.int ba1), .val (.int ba2), .val (.int ba3), .val (.int v7_0), .val (.int v19_0), .unset, .unset, .unset, .unset, .unset] [(.ref b24_b)])) := K23.trans (st24 _ (Steps.refl _))
  have K26 : Steps p.tables e below _ (T24.setTop (mkF m 109 #[.val (.int p0), .val (.int p1), .val (.int p2), .val (.int p3), .val (.int nn), .val (.int v14_0), .val (.int ba1), .val (.int ba2), .val (.int ba3), .val (.int v7_0), .val (.int v19_0), .val (.ref b24_b), .unset, .unset, .unset, .unset] [])) := K25.trans (by
    refine XS.astore Xg24.here hx rfl (hb hby at_107) rfl rfl (l' := #[.val (.int p0), .val (.int p1), .val (.int p2), .val (.int p3), .val (.int nn), .val (.int v14_0), .val (.int ba1), .val (.int ba2), .val (.int ba3), .val (.int v7_0), .val (.int v19_0), .val (.ref b24_b), .unset, .unset, .unset, .unset]) rfl ?_
    exact Steps.refl _)
  obtain ⟨vsb, hvsb⟩ : ∃ z : List Value, [(.int (v14_0.toInt8.toInt32)), (.int (ba1.toInt8.toInt32)), (.int (ba2.toInt8.toInt32)), (.int (ba3.toInt8.toInt32))] = z := ⟨_, rfl⟩
  rw [hvsb] at Q24_1
  have Z_28 : n0 ≤ T24.heap.size := (Nat.le_trans Z0 Kp24.1)
  obtain ⟨T27, h27, X27, e27, E27, A27, D27, -, st27⟩ := newO Xg24 hx hZ hown (hw _ (List.mem_of_getElem? (i := 5) rfl)) (hw _ (List.mem_of_getElem? (i := 6) rfl)) (hw _ (List.mem_of_getElem? (i := 7) rfl)) rfl (g := (mkF m 109 #[.val (.int p0), .val (.int p1), .val (.int p2), .val (.int p3), .val (.int nn), .val (.int v14_0), .val (.int ba1), .val (.int ba2), .val (.int ba3), .val (.int v7_0), .val (.int v19_0), .val (.ref b24_b), .unset, .unset, .unset, .unset] [])) rfl (hb hby at_109) (by decide) (by decide)
  obtain ⟨b27, g27⟩ : ∃ z, z = T24.heap.size := ⟨_, rfl⟩
  rw [← g27] at A27 D27 st27
  have ne_b24_b_b27 : b24_b ≠ b27 := Nat.ne_of_lt (Nat.lt_of_lt_of_le Q24_0.lt (Nat.le_of_eq g27.symm))
  have ge_b27 : n0 ≤ b27 := Nat.le_trans Z_28 (Nat.le_of_eq g27.symm)
  have K29 : Steps p.tables e below _ (T27.setTop (mkF m 112 #[.val (.int p0), .val (.int p1), .val (.int p2), .val (.int p3), .val (.int nn), .val (.int v14_0), .val (.int ba1), .val (.int ba2), .val (.int ba3), .val (.int v7_0), .val (.int v19_0), .val (.ref b24_b), .unset, .unset, .unset, .unset] [(.ref b27)])) := K26.trans (st27 _ (Steps.refl _))
  have F27_input : Fld Z h27 b27 "com/example/thin_gateway/thingateway/avro/AvroDecoder" "input" "[B" .null := D27 (Or.inr (hw _ (List.mem_of_getElem? (i := 28) rfl))) (ty := (.array .byte)) (by decide)
  have F27_position : Fld Z h27 b27 "com/example/thin_gateway/thingateway/avro/AvroDecoder" "position" "I" (.int (0 : Int32)) := D27 (Or.inl (hw _ (List.mem_of_getElem? (i := 35) rfl))) (ty := .int) (by decide)
  have K30 : Steps p.tables e below _ (T27.setTop (mkF m 115 #[.val (.int p0), .val (.int p1), .val (.int p2), .val (.int p3), .val (.int nn), .val (.int v14_0), .val (.int ba1), .val (.int ba2), .val (.int ba3), .val (.int v7_0), .val (.int v19_0), .val (.ref b24_b), .unset, .unset, .unset, .unset] [(.ref b24_b), (.ref b27), (.ref b27)])) := K29.trans (by
    refine XS.dup X27.here hx rfl (hb hby at_112) rfl rfl ?_
    refine XS.aload X27.here hx rfl (hb hby at_113) rfl rfl ?_
    exact Steps.refl _)
  have Z_31 : n0 ≤ h27.size := (Nat.le_trans Z_28 E27.1)
  have E_32 : Exa Z h27 b24_b "[B" := (Q24_0.ext E27)
  obtain ⟨_, _, ⟨T33, L33, k33, n33⟩, -, X33, hS33, hgr33, ⟨Lc33, hQ33, l33, y33, z33⟩, st33⟩ := X27.specialBackS hx (y := (⟨"com/example/thin_gateway/thingateway/avro/AvroDecoder", "<init>", "([B)V"⟩ : MethodName)) rfl hown (mvT hZ (hw _ (List.mem_of_getElem? (i := 8) rfl))) (mvT hZ (hw _ (List.mem_of_getElem? (i := 9) rfl))) (mvT hZ (hw _ (List.mem_of_getElem? (i := 10) rfl))) (by decide) (backOfS (W := 1) (rm2 l Z a0 hw [] b27 b24_b (0 : Int32) .null h27 n0 Z_31 A27 F27_position E_32 (Ne.symm ne_b24_b_b27) ge_b27 F27_input) hZ (hw _ (List.mem_of_getElem? (i := 10) rfl)) (hw _ (List.mem_of_getElem? (i := 7) rfl)) (by decide) (by decide)) (g := (mkF m 115 #[.val (.int p0), .val (.int p1), .val (.int p2), .val (.int p3), .val (.int nn), .val (.int v14_0), .val (.int ba1), .val (.int ba2), .val (.int ba3), .val (.int v7_0), .val (.int v19_0), .val (.ref b24_b), .unset, .unset, .unset, .unset] [(.ref b24_b), (.ref b27), (.ref b27)])) rfl (by rw [hml]; rfl) K30 (a := b27) (argsL := [(.ref b24_b)]) (rest := [(.ref b27)]) (lenOf pd_2 rfl) rfl (by show 2 * 0 + _ ≤ _; exact Nat.le_of_eq rfl) (hb hby at_115) (fun _ _ => ⟨rfl, e27, (by decide : 2 + 2 ≤ _), (by decide : 6 + 24 ≤ _)⟩)
  dsimp only [Pt.U, Pt.locs, Pt.cells, Pt.slots] at X33 l33 y33 z33 st33 hQ33 hS33 hgr33
  subst l33 y33 z33
  have hZ33 : Z.Warmed39 (s.setVm T33.vm).vm := State.Warmed39.trans hZ hS33.1
  have hown33 : (s.setVm T33.vm).vm.findClass "com/example/thin_gateway/thingateway/avro/AvroDecoderIsAtEndPinLaw" = some m.cls := (hS33.1.alike.findClass _ _).trans hown
  have hZ := hZ33
  have hown := hown33
  obtain ⟨rfl, N33, Kp33, Q33_0, Q33_1, Q33_2⟩ := hQ33
  have hkk33 : T33.heap.size ≤ T33.heap.size := Nat.le_refl _
  have N33' := Fr.app Ng24 N33
  obtain ⟨Lg33, Xg33, Ng33⟩ : ∃ Lg, Stand p l e room_1 (s.setVm T33.vm) m #[(.int p0), (.int p1), (.int p2), (.int p3)] below meth c T33 Lg 4 30 ∧ Fr n0 Lg := ⟨_, X33, N33'⟩
  have K34 : Steps p.tables e below _ (T33.setTop (mkF m 118 #[.val (.int p0), .val (.int p1), .val (.int p2), .val (.int p3), .val (.int nn), .val (.int v14_0), .val (.int ba1), .val (.int ba2), .val (.int ba3), .val (.int v7_0), .val (.int v19_0), .val (.ref b24_b), .unset, .unset, .unset, .unset] [(.ref b27)])) := st33
  have K35 : Steps p.tables e below _ (T33.setTop (mkF m 122 #[.val (.int p0), .val (.int p1), .val (.int p2), .val (.int p3), .val (.int nn), .val (.int v14_0), .val (.int ba1), .val (.int ba2), .val (.int ba3), .val (.int v7_0), .val (.int v19_0), .val (.ref b24_b), .val (.ref b27), .unset, .unset, .unset] [(.ref b27)])) := K34.trans (by
    refine XS.astore Xg33.here hx rfl (hb hby at_118) rfl rfl (l' := #[.val (.int p0), .val (.int p1), .val (.int p2), .val (.int p3), .val (.int nn), .val (.int v14_0), .val (.int ba1), .val (.int ba2), .val (.int ba3), .val (.int v7_0), .val (.int v19_0), .val (.ref b24_b), .val (.ref b27), .unset, .unset, .unset]) rfl ?_
    refine XS.aload Xg33.here hx rfl (hb hby at_120) rfl rfl ?_
    exact Steps.refl _)
  have Z_36 : n0 ≤ T33.heap.size := (Nat.le_trans Z_31 Kp33.1)
  have V_37 : Arv Z T33.heap b24_b k_24 .byte nn vsb (.int (0 : Int32)) := ((Q24_1.ext E27).keep Kp33 (ninS ne_b24_b_b27 nin0))
  obtain ⟨cq38, kq38, q38a, q38b, q38c⟩ := isOf hZ rfl Q33_0
  obtain ⟨_, _, ⟨T38, L38, k38, n38⟩, -, X38, ⟨Lc38, hQ38, l38, y38, z38⟩, st38⟩ := Xg33.virtualBack hx (y := (⟨"com/example/thin_gateway/thingateway/avro/AvroDecoder", "isAtEnd", "()Z"⟩ : MethodName)) (z := (⟨"com/example/thin_gateway/thingateway/avro/AvroDecoder", "isAtEnd", "()Z"⟩ : MethodName)) hown (mvT hZ (hw _ (List.mem_of_getElem? (i := 29) rfl))) (mvT hZ (hw _ (List.mem_of_getElem? (i := 30) rfl))) (notFace_of_selects (args := #[]) (mvT hZ (hw _ (List.mem_of_getElem? (i := 32) rfl)))) (mvT hZ (hw _ (List.mem_of_getElem? (i := 32) rfl))) (mvT hZ (hw _ (List.mem_of_getElem? (i := 31) rfl))) (by decide) (backOf (W := 0) (rm5 l Z a0 hw [] b27 b24_b k_24 nn vsb (0 : Int32) T33.heap n0 Z_36 Q33_2 Q33_1 V_37) hZ (hw _ (List.mem_of_getElem? (i := 33) rfl)) (hw _ (List.mem_of_getElem? (i := 7) rfl)) (by decide) (by decide)) q38a q38c (g := (mkF m 122 #[.val (.int p0), .val (.int p1), .val (.int p2), .val (.int p3), .val (.int nn), .val (.int v14_0), .val (.int ba1), .val (.int ba2), .val (.int ba3), .val (.int v7_0), .val (.int v19_0), .val (.ref b24_b), .val (.ref b27), .unset, .unset, .unset] [(.ref b27)])) rfl (by rw [hml]; rfl) K35 (argsL := []) (rest := []) (lenOf pd_3 rfl) rfl (by show 2 * 0 + _ ≤ _; exact Nat.le_of_eq rfl) (hb hby at_122) (fun _ _ => ⟨rfl, rfl, (by decide : 4 + 0 ≤ _), (by decide : 30 + 0 ≤ _)⟩)
  dsimp only [Pt.U, Pt.locs, Pt.cells, Pt.slots] at X38 l38 y38 z38 st38 hQ38
  subst l38 y38 z38
  obtain ⟨rfl, N38, eh38⟩ := hQ38
  have N38' := Fr.app Ng33 N38
  obtain ⟨Lg38, Xg38, Ng38⟩ : ∃ Lg, Stand p l e room_1 (s.setVm T33.vm) m #[(.int p0), (.int p1), (.int p2), (.int p3)] below meth c T38 Lg 4 30 ∧ Fr n0 Lg := ⟨_, X38, N38'⟩
  have K40 : Steps p.tables e below _ (T38.setTop (mkF m 125 #[.val (.int p0), .val (.int p1), .val (.int p2), .val (.int p3), .val (.int nn), .val (.int v14_0), .val (.int ba1), .val (.int ba2), .val (.int ba3), .val (.int v7_0), .val (.int v19_0), .val (.ref b24_b), .val (.ref b27), .unset, .unset, .unset] [(.int ((if (0 : Int32) = nn then (1 : Int32) else (0 : Int32)) &&& 1))])) := st38
  obtain ⟨r39, hr39⟩ : ∃ z : Int32, ((if (0 : Int32) = nn then (1 : Int32) else (0 : Int32)) &&& 1) = z := ⟨_, rfl⟩
  rw [hr39] at K40
  have K41 : Steps p.tables e below _ (T38.setTop (mkF m 127 #[.val (.int p0), .val (.int p1), .val (.int p2), .val (.int p3), .val (.int nn), .val (.int v14_0), .val (.int ba1), .val (.int ba2), .val (.int ba3), .val (.int v7_0), .val (.int v19_0), .val (.ref b24_b), .val (.ref b27), .unset, .unset, .unset] [(.int v19_0), (.int r39)])) := K40.trans (by
    refine XS.iload Xg38.here hx rfl (hb hby at_125) rfl ?_
    exact Steps.refl _)
  obtain ⟨v42_0, hv42_0, S42⟩ : ∃ (v42_0 : Int32), (if v19_0 = (0 : Int32) then (1 : Int32) else (0 : Int32)) = v42_0 ∧ Steps p.tables e below (T38.setTop (mkF m 127 #[.val (.int p0), .val (.int p1), .val (.int p2), .val (.int p3), .val (.int nn), .val (.int v14_0), .val (.int ba1), .val (.int ba2), .val (.int ba3), .val (.int v7_0), .val (.int v19_0), .val (.ref b24_b), .val (.ref b27), .unset, .unset, .unset] [(.int v19_0), (.int r39)])) (T38.setTop (mkF m 135 #[.val (.int p0), .val (.int p1), .val (.int p2), .val (.int p3), .val (.int nn), .val (.int v14_0), .val (.int ba1), .val (.int ba2), .val (.int ba3), .val (.int v7_0), .val (.int v19_0), .val (.ref b24_b), .val (.ref b27), .unset, .unset, .unset] [(.int v42_0), (.int r39)])) := by
    have R42 := Steps.refl (tb := p.tables) (e := e) (below := below) (T38.setTop (mkF m 127 #[.val (.int p0), .val (.int p1), .val (.int p2), .val (.int p3), .val (.int nn), .val (.int v14_0), .val (.int ba1), .val (.int ba2), .val (.int ba3), .val (.int v7_0), .val (.int v19_0), .val (.ref b24_b), .val (.ref b27), .unset, .unset, .unset] [(.int v19_0), (.int r39)]))
    by_cases hc127 : v19_0 = (0 : Int32)
    · have K43 : Steps p.tables e below _ (T38.setTop (mkF m 135 #[.val (.int p0), .val (.int p1), .val (.int p2), .val (.int p3), .val (.int nn), .val (.int v14_0), .val (.int ba1), .val (.int ba2), .val (.int ba3), .val (.int v7_0), .val (.int v19_0), .val (.ref b24_b), .val (.ref b27), .unset, .unset, .unset] [(.int (1 : Int32)), (.int r39)])) := R42.trans (by
        refine XS.ifNo Xg38.here hx rfl (hb hby at_127) rfl ((if0 _ _).trans (teq hc127).2) ?_
        refine XS.iconst Xg38.here hx rfl (hb hby at_130) ?_
        refine XS.goto Xg38.here hx rfl (pc0 := 131) (pc' := 135) rfl (hb hby at_131) (by decide) (by decide) ?_
        exact Steps.refl _)
      exact ⟨(1 : Int32), (by rw [if_pos hc127]), K43⟩
    · have K44 : Steps p.tables e below _ (T38.setTop (mkF m 135 #[.val (.int p0), .val (.int p1), .val (.int p2), .val (.int p3), .val (.int nn), .val (.int v14_0), .val (.int ba1), .val (.int ba2), .val (.int ba3), .val (.int v7_0), .val (.int v19_0), .val (.ref b24_b), .val (.ref b27), .unset, .unset, .unset] [(.int (0 : Int32)), (.int r39)])) := R42.trans (by
        refine XS.ifYes Xg38.here hx rfl (pc0 := 127) (pc' := 134) rfl (hb hby at_127) rfl ((if0 _ _).trans (feq hc127).2) (by decide) (by decide) ?_
        refine XS.iconst Xg38.here hx rfl (hb hby at_134) ?_
        exact Steps.refl _)
      exact ⟨(0 : Int32), (by rw [if_neg hc127]), K44⟩
  have K45 := K41.trans S42
  obtain ⟨v46_0, hv46_0, S46⟩ : ∃ (v46_0 : Int32), (if r39 = v42_0 then (1 : Int32) else (0 : Int32)) = v46_0 ∧ Steps p.tables e below (T38.setTop (mkF m 135 #[.val (.int p0), .val (.int p1), .val (.int p2), .val (.int p3), .val (.int nn), .val (.int v14_0), .val (.int ba1), .val (.int ba2), .val (.int ba3), .val (.int v7_0), .val (.int v19_0), .val (.ref b24_b), .val (.ref b27), .unset, .unset, .unset] [(.int v42_0), (.int r39)])) (T38.setTop (mkF m 143 #[.val (.int p0), .val (.int p1), .val (.int p2), .val (.int p3), .val (.int nn), .val (.int v14_0), .val (.int ba1), .val (.int ba2), .val (.int ba3), .val (.int v7_0), .val (.int v19_0), .val (.ref b24_b), .val (.ref b27), .unset, .unset, .unset] [(.int v46_0)])) := by
    have R46 := Steps.refl (tb := p.tables) (e := e) (below := below) (T38.setTop (mkF m 135 #[.val (.int p0), .val (.int p1), .val (.int p2), .val (.int p3), .val (.int nn), .val (.int v14_0), .val (.int ba1), .val (.int ba2), .val (.int ba3), .val (.int v7_0), .val (.int v19_0), .val (.ref b24_b), .val (.ref b27), .unset, .unset, .unset] [(.int v42_0), (.int r39)]))
    by_cases hc135 : r39 = v42_0
    · have K47 : Steps p.tables e below _ (T38.setTop (mkF m 143 #[.val (.int p0), .val (.int p1), .val (.int p2), .val (.int p3), .val (.int nn), .val (.int v14_0), .val (.int ba1), .val (.int ba2), .val (.int ba3), .val (.int v7_0), .val (.int v19_0), .val (.ref b24_b), .val (.ref b27), .unset, .unset, .unset] [(.int (1 : Int32))])) := R46.trans (by
        refine XS.icmpNo Xg38.here hx rfl (hb hby at_135) rfl (teq hc135).2 ?_
        refine XS.iconst Xg38.here hx rfl (hb hby at_138) ?_
        refine XS.goto Xg38.here hx rfl (pc0 := 139) (pc' := 143) rfl (hb hby at_139) (by decide) (by decide) ?_
        exact Steps.refl _)
      exact ⟨(1 : Int32), (by rw [if_pos hc135]), K47⟩
    · have K48 : Steps p.tables e below _ (T38.setTop (mkF m 143 #[.val (.int p0), .val (.int p1), .val (.int p2), .val (.int p3), .val (.int nn), .val (.int v14_0), .val (.int ba1), .val (.int ba2), .val (.int ba3), .val (.int v7_0), .val (.int v19_0), .val (.ref b24_b), .val (.ref b27), .unset, .unset, .unset] [(.int (0 : Int32))])) := R46.trans (by
        refine XS.icmpYes Xg38.here hx rfl (pc0 := 135) (pc' := 142) rfl (hb hby at_135) rfl (feq hc135).2 (by decide) (by decide) ?_
        refine XS.iconst Xg38.here hx rfl (hb hby at_142) ?_
        exact Steps.refl _)
      exact ⟨(0 : Int32), (by rw [if_neg hc135]), K48⟩
  have K49 := K45.trans S46
  have K50 : Steps p.tables e below _ (T38.setTop (mkF m 151 #[.val (.int p0), .val (.int p1), .val (.int p2), .val (.int p3), .val (.int nn), .val (.int v14_0), .val (.int ba1), .val (.int ba2), .val (.int ba3), .val (.int v7_0), .val (.int v19_0), .val (.ref b24_b), .val (.ref b27), .val (.int v46_0), .unset, .unset] [(.int v19_0), (.int (p3 &&& (7 : Int32)))])) := K49.trans (by
    refine XS.istore Xg38.here hx rfl (hb hby at_143) rfl (l' := #[.val (.int p0), .val (.int p1), .val (.int p2), .val (.int p3), .val (.int nn), .val (.int v14_0), .val (.int ba1), .val (.int ba2), .val (.int ba3), .val (.int v7_0), .val (.int v19_0), .val (.ref b24_b), .val (.ref b27), .val (.int v46_0), .unset, .unset]) rfl ?_
    refine XS.iloadN Xg38.here hx rfl (hb hby at_145) rfl ?_
    refine XS.bipush Xg38.here hx rfl (hb hby at_146) ?_
    refine XS.iand Xg38.here hx rfl (hb hby at_148) rfl ?_
    refine XS.iload Xg38.here hx rfl (hb hby at_149) rfl ?_
    show Steps p.tables e below (T38.setTop (mkF m 151 #[.val (.int p0), .val (.int p1), .val (.int p2), .val (.int p3), .val (.int nn), .val (.int v14_0), .val (.int ba1), .val (.int ba2), .val (.int ba3), .val (.int v7_0), .val (.int v19_0), .val (.ref b24_b), .val (.ref b27), .val (.int v46_0), .unset, .unset] [(.int v19_0), (.int (p3 &&& (7 : Int32)))])) _
    exact Steps.refl _)
  obtain ⟨_, _, ⟨T51, L51, k51, n51⟩, -, X51, ⟨Lc51, hQ51, l51, y51, z51⟩, st51⟩ := Jvm.LawKit.callS Xg38 hx (y := (⟨"java/lang/Math", "min", "(II)I"⟩ : MethodName)) hown (mvT hZ (hw _ (List.mem_of_getElem? (i := 36) rfl))) (mvT hZ (hw _ (List.mem_of_getElem? (i := 37) rfl))) (mvT hZ (hw _ (List.mem_of_getElem? (i := 38) rfl))) (mvT hZ (hw _ (List.mem_of_getElem? (i := 39) rfl))) (by decide) (backOf (W := 0) (rm6 l Z a0 hw [] (p3 &&& (7 : Int32)) v19_0 T33.heap n0 Z_36 ) hZ (hw _ (List.mem_of_getElem? (i := 39) rfl)) (hw _ (List.mem_of_getElem? (i := 38) rfl)) (by decide) (by decide)) (g := (mkF m 151 #[.val (.int p0), .val (.int p1), .val (.int p2), .val (.int p3), .val (.int nn), .val (.int v14_0), .val (.int ba1), .val (.int ba2), .val (.int ba3), .val (.int v7_0), .val (.int v19_0), .val (.ref b24_b), .val (.ref b27), .val (.int v46_0), .unset, .unset] [(.int v19_0), (.int (p3 &&& (7 : Int32)))])) rfl (by rw [hml]; rfl) (argsL := [(.int (p3 &&& (7 : Int32))), (.int v19_0)]) (rest := []) (lenOf pd_4 rfl) rfl (by show 2 * 0 + _ ≤ _; exact Nat.le_of_eq rfl) (hb hby at_151) (fun _ _ => ⟨rfl, eh38, (by decide : 4 + 0 ≤ _), (by decide : 30 + 0 ≤ _)⟩)
  dsimp only [Pt.U, Pt.locs, Pt.cells, Pt.slots] at X51 l51 y51 z51 st51 hQ51
  subst l51 y51 z51
  obtain ⟨rfl, N51, eh51⟩ := hQ51
  have N51' := Fr.app Ng38 N51
  obtain ⟨Lg51, Xg51, Ng51⟩ : ∃ Lg, Stand p l e room_1 (s.setVm T33.vm) m #[(.int p0), (.int p1), (.int p2), (.int p3)] below meth c T51 Lg 4 30 ∧ Fr n0 Lg := ⟨_, X51, N51'⟩
  have K53 : Steps p.tables e below _ (T51.setTop (mkF m 154 #[.val (.int p0), .val (.int p1), .val (.int p2), .val (.int p3), .val (.int nn), .val (.int v14_0), .val (.int ba1), .val (.int ba2), .val (.int ba3), .val (.int v7_0), .val (.int v19_0), .val (.ref b24_b), .val (.ref b27), .val (.int v46_0), .unset, .unset] [(.int (if v19_0 < (p3 &&& (7 : Int32)) then v19_0 else (p3 &&& (7 : Int32))))])) := K50.trans (st51 _ (Steps.refl _))
  obtain ⟨r52, hr52⟩ : ∃ z : Int32, (if v19_0 < (p3 &&& (7 : Int32)) then v19_0 else (p3 &&& (7 : Int32))) = z := ⟨_, rfl⟩
  rw [hr52] at K53
  have K54 : Steps p.tables e below _ (T51.setTop (mkF m 156 #[.val (.int p0), .val (.int p1), .val (.int p2), .val (.int p3), .val (.int nn), .val (.int v14_0), .val (.int ba1), .val (.int ba2), .val (.int ba3), .val (.int v7_0), .val (.int v19_0), .val (.ref b24_b), .val (.ref b27), .val (.int v46_0), .val (.int r52), .unset] [])) := K53.trans (by
    refine XS.istore Xg51.here hx rfl (hb hby at_154) rfl (l' := #[.val (.int p0), .val (.int p1), .val (.int p2), .val (.int p3), .val (.int nn), .val (.int v14_0), .val (.int ba1), .val (.int ba2), .val (.int ba3), .val (.int v7_0), .val (.int v19_0), .val (.ref b24_b), .val (.ref b27), .val (.int v46_0), .val (.int r52), .unset]) rfl ?_
    exact Steps.refl _)
  have hD := own_mkD hnn hba0 hba1 hba2 hba3 hv7_0 hv14_0 hv19_0 hr52 hvsb
  have hQ1 := own_Q0 r52.toInt v7_0.toInt
  have K55 : Steps p.tables e below _ (T51.setTop (mkF m 159 #[.val (.int p0), .val (.int p1), .val (.int p2), .val (.int p3), .val (.int nn), .val (.int v14_0), .val (.int ba1), .val (.int ba2), .val (.int ba3), .val (.int v7_0), .val (.int v19_0), .val (.ref b24_b), .val (.ref b27), .val (.int v46_0), .val (.int r52), .unset] [(.int (1 : Int32)), (.int r52)])) := K54.trans (by
    refine XS.iload Xg51.here hx rfl (hb hby at_156) rfl ?_
    refine XS.iconst Xg51.here hx rfl (hb hby at_158) ?_
    exact Steps.refl _)
  obtain ⟨T56, L56, h56, v56_0, v56_1, X56, e56, N56, Z56, M56_1, M56_2, M56_3, M56_4, M56_5, M56_6, hv56_0, hv56_1, S56⟩ : ∃ (T56 : State) (L56 : List Loc) (h56 : Heap) (v56_0 : Int32) (v56_1 : Int32), Stand p l e room_1 (s.setVm T33.vm) m #[(.int p0), (.int p1), (.int p2), (.int p3)] below meth c T56 L56 4 30 ∧ T56.heap = h56 ∧ Fr n0 L56 ∧ n0 ≤ h56.size ∧ Exa Z h56 b24_b "[B" ∧ Arv Z h56 b24_b k_24 .byte nn vsb (.int (0 : Int32)) ∧ Exa Z h56 b27 "com/example/thin_gateway/thingateway/avro/AvroDecoder" ∧ T33.heap.size ≤ h56.size ∧ Fld Z h56 b27 "com/example/thin_gateway/thingateway/avro/AvroDecoder" "position" "I" (.int v56_1) ∧ Fld Z h56 b27 "com/example/thin_gateway/thingateway/avro/AvroDecoder" "input" "[B" (.ref b24_b) ∧ (if r52 < (1 : Int32) then v46_0 else (if v46_0 = (0 : Int32) then (0 : Int32) else (if ((if ((rl 10 vsb (0 : Int32) (0 : Int64) (0 : Int32)).2) = nn then (1 : Int32) else (0 : Int32)) &&& 1) = (if v19_0 = (1 : Int32) then (1 : Int32) else (0 : Int32)) then (1 : Int32) else (0 : Int32)))) = v56_0 ∧ (if r52 < (1 : Int32) then (0 : Int32) else (rl 10 vsb (0 : Int32) (0 : Int64) (0 : Int32)).2) = v56_1 ∧ Steps p.tables e below (T51.setTop (mkF m 159 #[.val (.int p0), .val (.int p1), .val (.int p2), .val (.int p3), .val (.int nn), .val (.int v14_0), .val (.int ba1), .val (.int ba2), .val (.int ba3), .val (.int v7_0), .val (.int v19_0), .val (.ref b24_b), .val (.ref b27), .val (.int v46_0), .val (.int r52), .unset] [(.int (1 : Int32)), (.int r52)])) (T56.setTop (mkF m 199 #[.val (.int p0), .val (.int p1), .val (.int p2), .val (.int p3), .val (.int nn), .val (.int v14_0), .val (.int ba1), .val (.int ba2), .val (.int ba3), .val (.int v7_0), .val (.int v19_0), .val (.ref b24_b), .val (.ref b27), .val (.int v56_0), .val (.int r52), .unset] [])) := by
    have R56 := Steps.refl (tb := p.tables) (e := e) (below := below) (T51.setTop (mkF m 159 #[.val (.int p0), .val (.int p1), .val (.int p2), .val (.int p3), .val (.int nn), .val (.int v14_0), .val (.int ba1), .val (.int ba2), .val (.int ba3), .val (.int v7_0), .val (.int v19_0), .val (.ref b24_b), .val (.ref b27), .val (.int v46_0), .val (.int r52), .unset] [(.int (1 : Int32)), (.int r52)]))
    by_cases hc159 : r52 < (1 : Int32)
    · have K57 : Steps p.tables e below _ (T51.setTop (mkF m 199 #[.val (.int p0), .val (.int p1), .val (.int p2), .val (.int p3), .val (.int nn), .val (.int v14_0), .val (.int ba1), .val (.int ba2), .val (.int ba3), .val (.int v7_0), .val (.int v19_0), .val (.ref b24_b), .val (.ref b27), .val (.int v46_0), .val (.int r52), .unset] [])) := R56.trans (by
        refine XS.icmpYes Xg51.here hx rfl (pc0 := 159) (pc' := 199) rfl (hb hby at_159) rfl (tlt hc159).1 (by decide) (by decide) ?_
        exact Steps.refl _)
      have E_80 : Exa Z T33.heap b24_b "[B" := (E_32.keep Kp33)
      exact ⟨T51, _, _, v46_0, (0 : Int32), Xg51, eh51, Ng51, Z_36, E_80, V_37, Q33_0, hkk33, Q33_1, Q33_2, (by rw [if_pos hc159]), (by rw [if_pos hc159]), K57⟩
    · have K58 : Steps p.tables e below _ (T51.setTop (mkF m 164 #[.val (.int p0), .val (.int p1), .val (.int p2), .val (.int p3), .val (.int nn), .val (.int v14_0), .val (.int ba1), .val (.int ba2), .val (.int ba3), .val (.int v7_0), .val (.int v19_0), .val (.ref b24_b), .val (.ref b27), .val (.int v46_0), .val (.int r52), .unset] [(.ref b27)])) := R56.trans (by
        refine XS.icmpNo Xg51.here hx rfl (hb hby at_159) rfl (flt hc159).1 ?_
        refine XS.aload Xg51.here hx rfl (hb hby at_162) rfl rfl ?_
        exact Steps.refl _)
      obtain ⟨cq59, kq59, q59a, q59b, q59c⟩ := isOf hZ eh51 Q33_0
      obtain ⟨_, _, ⟨T59, L59, k59, n59⟩, -, X59, ⟨Lc59, hQ59, l59, y59, z59⟩, st59⟩ := Xg51.virtualBack hx (y := (⟨"com/example/thin_gateway/thingateway/avro/AvroDecoder", "readLong", "()J"⟩ : MethodName)) (z := (⟨"com/example/thin_gateway/thingateway/avro/AvroDecoder", "readLong", "()J"⟩ : MethodName)) hown (mvT hZ (hw _ (List.mem_of_getElem? (i := 40) rfl))) (mvT hZ (hw _ (List.mem_of_getElem? (i := 41) rfl))) (notFace_of_selects (args := #[]) (mvT hZ (hw _ (List.mem_of_getElem? (i := 43) rfl)))) (mvT hZ (hw _ (List.mem_of_getElem? (i := 43) rfl))) (mvT hZ (hw _ (List.mem_of_getElem? (i := 42) rfl))) (by decide) (backOf (W := 0) (rm7 l Z a0 hw [] b27 b24_b k_24 nn vsb (0 : Int32) T33.heap n0 Z_36 Q33_0 Q33_2 Q33_1 V_37 (Ne.symm ne_b24_b_b27) ge_b27 ((own_r2 hD (1 : Int32) 1 rfl (by decide) hQ1 hc159).1)) hZ (hw _ (List.mem_of_getElem? (i := 44) rfl)) (hw _ (List.mem_of_getElem? (i := 7) rfl)) (by decide) (by decide)) q59a q59c (g := (mkF m 164 #[.val (.int p0), .val (.int p1), .val (.int p2), .val (.int p3), .val (.int nn), .val (.int v14_0), .val (.int ba1), .val (.int ba2), .val (.int ba3), .val (.int v7_0), .val (.int v19_0), .val (.ref b24_b), .val (.ref b27), .val (.int v46_0), .val (.int r52), .unset] [(.ref b27)])) rfl (by rw [hml]; rfl) K58 (argsL := []) (rest := []) (lenOf pd_5 rfl) rfl (by show 2 * 0 + _ ≤ _; exact Nat.le_of_eq rfl) (hb hby at_164) (fun _ _ => ⟨rfl, eh51, (by decide : 4 + 0 ≤ _), (by decide : 30 + 0 ≤ _)⟩)
      dsimp only [Pt.U, Pt.locs, Pt.cells, Pt.slots] at X59 l59 y59 z59 st59 hQ59
      subst l59 y59 z59
      obtain ⟨rfl, N59, Kp59, Q59_0, Q59_1, Q59_2⟩ := hQ59
      have N59' := Fr.app Ng51 N59
      obtain ⟨Lg59, Xg59, Ng59⟩ : ∃ Lg, Stand p l e room_1 (s.setVm T33.vm) m #[(.int p0), (.int p1), (.int p2), (.int p3)] below meth c T59 Lg 4 30 ∧ Fr n0 Lg := ⟨_, X59, N59'⟩
      have K61 : Steps p.tables e below _ (T59.setTop (mkF m 167 #[.val (.int p0), .val (.int p1), .val (.int p2), .val (.int p3), .val (.int nn), .val (.int v14_0), .val (.int ba1), .val (.int ba2), .val (.int ba3), .val (.int v7_0), .val (.int v19_0), .val (.ref b24_b), .val (.ref b27), .val (.int v46_0), .val (.int r52), .unset] [(.long (f_rm7 vsb (0 : Int32)))])) := st59
      obtain ⟨r60, hr60⟩ : ∃ z : Int64, (f_rm7 vsb (0 : Int32)) = z := ⟨_, rfl⟩
      rw [hr60] at K61
      have K62 : Steps p.tables e below _ (T59.setTop (mkF m 170 #[.val (.int p0), .val (.int p1), .val (.int p2), .val (.int p3), .val (.int nn), .val (.int v14_0), .val (.int ba1), .val (.int ba2), .val (.int ba3), .val (.int v7_0), .val (.int v19_0), .val (.ref b24_b), .val (.ref b27), .val (.int v46_0), .val (.int r52), .unset] [(.int v46_0)])) := K61.trans (by
        refine own_pop2L Xg59.here hx rfl (hb hby at_167) rfl ?_
        refine XS.iload Xg59.here hx rfl (hb hby at_168) rfl ?_
        exact Steps.refl _)
      obtain ⟨T63, L63, v63_0, X63, e63, N63, hv63_0, S63⟩ : ∃ (T63 : State) (L63 : List Loc) (v63_0 : Int32), Stand p l e room_1 (s.setVm T33.vm) m #[(.int p0), (.int p1), (.int p2), (.int p3)] below meth c T63 L63 4 30 ∧ T63.heap = T59.heap ∧ Fr n0 L63 ∧ (if v46_0 = (0 : Int32) then (0 : Int32) else (if ((if ((rl 10 vsb (0 : Int32) (0 : Int64) (0 : Int32)).2) = nn then (1 : Int32) else (0 : Int32)) &&& 1) = (if v19_0 = (1 : Int32) then (1 : Int32) else (0 : Int32)) then (1 : Int32) else (0 : Int32))) = v63_0 ∧ Steps p.tables e below (T59.setTop (mkF m 170 #[.val (.int p0), .val (.int p1), .val (.int p2), .val (.int p3), .val (.int nn), .val (.int v14_0), .val (.int ba1), .val (.int ba2), .val (.int ba3), .val (.int v7_0), .val (.int v19_0), .val (.ref b24_b), .val (.ref b27), .val (.int v46_0), .val (.int r52), .unset] [(.int v46_0)])) (T63.setTop (mkF m 197 #[.val (.int p0), .val (.int p1), .val (.int p2), .val (.int p3), .val (.int nn), .val (.int v14_0), .val (.int ba1), .val (.int ba2), .val (.int ba3), .val (.int v7_0), .val (.int v19_0), .val (.ref b24_b), .val (.ref b27), .val (.int v46_0), .val (.int r52), .unset] [(.int v63_0)])) := by
        have R63 := Steps.refl (tb := p.tables) (e := e) (below := below) (T59.setTop (mkF m 170 #[.val (.int p0), .val (.int p1), .val (.int p2), .val (.int p3), .val (.int nn), .val (.int v14_0), .val (.int ba1), .val (.int ba2), .val (.int ba3), .val (.int v7_0), .val (.int v19_0), .val (.ref b24_b), .val (.ref b27), .val (.int v46_0), .val (.int r52), .unset] [(.int v46_0)]))
        by_cases hc170 : v46_0 = (0 : Int32)
        · have K64 : Steps p.tables e below _ (T59.setTop (mkF m 197 #[.val (.int p0), .val (.int p1), .val (.int p2), .val (.int p3), .val (.int nn), .val (.int v14_0), .val (.int ba1), .val (.int ba2), .val (.int ba3), .val (.int v7_0), .val (.int v19_0), .val (.ref b24_b), .val (.ref b27), .val (.int v46_0), .val (.int r52), .unset] [(.int (0 : Int32))])) := R63.trans (by
            refine XS.ifYes Xg59.here hx rfl (pc0 := 170) (pc' := 196) rfl (hb hby at_170) rfl ((if0 _ _).trans (teq hc170).1) (by decide) (by decide) ?_
            refine XS.iconst Xg59.here hx rfl (hb hby at_196) ?_
            exact Steps.refl _)
          exact ⟨T59, _, (0 : Int32), Xg59, rfl, Ng59, (by rw [if_pos hc170]), K64⟩
        · have K65 : Steps p.tables e below _ (T59.setTop (mkF m 175 #[.val (.int p0), .val (.int p1), .val (.int p2), .val (.int p3), .val (.int nn), .val (.int v14_0), .val (.int ba1), .val (.int ba2), .val (.int ba3), .val (.int v7_0), .val (.int v19_0), .val (.ref b24_b), .val (.ref b27), .val (.int v46_0), .val (.int r52), .unset] [(.ref b27)])) := R63.trans (by
            refine XS.ifNo Xg59.here hx rfl (hb hby at_170) rfl ((if0 _ _).trans (feq hc170).1) ?_
            refine XS.aload Xg59.here hx rfl (hb hby at_173) rfl rfl ?_
            exact Steps.refl _)
          have Z_66 : n0 ≤ T59.heap.size := (Nat.le_trans Z_36 Kp59.1)
          have V_67 : Arv Z T59.heap b24_b k_24 .byte nn vsb (.int (0 : Int32)) := (V_37.keep Kp59 (ninS ne_b24_b_b27 nin0))
          obtain ⟨cq68, kq68, q68a, q68b, q68c⟩ := isOf hZ rfl Q59_0
          obtain ⟨_, _, ⟨T68, L68, k68, n68⟩, -, X68, ⟨Lc68, hQ68, l68, y68, z68⟩, st68⟩ := Xg59.virtualBack hx (y := (⟨"com/example/thin_gateway/thingateway/avro/AvroDecoder", "isAtEnd", "()Z"⟩ : MethodName)) (z := (⟨"com/example/thin_gateway/thingateway/avro/AvroDecoder", "isAtEnd", "()Z"⟩ : MethodName)) hown (mvT hZ (hw _ (List.mem_of_getElem? (i := 29) rfl))) (mvT hZ (hw _ (List.mem_of_getElem? (i := 30) rfl))) (notFace_of_selects (args := #[]) (mvT hZ (hw _ (List.mem_of_getElem? (i := 32) rfl)))) (mvT hZ (hw _ (List.mem_of_getElem? (i := 32) rfl))) (mvT hZ (hw _ (List.mem_of_getElem? (i := 31) rfl))) (by decide) (backOf (W := 0) (rm5 l Z a0 hw [] b27 b24_b k_24 nn vsb ((rl 10 vsb (0 : Int32) (0 : Int64) (0 : Int32)).2) T59.heap n0 Z_66 Q59_1 Q59_2 V_67) hZ (hw _ (List.mem_of_getElem? (i := 33) rfl)) (hw _ (List.mem_of_getElem? (i := 7) rfl)) (by decide) (by decide)) q68a q68c (g := (mkF m 175 #[.val (.int p0), .val (.int p1), .val (.int p2), .val (.int p3), .val (.int nn), .val (.int v14_0), .val (.int ba1), .val (.int ba2), .val (.int ba3), .val (.int v7_0), .val (.int v19_0), .val (.ref b24_b), .val (.ref b27), .val (.int v46_0), .val (.int r52), .unset] [(.ref b27)])) rfl (by rw [hml]; rfl) K65 (argsL := []) (rest := []) (lenOf pd_3 rfl) rfl (by show 2 * 0 + _ ≤ _; exact Nat.le_of_eq rfl) (hb hby at_175) (fun _ _ => ⟨rfl, rfl, (by decide : 4 + 0 ≤ _), (by decide : 30 + 0 ≤ _)⟩)
          dsimp only [Pt.U, Pt.locs, Pt.cells, Pt.slots] at X68 l68 y68 z68 st68 hQ68
          subst l68 y68 z68
          obtain ⟨rfl, N68, eh68⟩ := hQ68
          have N68' := Fr.app Ng59 N68
          obtain ⟨Lg68, Xg68, Ng68⟩ : ∃ Lg, Stand p l e room_1 (s.setVm T33.vm) m #[(.int p0), (.int p1), (.int p2), (.int p3)] below meth c T68 Lg 4 30 ∧ Fr n0 Lg := ⟨_, X68, N68'⟩
          have K70 : Steps p.tables e below _ (T68.setTop (mkF m 178 #[.val (.int p0), .val (.int p1), .val (.int p2), .val (.int p3), .val (.int nn), .val (.int v14_0), .val (.int ba1), .val (.int ba2), .val (.int ba3), .val (.int v7_0), .val (.int v19_0), .val (.ref b24_b), .val (.ref b27), .val (.int v46_0), .val (.int r52), .unset] [(.int ((if ((rl 10 vsb (0 : Int32) (0 : Int64) (0 : Int32)).2) = nn then (1 : Int32) else (0 : Int32)) &&& 1))])) := st68
          obtain ⟨r69, hr69⟩ : ∃ z : Int32, ((if ((rl 10 vsb (0 : Int32) (0 : Int64) (0 : Int32)).2) = nn then (1 : Int32) else (0 : Int32)) &&& 1) = z := ⟨_, rfl⟩
          rw [hr69] at K70
          have K71 : Steps p.tables e below _ (T68.setTop (mkF m 181 #[.val (.int p0), .val (.int p1), .val (.int p2), .val (.int p3), .val (.int nn), .val (.int v14_0), .val (.int ba1), .val (.int ba2), .val (.int ba3), .val (.int v7_0), .val (.int v19_0), .val (.ref b24_b), .val (.ref b27), .val (.int v46_0), .val (.int r52), .unset] [(.int (1 : Int32)), (.int v19_0), (.int r69)])) := K70.trans (by
            refine XS.iload Xg68.here hx rfl (hb hby at_178) rfl ?_
            refine XS.iconst Xg68.here hx rfl (hb hby at_180) ?_
            exact Steps.refl _)
          obtain ⟨v72_0, hv72_0, S72⟩ : ∃ (v72_0 : Int32), (if v19_0 = (1 : Int32) then (1 : Int32) else (0 : Int32)) = v72_0 ∧ Steps p.tables e below (T68.setTop (mkF m 181 #[.val (.int p0), .val (.int p1), .val (.int p2), .val (.int p3), .val (.int nn), .val (.int v14_0), .val (.int ba1), .val (.int ba2), .val (.int ba3), .val (.int v7_0), .val (.int v19_0), .val (.ref b24_b), .val (.ref b27), .val (.int v46_0), .val (.int r52), .unset] [(.int (1 : Int32)), (.int v19_0), (.int r69)])) (T68.setTop (mkF m 189 #[.val (.int p0), .val (.int p1), .val (.int p2), .val (.int p3), .val (.int nn), .val (.int v14_0), .val (.int ba1), .val (.int ba2), .val (.int ba3), .val (.int v7_0), .val (.int v19_0), .val (.ref b24_b), .val (.ref b27), .val (.int v46_0), .val (.int r52), .unset] [(.int v72_0), (.int r69)])) := by
            have R72 := Steps.refl (tb := p.tables) (e := e) (below := below) (T68.setTop (mkF m 181 #[.val (.int p0), .val (.int p1), .val (.int p2), .val (.int p3), .val (.int nn), .val (.int v14_0), .val (.int ba1), .val (.int ba2), .val (.int ba3), .val (.int v7_0), .val (.int v19_0), .val (.ref b24_b), .val (.ref b27), .val (.int v46_0), .val (.int r52), .unset] [(.int (1 : Int32)), (.int v19_0), (.int r69)]))
            by_cases hc181 : v19_0 = (1 : Int32)
            · have K73 : Steps p.tables e below _ (T68.setTop (mkF m 189 #[.val (.int p0), .val (.int p1), .val (.int p2), .val (.int p3), .val (.int nn), .val (.int v14_0), .val (.int ba1), .val (.int ba2), .val (.int ba3), .val (.int v7_0), .val (.int v19_0), .val (.ref b24_b), .val (.ref b27), .val (.int v46_0), .val (.int r52), .unset] [(.int (1 : Int32)), (.int r69)])) := R72.trans (by
                refine XS.icmpNo Xg68.here hx rfl (hb hby at_181) rfl (teq hc181).2 ?_
                refine XS.iconst Xg68.here hx rfl (hb hby at_184) ?_
                refine XS.goto Xg68.here hx rfl (pc0 := 185) (pc' := 189) rfl (hb hby at_185) (by decide) (by decide) ?_
                exact Steps.refl _)
              exact ⟨(1 : Int32), (by rw [if_pos hc181]), K73⟩
            · have K74 : Steps p.tables e below _ (T68.setTop (mkF m 189 #[.val (.int p0), .val (.int p1), .val (.int p2), .val (.int p3), .val (.int nn), .val (.int v14_0), .val (.int ba1), .val (.int ba2), .val (.int ba3), .val (.int v7_0), .val (.int v19_0), .val (.ref b24_b), .val (.ref b27), .val (.int v46_0), .val (.int r52), .unset] [(.int (0 : Int32)), (.int r69)])) := R72.trans (by
                refine XS.icmpYes Xg68.here hx rfl (pc0 := 181) (pc' := 188) rfl (hb hby at_181) rfl (feq hc181).2 (by decide) (by decide) ?_
                refine XS.iconst Xg68.here hx rfl (hb hby at_188) ?_
                exact Steps.refl _)
              exact ⟨(0 : Int32), (by rw [if_neg hc181]), K74⟩
          have K75 := K71.trans S72
          by_cases hc189 : r69 = v72_0
          · have K76 : Steps p.tables e below _ (T68.setTop (mkF m 197 #[.val (.int p0), .val (.int p1), .val (.int p2), .val (.int p3), .val (.int nn), .val (.int v14_0), .val (.int ba1), .val (.int ba2), .val (.int ba3), .val (.int v7_0), .val (.int v19_0), .val (.ref b24_b), .val (.ref b27), .val (.int v46_0), .val (.int r52), .unset] [(.int (1 : Int32))])) := K75.trans (by
              refine XS.icmpNo Xg68.here hx rfl (hb hby at_189) rfl (teq hc189).2 ?_
              refine XS.iconst Xg68.here hx rfl (hb hby at_192) ?_
              refine XS.goto Xg68.here hx rfl (pc0 := 193) (pc' := 197) rfl (hb hby at_193) (by decide) (by decide) ?_
              exact Steps.refl _)
            subst hv72_0
            subst hr69
            exact ⟨T68, _, (1 : Int32), Xg68, eh68, Ng68, (by rw [if_neg hc170, if_pos hc189]), K76⟩
          · have K77 : Steps p.tables e below _ (T68.setTop (mkF m 197 #[.val (.int p0), .val (.int p1), .val (.int p2), .val (.int p3), .val (.int nn), .val (.int v14_0), .val (.int ba1), .val (.int ba2), .val (.int ba3), .val (.int v7_0), .val (.int v19_0), .val (.ref b24_b), .val (.ref b27), .val (.int v46_0), .val (.int r52), .unset] [(.int (0 : Int32))])) := K75.trans (by
              refine XS.icmpYes Xg68.here hx rfl (pc0 := 189) (pc' := 196) rfl (hb hby at_189) rfl (feq hc189).2 (by decide) (by decide) ?_
              refine XS.iconst Xg68.here hx rfl (hb hby at_196) ?_
              exact Steps.refl _)
            subst hv72_0
            subst hr69
            exact ⟨T68, _, (0 : Int32), Xg68, eh68, Ng68, (by rw [if_neg hc170, if_neg hc189]), K77⟩
      have K78 := K62.trans S63
      have K79 : Steps p.tables e below _ (T63.setTop (mkF m 199 #[.val (.int p0), .val (.int p1), .val (.int p2), .val (.int p3), .val (.int nn), .val (.int v14_0), .val (.int ba1), .val (.int ba2), .val (.int ba3), .val (.int v7_0), .val (.int v19_0), .val (.ref b24_b), .val (.ref b27), .val (.int v63_0), .val (.int r52), .unset] [])) := K78.trans (by
        refine XS.istore X63.here hx rfl (hb hby at_197) rfl (l' := #[.val (.int p0), .val (.int p1), .val (.int p2), .val (.int p3), .val (.int nn), .val (.int v14_0), .val (.int ba1), .val (.int ba2), .val (.int ba3), .val (.int v7_0), .val (.int v19_0), .val (.ref b24_b), .val (.ref b27), .val (.int v63_0), .val (.int r52), .unset]) rfl ?_
        exact Steps.refl _)
      have Z_81 : n0 ≤ T59.heap.size := (Nat.le_trans Z_36 Kp59.1)
      have E_82 : Exa Z T59.heap b24_b "[B" := ((E_32.keep Kp33).keep Kp59)
      have V_83 : Arv Z T59.heap b24_b k_24 .byte nn vsb (.int (0 : Int32)) := (V_37.keep Kp59 (ninS ne_b24_b_b27 nin0))
      have Y_84 : T33.heap.size ≤ T59.heap.size := (Nat.le_trans hkk33 Kp59.1)
      subst hv63_0
      subst hr60
      exact ⟨T63, _, _, (if v46_0 = (0 : Int32) then (0 : Int32) else (if ((if ((rl 10 vsb (0 : Int32) (0 : Int64) (0 : Int32)).2) = nn then (1 : Int32) else (0 : Int32)) &&& 1) = (if v19_0 = (1 : Int32) then (1 : Int32) else (0 : Int32)) then (1 : Int32) else (0 : Int32))), (rl 10 vsb (0 : Int32) (0 : Int64) (0 : Int32)).2, X63, e63, N63, Z_81, E_82, V_83, Q59_0, Y_84, Q59_2, Q59_1, (by rw [if_neg hc159]), (by rw [if_neg hc159]), K79⟩
  have K85 := K55.trans S56
  have hQ2 := own_q hD (1 : Int32) 1 rfl (by decide) hQ1 hv56_1
  have K86 : Steps p.tables e below _ (T56.setTop (mkF m 202 #[.val (.int p0), .val (.int p1), .val (.int p2), .val (.int p3), .val (.int nn), .val (.int v14_0), .val (.int ba1), .val (.int ba2), .val (.int ba3), .val (.int v7_0), .val (.int v19_0), .val (.ref b24_b), .val (.ref b27), .val (.int v56_0), .val (.int r52), .unset] [(.int (2 : Int32)), (.int r52)])) := K85.trans (by
    refine XS.iload X56.here hx rfl (hb hby at_199) rfl ?_
    refine XS.iconst X56.here hx rfl (hb hby at_201) ?_
    exact Steps.refl _)
  obtain ⟨T87, L87, h87, v87_0, v87_1, X87, e87, N87, Z87, M87_1, M87_2, M87_3, M87_4, M87_5, M87_6, hv87_0, hv87_1, S87⟩ : ∃ (T87 : State) (L87 : List Loc) (h87 : Heap) (v87_0 : Int32) (v87_1 : Int32), Stand p l e room_1 (s.setVm T33.vm) m #[(.int p0), (.int p1), (.int p2), (.int p3)] below meth c T87 L87 4 30 ∧ T87.heap = h87 ∧ Fr n0 L87 ∧ n0 ≤ h87.size ∧ Exa Z h87 b24_b "[B" ∧ Arv Z h87 b24_b k_24 .byte nn vsb (.int (0 : Int32)) ∧ Exa Z h87 b27 "com/example/thin_gateway/thingateway/avro/AvroDecoder" ∧ T33.heap.size ≤ h87.size ∧ Fld Z h87 b27 "com/example/thin_gateway/thingateway/avro/AvroDecoder" "position" "I" (.int v87_1) ∧ Fld Z h87 b27 "com/example/thin_gateway/thingateway/avro/AvroDecoder" "input" "[B" (.ref b24_b) ∧ (if r52 < (2 : Int32) then v56_0 else (if v56_0 = (0 : Int32) then (0 : Int32) else (if ((if ((rl 10 vsb v56_1 (0 : Int64) (0 : Int32)).2) = nn then (1 : Int32) else (0 : Int32)) &&& 1) = (if v19_0 = (2 : Int32) then (1 : Int32) else (0 : Int32)) then (1 : Int32) else (0 : Int32)))) = v87_0 ∧ (if r52 < (2 : Int32) then v56_1 else (rl 10 vsb v56_1 (0 : Int64) (0 : Int32)).2) = v87_1 ∧ Steps p.tables e below (T56.setTop (mkF m 202 #[.val (.int p0), .val (.int p1), .val (.int p2), .val (.int p3), .val (.int nn), .val (.int v14_0), .val (.int ba1), .val (.int ba2), .val (.int ba3), .val (.int v7_0), .val (.int v19_0), .val (.ref b24_b), .val (.ref b27), .val (.int v56_0), .val (.int r52), .unset] [(.int (2 : Int32)), (.int r52)])) (T87.setTop (mkF m 242 #[.val (.int p0), .val (.int p1), .val (.int p2), .val (.int p3), .val (.int nn), .val (.int v14_0), .val (.int ba1), .val (.int ba2), .val (.int ba3), .val (.int v7_0), .val (.int v19_0), .val (.ref b24_b), .val (.ref b27), .val (.int v87_0), .val (.int r52), .unset] [])) := by
    have R87 := Steps.refl (tb := p.tables) (e := e) (below := below) (T56.setTop (mkF m 202 #[.val (.int p0), .val (.int p1), .val (.int p2), .val (.int p3), .val (.int nn), .val (.int v14_0), .val (.int ba1), .val (.int ba2), .val (.int ba3), .val (.int v7_0), .val (.int v19_0), .val (.ref b24_b), .val (.ref b27), .val (.int v56_0), .val (.int r52), .unset] [(.int (2 : Int32)), (.int r52)]))
    by_cases hc202 : r52 < (2 : Int32)
    · have K88 : Steps p.tables e below _ (T56.setTop (mkF m 242 #[.val (.int p0), .val (.int p1), .val (.int p2), .val (.int p3), .val (.int nn), .val (.int v14_0), .val (.int ba1), .val (.int ba2), .val (.int ba3), .val (.int v7_0), .val (.int v19_0), .val (.ref b24_b), .val (.ref b27), .val (.int v56_0), .val (.int r52), .unset] [])) := R87.trans (by
        refine XS.icmpYes X56.here hx rfl (pc0 := 202) (pc' := 242) rfl (hb hby at_202) rfl (tlt hc202).1 (by decide) (by decide) ?_
        exact Steps.refl _)
      exact ⟨T56, _, _, v56_0, v56_1, X56, e56, N56, Z56, M56_1, M56_2, M56_3, M56_4, M56_5, M56_6, (by rw [if_pos hc202]), (by rw [if_pos hc202]), K88⟩
    · have K89 : Steps p.tables e below _ (T56.setTop (mkF m 207 #[.val (.int p0), .val (.int p1), .val (.int p2), .val (.int p3), .val (.int nn), .val (.int v14_0), .val (.int ba1), .val (.int ba2), .val (.int ba3), .val (.int v7_0), .val (.int v19_0), .val (.ref b24_b), .val (.ref b27), .val (.int v56_0), .val (.int r52), .unset] [(.ref b27)])) := R87.trans (by
        refine XS.icmpNo X56.here hx rfl (hb hby at_202) rfl (flt hc202).1 ?_
        refine XS.aload X56.here hx rfl (hb hby at_205) rfl rfl ?_
        exact Steps.refl _)
      obtain ⟨cq90, kq90, q90a, q90b, q90c⟩ := isOf hZ e56 M56_3
      obtain ⟨_, _, ⟨T90, L90, k90, n90⟩, -, X90, ⟨Lc90, hQ90, l90, y90, z90⟩, st90⟩ := X56.virtualBack hx (y := (⟨"com/example/thin_gateway/thingateway/avro/AvroDecoder", "readLong", "()J"⟩ : MethodName)) (z := (⟨"com/example/thin_gateway/thingateway/avro/AvroDecoder", "readLong", "()J"⟩ : MethodName)) hown (mvT hZ (hw _ (List.mem_of_getElem? (i := 40) rfl))) (mvT hZ (hw _ (List.mem_of_getElem? (i := 41) rfl))) (notFace_of_selects (args := #[]) (mvT hZ (hw _ (List.mem_of_getElem? (i := 43) rfl)))) (mvT hZ (hw _ (List.mem_of_getElem? (i := 43) rfl))) (mvT hZ (hw _ (List.mem_of_getElem? (i := 42) rfl))) (by decide) (backOf (W := 0) (rm7 l Z a0 hw [] b27 b24_b k_24 nn vsb v56_1 h56 n0 Z56 M56_3 M56_6 M56_5 M56_2 (Ne.symm ne_b24_b_b27) ge_b27 ((own_r2 hD (2 : Int32) 2 rfl (by decide) hQ2 hc202).1)) hZ (hw _ (List.mem_of_getElem? (i := 44) rfl)) (hw _ (List.mem_of_getElem? (i := 7) rfl)) (by decide) (by decide)) q90a q90c (g := (mkF m 207 #[.val (.int p0), .val (.int p1), .val (.int p2), .val (.int p3), .val (.int nn), .val (.int v14_0), .val (.int ba1), .val (.int ba2), .val (.int ba3), .val (.int v7_0), .val (.int v19_0), .val (.ref b24_b), .val (.ref b27), .val (.int v56_0), .val (.int r52), .unset] [(.ref b27)])) rfl (by rw [hml]; rfl) K89 (argsL := []) (rest := []) (lenOf pd_5 rfl) rfl (by show 2 * 0 + _ ≤ _; exact Nat.le_of_eq rfl) (hb hby at_207) (fun _ _ => ⟨rfl, e56, (by decide : 4 + 0 ≤ _), (by decide : 30 + 0 ≤ _)⟩)
      dsimp only [Pt.U, Pt.locs, Pt.cells, Pt.slots] at X90 l90 y90 z90 st90 hQ90
      subst l90 y90 z90
      obtain ⟨rfl, N90, Kp90, Q90_0, Q90_1, Q90_2⟩ := hQ90
      have N90' := Fr.app N56 N90
      obtain ⟨Lg90, Xg90, Ng90⟩ : ∃ Lg, Stand p l e room_1 (s.setVm T33.vm) m #[(.int p0), (.int p1), (.int p2), (.int p3)] below meth c T90 Lg 4 30 ∧ Fr n0 Lg := ⟨_, X90, N90'⟩
      have K92 : Steps p.tables e below _ (T90.setTop (mkF m 210 #[.val (.int p0), .val (.int p1), .val (.int p2), .val (.int p3), .val (.int nn), .val (.int v14_0), .val (.int ba1), .val (.int ba2), .val (.int ba3), .val (.int v7_0), .val (.int v19_0), .val (.ref b24_b), .val (.ref b27), .val (.int v56_0), .val (.int r52), .unset] [(.long (f_rm7 vsb v56_1))])) := st90
      obtain ⟨r91, hr91⟩ : ∃ z : Int64, (f_rm7 vsb v56_1) = z := ⟨_, rfl⟩
      rw [hr91] at K92
      have K93 : Steps p.tables e below _ (T90.setTop (mkF m 213 #[.val (.int p0), .val (.int p1), .val (.int p2), .val (.int p3), .val (.int nn), .val (.int v14_0), .val (.int ba1), .val (.int ba2), .val (.int ba3), .val (.int v7_0), .val (.int v19_0), .val (.ref b24_b), .val (.ref b27), .val (.int v56_0), .val (.int r52), .unset] [(.int v56_0)])) := K92.trans (by
        refine own_pop2L Xg90.here hx rfl (hb hby at_210) rfl ?_
        refine XS.iload Xg90.here hx rfl (hb hby at_211) rfl ?_
        exact Steps.refl _)
      obtain ⟨T94, L94, v94_0, X94, e94, N94, hv94_0, S94⟩ : ∃ (T94 : State) (L94 : List Loc) (v94_0 : Int32), Stand p l e room_1 (s.setVm T33.vm) m #[(.int p0), (.int p1), (.int p2), (.int p3)] below meth c T94 L94 4 30 ∧ T94.heap = T90.heap ∧ Fr n0 L94 ∧ (if v56_0 = (0 : Int32) then (0 : Int32) else (if ((if ((rl 10 vsb v56_1 (0 : Int64) (0 : Int32)).2) = nn then (1 : Int32) else (0 : Int32)) &&& 1) = (if v19_0 = (2 : Int32) then (1 : Int32) else (0 : Int32)) then (1 : Int32) else (0 : Int32))) = v94_0 ∧ Steps p.tables e below (T90.setTop (mkF m 213 #[.val (.int p0), .val (.int p1), .val (.int p2), .val (.int p3), .val (.int nn), .val (.int v14_0), .val (.int ba1), .val (.int ba2), .val (.int ba3), .val (.int v7_0), .val (.int v19_0), .val (.ref b24_b), .val (.ref b27), .val (.int v56_0), .val (.int r52), .unset] [(.int v56_0)])) (T94.setTop (mkF m 240 #[.val (.int p0), .val (.int p1), .val (.int p2), .val (.int p3), .val (.int nn), .val (.int v14_0), .val (.int ba1), .val (.int ba2), .val (.int ba3), .val (.int v7_0), .val (.int v19_0), .val (.ref b24_b), .val (.ref b27), .val (.int v56_0), .val (.int r52), .unset] [(.int v94_0)])) := by
        have R94 := Steps.refl (tb := p.tables) (e := e) (below := below) (T90.setTop (mkF m 213 #[.val (.int p0), .val (.int p1), .val (.int p2), .val (.int p3), .val (.int nn), .val (.int v14_0), .val (.int ba1), .val (.int ba2), .val (.int ba3), .val (.int v7_0), .val (.int v19_0), .val (.ref b24_b), .val (.ref b27), .val (.int v56_0), .val (.int r52), .unset] [(.int v56_0)]))
        by_cases hc213 : v56_0 = (0 : Int32)
        · have K95 : Steps p.tables e below _ (T90.setTop (mkF m 240 #[.val (.int p0), .val (.int p1), .val (.int p2), .val (.int p3), .val (.int nn), .val (.int v14_0), .val (.int ba1), .val (.int ba2), .val (.int ba3), .val (.int v7_0), .val (.int v19_0), .val (.ref b24_b), .val (.ref b27), .val (.int v56_0), .val (.int r52), .unset] [(.int (0 : Int32))])) := R94.trans (by
            refine XS.ifYes Xg90.here hx rfl (pc0 := 213) (pc' := 239) rfl (hb hby at_213) rfl ((if0 _ _).trans (teq hc213).1) (by decide) (by decide) ?_
            refine XS.iconst Xg90.here hx rfl (hb hby at_239) ?_
            exact Steps.refl _)
          exact ⟨T90, _, (0 : Int32), Xg90, rfl, Ng90, (by rw [if_pos hc213]), K95⟩
        · have K96 : Steps p.tables e below _ (T90.setTop (mkF m 218 #[.val (.int p0), .val (.int p1), .val (.int p2), .val (.int p3), .val (.int nn), .val (.int v14_0), .val (.int ba1), .val (.int ba2), .val (.int ba3), .val (.int v7_0), .val (.int v19_0), .val (.ref b24_b), .val (.ref b27), .val (.int v56_0), .val (.int r52), .unset] [(.ref b27)])) := R94.trans (by
            refine XS.ifNo Xg90.here hx rfl (hb hby at_213) rfl ((if0 _ _).trans (feq hc213).1) ?_
            refine XS.aload Xg90.here hx rfl (hb hby at_216) rfl rfl ?_
            exact Steps.refl _)
          have Z_97 : n0 ≤ T90.heap.size := (Nat.le_trans Z56 Kp90.1)
          have V_98 : Arv Z T90.heap b24_b k_24 .byte nn vsb (.int (0 : Int32)) := (M56_2.keep Kp90 (ninS ne_b24_b_b27 nin0))
          obtain ⟨cq99, kq99, q99a, q99b, q99c⟩ := isOf hZ rfl Q90_0
          obtain ⟨_, _, ⟨T99, L99, k99, n99⟩, -, X99, ⟨Lc99, hQ99, l99, y99, z99⟩, st99⟩ := Xg90.virtualBack hx (y := (⟨"com/example/thin_gateway/thingateway/avro/AvroDecoder", "isAtEnd", "()Z"⟩ : MethodName)) (z := (⟨"com/example/thin_gateway/thingateway/avro/AvroDecoder", "isAtEnd", "()Z"⟩ : MethodName)) hown (mvT hZ (hw _ (List.mem_of_getElem? (i := 29) rfl))) (mvT hZ (hw _ (List.mem_of_getElem? (i := 30) rfl))) (notFace_of_selects (args := #[]) (mvT hZ (hw _ (List.mem_of_getElem? (i := 32) rfl)))) (mvT hZ (hw _ (List.mem_of_getElem? (i := 32) rfl))) (mvT hZ (hw _ (List.mem_of_getElem? (i := 31) rfl))) (by decide) (backOf (W := 0) (rm5 l Z a0 hw [] b27 b24_b k_24 nn vsb ((rl 10 vsb v56_1 (0 : Int64) (0 : Int32)).2) T90.heap n0 Z_97 Q90_1 Q90_2 V_98) hZ (hw _ (List.mem_of_getElem? (i := 33) rfl)) (hw _ (List.mem_of_getElem? (i := 7) rfl)) (by decide) (by decide)) q99a q99c (g := (mkF m 218 #[.val (.int p0), .val (.int p1), .val (.int p2), .val (.int p3), .val (.int nn), .val (.int v14_0), .val (.int ba1), .val (.int ba2), .val (.int ba3), .val (.int v7_0), .val (.int v19_0), .val (.ref b24_b), .val (.ref b27), .val (.int v56_0), .val (.int r52), .unset] [(.ref b27)])) rfl (by rw [hml]; rfl) K96 (argsL := []) (rest := []) (lenOf pd_3 rfl) rfl (by show 2 * 0 + _ ≤ _; exact Nat.le_of_eq rfl) (hb hby at_218) (fun _ _ => ⟨rfl, rfl, (by decide : 4 + 0 ≤ _), (by decide : 30 + 0 ≤ _)⟩)
          dsimp only [Pt.U, Pt.locs, Pt.cells, Pt.slots] at X99 l99 y99 z99 st99 hQ99
          subst l99 y99 z99
          obtain ⟨rfl, N99, eh99⟩ := hQ99
          have N99' := Fr.app Ng90 N99
          obtain ⟨Lg99, Xg99, Ng99⟩ : ∃ Lg, Stand p l e room_1 (s.setVm T33.vm) m #[(.int p0), (.int p1), (.int p2), (.int p3)] below meth c T99 Lg 4 30 ∧ Fr n0 Lg := ⟨_, X99, N99'⟩
          have K101 : Steps p.tables e below _ (T99.setTop (mkF m 221 #[.val (.int p0), .val (.int p1), .val (.int p2), .val (.int p3), .val (.int nn), .val (.int v14_0), .val (.int ba1), .val (.int ba2), .val (.int ba3), .val (.int v7_0), .val (.int v19_0), .val (.ref b24_b), .val (.ref b27), .val (.int v56_0), .val (.int r52), .unset] [(.int ((if ((rl 10 vsb v56_1 (0 : Int64) (0 : Int32)).2) = nn then (1 : Int32) else (0 : Int32)) &&& 1))])) := st99
          obtain ⟨r100, hr100⟩ : ∃ z : Int32, ((if ((rl 10 vsb v56_1 (0 : Int64) (0 : Int32)).2) = nn then (1 : Int32) else (0 : Int32)) &&& 1) = z := ⟨_, rfl⟩
          rw [hr100] at K101
          have K102 : Steps p.tables e below _ (T99.setTop (mkF m 224 #[.val (.int p0), .val (.int p1), .val (.int p2), .val (.int p3), .val (.int nn), .val (.int v14_0), .val (.int ba1), .val (.int ba2), .val (.int ba3), .val (.int v7_0), .val (.int v19_0), .val (.ref b24_b), .val (.ref b27), .val (.int v56_0), .val (.int r52), .unset] [(.int (2 : Int32)), (.int v19_0), (.int r100)])) := K101.trans (by
            refine XS.iload Xg99.here hx rfl (hb hby at_221) rfl ?_
            refine XS.iconst Xg99.here hx rfl (hb hby at_223) ?_
            exact Steps.refl _)
          obtain ⟨v103_0, hv103_0, S103⟩ : ∃ (v103_0 : Int32), (if v19_0 = (2 : Int32) then (1 : Int32) else (0 : Int32)) = v103_0 ∧ Steps p.tables e below (T99.setTop (mkF m 224 #[.val (.int p0), .val (.int p1), .val (.int p2), .val (.int p3), .val (.int nn), .val (.int v14_0), .val (.int ba1), .val (.int ba2), .val (.int ba3), .val (.int v7_0), .val (.int v19_0), .val (.ref b24_b), .val (.ref b27), .val (.int v56_0), .val (.int r52), .unset] [(.int (2 : Int32)), (.int v19_0), (.int r100)])) (T99.setTop (mkF m 232 #[.val (.int p0), .val (.int p1), .val (.int p2), .val (.int p3), .val (.int nn), .val (.int v14_0), .val (.int ba1), .val (.int ba2), .val (.int ba3), .val (.int v7_0), .val (.int v19_0), .val (.ref b24_b), .val (.ref b27), .val (.int v56_0), .val (.int r52), .unset] [(.int v103_0), (.int r100)])) := by
            have R103 := Steps.refl (tb := p.tables) (e := e) (below := below) (T99.setTop (mkF m 224 #[.val (.int p0), .val (.int p1), .val (.int p2), .val (.int p3), .val (.int nn), .val (.int v14_0), .val (.int ba1), .val (.int ba2), .val (.int ba3), .val (.int v7_0), .val (.int v19_0), .val (.ref b24_b), .val (.ref b27), .val (.int v56_0), .val (.int r52), .unset] [(.int (2 : Int32)), (.int v19_0), (.int r100)]))
            by_cases hc224 : v19_0 = (2 : Int32)
            · have K104 : Steps p.tables e below _ (T99.setTop (mkF m 232 #[.val (.int p0), .val (.int p1), .val (.int p2), .val (.int p3), .val (.int nn), .val (.int v14_0), .val (.int ba1), .val (.int ba2), .val (.int ba3), .val (.int v7_0), .val (.int v19_0), .val (.ref b24_b), .val (.ref b27), .val (.int v56_0), .val (.int r52), .unset] [(.int (1 : Int32)), (.int r100)])) := R103.trans (by
                refine XS.icmpNo Xg99.here hx rfl (hb hby at_224) rfl (teq hc224).2 ?_
                refine XS.iconst Xg99.here hx rfl (hb hby at_227) ?_
                refine XS.goto Xg99.here hx rfl (pc0 := 228) (pc' := 232) rfl (hb hby at_228) (by decide) (by decide) ?_
                exact Steps.refl _)
              exact ⟨(1 : Int32), (by rw [if_pos hc224]), K104⟩
            · have K105 : Steps p.tables e below _ (T99.setTop (mkF m 232 #[.val (.int p0), .val (.int p1), .val (.int p2), .val (.int p3), .val (.int nn), .val (.int v14_0), .val (.int ba1), .val (.int ba2), .val (.int ba3), .val (.int v7_0), .val (.int v19_0), .val (.ref b24_b), .val (.ref b27), .val (.int v56_0), .val (.int r52), .unset] [(.int (0 : Int32)), (.int r100)])) := R103.trans (by
                refine XS.icmpYes Xg99.here hx rfl (pc0 := 224) (pc' := 231) rfl (hb hby at_224) rfl (feq hc224).2 (by decide) (by decide) ?_
                refine XS.iconst Xg99.here hx rfl (hb hby at_231) ?_
                exact Steps.refl _)
              exact ⟨(0 : Int32), (by rw [if_neg hc224]), K105⟩
          have K106 := K102.trans S103
          by_cases hc232 : r100 = v103_0
          · have K107 : Steps p.tables e below _ (T99.setTop (mkF m 240 #[.val (.int p0), .val (.int p1), .val (.int p2), .val (.int p3), .val (.int nn), .val (.int v14_0), .val (.int ba1), .val (.int ba2), .val (.int ba3), .val (.int v7_0), .val (.int v19_0), .val (.ref b24_b), .val (.ref b27), .val (.int v56_0), .val (.int r52), .unset] [(.int (1 : Int32))])) := K106.trans (by
              refine XS.icmpNo Xg99.here hx rfl (hb hby at_232) rfl (teq hc232).2 ?_
              refine XS.iconst Xg99.here hx rfl (hb hby at_235) ?_
              refine XS.goto Xg99.here hx rfl (pc0 := 236) (pc' := 240) rfl (hb hby at_236) (by decide) (by decide) ?_
              exact Steps.refl _)
            subst hv103_0
            subst hr100
            exact ⟨T99, _, (1 : Int32), Xg99, eh99, Ng99, (by rw [if_neg hc213, if_pos hc232]), K107⟩
          · have K108 : Steps p.tables e below _ (T99.setTop (mkF m 240 #[.val (.int p0), .val (.int p1), .val (.int p2), .val (.int p3), .val (.int nn), .val (.int v14_0), .val (.int ba1), .val (.int ba2), .val (.int ba3), .val (.int v7_0), .val (.int v19_0), .val (.ref b24_b), .val (.ref b27), .val (.int v56_0), .val (.int r52), .unset] [(.int (0 : Int32))])) := K106.trans (by
              refine XS.icmpYes Xg99.here hx rfl (pc0 := 232) (pc' := 239) rfl (hb hby at_232) rfl (feq hc232).2 (by decide) (by decide) ?_
              refine XS.iconst Xg99.here hx rfl (hb hby at_239) ?_
              exact Steps.refl _)
            subst hv103_0
            subst hr100
            exact ⟨T99, _, (0 : Int32), Xg99, eh99, Ng99, (by rw [if_neg hc213, if_neg hc232]), K108⟩
      have K109 := K93.trans S94
      have K110 : Steps p.tables e below _ (T94.setTop (mkF m 242 #[.val (.int p0), .val (.int p1), .val (.int p2), .val (.int p3), .val (.int nn), .val (.int v14_0), .val (.int ba1), .val (.int ba2), .val (.int ba3), .val (.int v7_0), .val (.int v19_0), .val (.ref b24_b), .val (.ref b27), .val (.int v94_0), .val (.int r52), .unset] [])) := K109.trans (by
        refine XS.istore X94.here hx rfl (hb hby at_240) rfl (l' := #[.val (.int p0), .val (.int p1), .val (.int p2), .val (.int p3), .val (.int nn), .val (.int v14_0), .val (.int ba1), .val (.int ba2), .val (.int ba3), .val (.int v7_0), .val (.int v19_0), .val (.ref b24_b), .val (.ref b27), .val (.int v94_0), .val (.int r52), .unset]) rfl ?_
        exact Steps.refl _)
      have Z_111 : n0 ≤ T90.heap.size := (Nat.le_trans Z56 Kp90.1)
      have E_112 : Exa Z T90.heap b24_b "[B" := (M56_1.keep Kp90)
      have V_113 : Arv Z T90.heap b24_b k_24 .byte nn vsb (.int (0 : Int32)) := (M56_2.keep Kp90 (ninS ne_b24_b_b27 nin0))
      have Y_114 : T33.heap.size ≤ T90.heap.size := (Nat.le_trans M56_4 Kp90.1)
      subst hv94_0
      subst hr91
      exact ⟨T94, _, _, (if v56_0 = (0 : Int32) then (0 : Int32) else (if ((if ((rl 10 vsb v56_1 (0 : Int64) (0 : Int32)).2) = nn then (1 : Int32) else (0 : Int32)) &&& 1) = (if v19_0 = (2 : Int32) then (1 : Int32) else (0 : Int32)) then (1 : Int32) else (0 : Int32))), (rl 10 vsb v56_1 (0 : Int64) (0 : Int32)).2, X94, e94, N94, Z_111, E_112, V_113, Q90_0, Y_114, Q90_2, Q90_1, (by rw [if_neg hc202]), (by rw [if_neg hc202]), K110⟩
  have K115 := K86.trans S87
  have hQ3 := own_q hD (2 : Int32) 2 rfl (by decide) hQ2 hv87_1
  have K116 : Steps p.tables e below _ (T87.setTop (mkF m 245 #[.val (.int p0), .val (.int p1), .val (.int p2), .val (.int p3), .val (.int nn), .val (.int v14_0), .val (.int ba1), .val (.int ba2), .val (.int ba3), .val (.int v7_0), .val (.int v19_0), .val (.ref b24_b), .val (.ref b27), .val (.int v87_0), .val (.int r52), .unset] [(.int (3 : Int32)), (.int r52)])) := K115.trans (by
    refine XS.iload X87.here hx rfl (hb hby at_242) rfl ?_
    refine XS.iconst X87.here hx rfl (hb hby at_244) ?_
    exact Steps.refl _)
  obtain ⟨T117, L117, h117, v117_0, v117_1, X117, e117, N117, Z117, M117_1, M117_2, M117_3, M117_4, M117_5, M117_6, hv117_0, hv117_1, S117⟩ : ∃ (T117 : State) (L117 : List Loc) (h117 : Heap) (v117_0 : Int32) (v117_1 : Int32), Stand p l e room_1 (s.setVm T33.vm) m #[(.int p0), (.int p1), (.int p2), (.int p3)] below meth c T117 L117 4 30 ∧ T117.heap = h117 ∧ Fr n0 L117 ∧ n0 ≤ h117.size ∧ Exa Z h117 b24_b "[B" ∧ Arv Z h117 b24_b k_24 .byte nn vsb (.int (0 : Int32)) ∧ Exa Z h117 b27 "com/example/thin_gateway/thingateway/avro/AvroDecoder" ∧ T33.heap.size ≤ h117.size ∧ Fld Z h117 b27 "com/example/thin_gateway/thingateway/avro/AvroDecoder" "position" "I" (.int v117_1) ∧ Fld Z h117 b27 "com/example/thin_gateway/thingateway/avro/AvroDecoder" "input" "[B" (.ref b24_b) ∧ (if r52 < (3 : Int32) then v87_0 else (if v87_0 = (0 : Int32) then (0 : Int32) else (if ((if ((rl 10 vsb v87_1 (0 : Int64) (0 : Int32)).2) = nn then (1 : Int32) else (0 : Int32)) &&& 1) = (if v19_0 = (3 : Int32) then (1 : Int32) else (0 : Int32)) then (1 : Int32) else (0 : Int32)))) = v117_0 ∧ (if r52 < (3 : Int32) then v87_1 else (rl 10 vsb v87_1 (0 : Int64) (0 : Int32)).2) = v117_1 ∧ Steps p.tables e below (T87.setTop (mkF m 245 #[.val (.int p0), .val (.int p1), .val (.int p2), .val (.int p3), .val (.int nn), .val (.int v14_0), .val (.int ba1), .val (.int ba2), .val (.int ba3), .val (.int v7_0), .val (.int v19_0), .val (.ref b24_b), .val (.ref b27), .val (.int v87_0), .val (.int r52), .unset] [(.int (3 : Int32)), (.int r52)])) (T117.setTop (mkF m 285 #[.val (.int p0), .val (.int p1), .val (.int p2), .val (.int p3), .val (.int nn), .val (.int v14_0), .val (.int ba1), .val (.int ba2), .val (.int ba3), .val (.int v7_0), .val (.int v19_0), .val (.ref b24_b), .val (.ref b27), .val (.int v117_0), .val (.int r52), .unset] [])) := by
    have R117 := Steps.refl (tb := p.tables) (e := e) (below := below) (T87.setTop (mkF m 245 #[.val (.int p0), .val (.int p1), .val (.int p2), .val (.int p3), .val (.int nn), .val (.int v14_0), .val (.int ba1), .val (.int ba2), .val (.int ba3), .val (.int v7_0), .val (.int v19_0), .val (.ref b24_b), .val (.ref b27), .val (.int v87_0), .val (.int r52), .unset] [(.int (3 : Int32)), (.int r52)]))
    by_cases hc245 : r52 < (3 : Int32)
    · have K118 : Steps p.tables e below _ (T87.setTop (mkF m 285 #[.val (.int p0), .val (.int p1), .val (.int p2), .val (.int p3), .val (.int nn), .val (.int v14_0), .val (.int ba1), .val (.int ba2), .val (.int ba3), .val (.int v7_0), .val (.int v19_0), .val (.ref b24_b), .val (.ref b27), .val (.int v87_0), .val (.int r52), .unset] [])) := R117.trans (by
        refine XS.icmpYes X87.here hx rfl (pc0 := 245) (pc' := 285) rfl (hb hby at_245) rfl (tlt hc245).1 (by decide) (by decide) ?_
        exact Steps.refl _)
      exact ⟨T87, _, _, v87_0, v87_1, X87, e87, N87, Z87, M87_1, M87_2, M87_3, M87_4, M87_5, M87_6, (by rw [if_pos hc245]), (by rw [if_pos hc245]), K118⟩
    · have K119 : Steps p.tables e below _ (T87.setTop (mkF m 250 #[.val (.int p0), .val (.int p1), .val (.int p2), .val (.int p3), .val (.int nn), .val (.int v14_0), .val (.int ba1), .val (.int ba2), .val (.int ba3), .val (.int v7_0), .val (.int v19_0), .val (.ref b24_b), .val (.ref b27), .val (.int v87_0), .val (.int r52), .unset] [(.ref b27)])) := R117.trans (by
        refine XS.icmpNo X87.here hx rfl (hb hby at_245) rfl (flt hc245).1 ?_
        refine XS.aload X87.here hx rfl (hb hby at_248) rfl rfl ?_
        exact Steps.refl _)
      obtain ⟨cq120, kq120, q120a, q120b, q120c⟩ := isOf hZ e87 M87_3
      obtain ⟨_, _, ⟨T120, L120, k120, n120⟩, -, X120, ⟨Lc120, hQ120, l120, y120, z120⟩, st120⟩ := X87.virtualBack hx (y := (⟨"com/example/thin_gateway/thingateway/avro/AvroDecoder", "readLong", "()J"⟩ : MethodName)) (z := (⟨"com/example/thin_gateway/thingateway/avro/AvroDecoder", "readLong", "()J"⟩ : MethodName)) hown (mvT hZ (hw _ (List.mem_of_getElem? (i := 40) rfl))) (mvT hZ (hw _ (List.mem_of_getElem? (i := 41) rfl))) (notFace_of_selects (args := #[]) (mvT hZ (hw _ (List.mem_of_getElem? (i := 43) rfl)))) (mvT hZ (hw _ (List.mem_of_getElem? (i := 43) rfl))) (mvT hZ (hw _ (List.mem_of_getElem? (i := 42) rfl))) (by decide) (backOf (W := 0) (rm7 l Z a0 hw [] b27 b24_b k_24 nn vsb v87_1 h87 n0 Z87 M87_3 M87_6 M87_5 M87_2 (Ne.symm ne_b24_b_b27) ge_b27 ((own_r2 hD (3 : Int32) 3 rfl (by decide) hQ3 hc245).1)) hZ (hw _ (List.mem_of_getElem? (i := 44) rfl)) (hw _ (List.mem_of_getElem? (i := 7) rfl)) (by decide) (by decide)) q120a q120c (g := (mkF m 250 #[.val (.int p0), .val (.int p1), .val (.int p2), .val (.int p3), .val (.int nn), .val (.int v14_0), .val (.int ba1), .val (.int ba2), .val (.int ba3), .val (.int v7_0), .val (.int v19_0), .val (.ref b24_b), .val (.ref b27), .val (.int v87_0), .val (.int r52), .unset] [(.ref b27)])) rfl (by rw [hml]; rfl) K119 (argsL := []) (rest := []) (lenOf pd_5 rfl) rfl (by show 2 * 0 + _ ≤ _; exact Nat.le_of_eq rfl) (hb hby at_250) (fun _ _ => ⟨rfl, e87, (by decide : 4 + 0 ≤ _), (by decide : 30 + 0 ≤ _)⟩)
      dsimp only [Pt.U, Pt.locs, Pt.cells, Pt.slots] at X120 l120 y120 z120 st120 hQ120
      subst l120 y120 z120
      obtain ⟨rfl, N120, Kp120, Q120_0, Q120_1, Q120_2⟩ := hQ120
      have N120' := Fr.app N87 N120
      obtain ⟨Lg120, Xg120, Ng120⟩ : ∃ Lg, Stand p l e room_1 (s.setVm T33.vm) m #[(.int p0), (.int p1), (.int p2), (.int p3)] below meth c T120 Lg 4 30 ∧ Fr n0 Lg := ⟨_, X120, N120'⟩
      have K122 : Steps p.tables e below _ (T120.setTop (mkF m 253 #[.val (.int p0), .val (.int p1), .val (.int p2), .val (.int p3), .val (.int nn), .val (.int v14_0), .val (.int ba1), .val (.int ba2), .val (.int ba3), .val (.int v7_0), .val (.int v19_0), .val (.ref b24_b), .val (.ref b27), .val (.int v87_0), .val (.int r52), .unset] [(.long (f_rm7 vsb v87_1))])) := st120
      obtain ⟨r121, hr121⟩ : ∃ z : Int64, (f_rm7 vsb v87_1) = z := ⟨_, rfl⟩
      rw [hr121] at K122
      have K123 : Steps p.tables e below _ (T120.setTop (mkF m 256 #[.val (.int p0), .val (.int p1), .val (.int p2), .val (.int p3), .val (.int nn), .val (.int v14_0), .val (.int ba1), .val (.int ba2), .val (.int ba3), .val (.int v7_0), .val (.int v19_0), .val (.ref b24_b), .val (.ref b27), .val (.int v87_0), .val (.int r52), .unset] [(.int v87_0)])) := K122.trans (by
        refine own_pop2L Xg120.here hx rfl (hb hby at_253) rfl ?_
        refine XS.iload Xg120.here hx rfl (hb hby at_254) rfl ?_
        exact Steps.refl _)
      obtain ⟨T124, L124, v124_0, X124, e124, N124, hv124_0, S124⟩ : ∃ (T124 : State) (L124 : List Loc) (v124_0 : Int32), Stand p l e room_1 (s.setVm T33.vm) m #[(.int p0), (.int p1), (.int p2), (.int p3)] below meth c T124 L124 4 30 ∧ T124.heap = T120.heap ∧ Fr n0 L124 ∧ (if v87_0 = (0 : Int32) then (0 : Int32) else (if ((if ((rl 10 vsb v87_1 (0 : Int64) (0 : Int32)).2) = nn then (1 : Int32) else (0 : Int32)) &&& 1) = (if v19_0 = (3 : Int32) then (1 : Int32) else (0 : Int32)) then (1 : Int32) else (0 : Int32))) = v124_0 ∧ Steps p.tables e below (T120.setTop (mkF m 256 #[.val (.int p0), .val (.int p1), .val (.int p2), .val (.int p3), .val (.int nn), .val (.int v14_0), .val (.int ba1), .val (.int ba2), .val (.int ba3), .val (.int v7_0), .val (.int v19_0), .val (.ref b24_b), .val (.ref b27), .val (.int v87_0), .val (.int r52), .unset] [(.int v87_0)])) (T124.setTop (mkF m 283 #[.val (.int p0), .val (.int p1), .val (.int p2), .val (.int p3), .val (.int nn), .val (.int v14_0), .val (.int ba1), .val (.int ba2), .val (.int ba3), .val (.int v7_0), .val (.int v19_0), .val (.ref b24_b), .val (.ref b27), .val (.int v87_0), .val (.int r52), .unset] [(.int v124_0)])) := by
        have R124 := Steps.refl (tb := p.tables) (e := e) (below := below) (T120.setTop (mkF m 256 #[.val (.int p0), .val (.int p1), .val (.int p2), .val (.int p3), .val (.int nn), .val (.int v14_0), .val (.int ba1), .val (.int ba2), .val (.int ba3), .val (.int v7_0), .val (.int v19_0), .val (.ref b24_b), .val (.ref b27), .val (.int v87_0), .val (.int r52), .unset] [(.int v87_0)]))
        by_cases hc256 : v87_0 = (0 : Int32)
        · have K125 : Steps p.tables e below _ (T120.setTop (mkF m 283 #[.val (.int p0), .val (.int p1), .val (.int p2), .val (.int p3), .val (.int nn), .val (.int v14_0), .val (.int ba1), .val (.int ba2), .val (.int ba3), .val (.int v7_0), .val (.int v19_0), .val (.ref b24_b), .val (.ref b27), .val (.int v87_0), .val (.int r52), .unset] [(.int (0 : Int32))])) := R124.trans (by
            refine XS.ifYes Xg120.here hx rfl (pc0 := 256) (pc' := 282) rfl (hb hby at_256) rfl ((if0 _ _).trans (teq hc256).1) (by decide) (by decide) ?_
            refine XS.iconst Xg120.here hx rfl (hb hby at_282) ?_
            exact Steps.refl _)
          exact ⟨T120, _, (0 : Int32), Xg120, rfl, Ng120, (by rw [if_pos hc256]), K125⟩
        · have K126 : Steps p.tables e below _ (T120.setTop (mkF m 261 #[.val (.int p0), .val (.int p1), .val (.int p2), .val (.int p3), .val (.int nn), .val (.int v14_0), .val (.int ba1), .val (.int ba2), .val (.int ba3), .val (.int v7_0), .val (.int v19_0), .val (.ref b24_b), .val (.ref b27), .val (.int v87_0), .val (.int r52), .unset] [(.ref b27)])) := R124.trans (by
            refine XS.ifNo Xg120.here hx rfl (hb hby at_256) rfl ((if0 _ _).trans (feq hc256).1) ?_
            refine XS.aload Xg120.here hx rfl (hb hby at_259) rfl rfl ?_
            exact Steps.refl _)
          have Z_127 : n0 ≤ T120.heap.size := (Nat.le_trans Z87 Kp120.1)
          have V_128 : Arv Z T120.heap b24_b k_24 .byte nn vsb (.int (0 : Int32)) := (M87_2.keep Kp120 (ninS ne_b24_b_b27 nin0))
          obtain ⟨cq129, kq129, q129a, q129b, q129c⟩ := isOf hZ rfl Q120_0
          obtain ⟨_, _, ⟨T129, L129, k129, n129⟩, -, X129, ⟨Lc129, hQ129, l129, y129, z129⟩, st129⟩ := Xg120.virtualBack hx (y := (⟨"com/example/thin_gateway/thingateway/avro/AvroDecoder", "isAtEnd", "()Z"⟩ : MethodName)) (z := (⟨"com/example/thin_gateway/thingateway/avro/AvroDecoder", "isAtEnd", "()Z"⟩ : MethodName)) hown (mvT hZ (hw _ (List.mem_of_getElem? (i := 29) rfl))) (mvT hZ (hw _ (List.mem_of_getElem? (i := 30) rfl))) (notFace_of_selects (args := #[]) (mvT hZ (hw _ (List.mem_of_getElem? (i := 32) rfl)))) (mvT hZ (hw _ (List.mem_of_getElem? (i := 32) rfl))) (mvT hZ (hw _ (List.mem_of_getElem? (i := 31) rfl))) (by decide) (backOf (W := 0) (rm5 l Z a0 hw [] b27 b24_b k_24 nn vsb ((rl 10 vsb v87_1 (0 : Int64) (0 : Int32)).2) T120.heap n0 Z_127 Q120_1 Q120_2 V_128) hZ (hw _ (List.mem_of_getElem? (i := 33) rfl)) (hw _ (List.mem_of_getElem? (i := 7) rfl)) (by decide) (by decide)) q129a q129c (g := (mkF m 261 #[.val (.int p0), .val (.int p1), .val (.int p2), .val (.int p3), .val (.int nn), .val (.int v14_0), .val (.int ba1), .val (.int ba2), .val (.int ba3), .val (.int v7_0), .val (.int v19_0), .val (.ref b24_b), .val (.ref b27), .val (.int v87_0), .val (.int r52), .unset] [(.ref b27)])) rfl (by rw [hml]; rfl) K126 (argsL := []) (rest := []) (lenOf pd_3 rfl) rfl (by show 2 * 0 + _ ≤ _; exact Nat.le_of_eq rfl) (hb hby at_261) (fun _ _ => ⟨rfl, rfl, (by decide : 4 + 0 ≤ _), (by decide : 30 + 0 ≤ _)⟩)
          dsimp only [Pt.U, Pt.locs, Pt.cells, Pt.slots] at X129 l129 y129 z129 st129 hQ129
          subst l129 y129 z129
          obtain ⟨rfl, N129, eh129⟩ := hQ129
          have N129' := Fr.app Ng120 N129
          obtain ⟨Lg129, Xg129, Ng129⟩ : ∃ Lg, Stand p l e room_1 (s.setVm T33.vm) m #[(.int p0), (.int p1), (.int p2), (.int p3)] below meth c T129 Lg 4 30 ∧ Fr n0 Lg := ⟨_, X129, N129'⟩
          have K131 : Steps p.tables e below _ (T129.setTop (mkF m 264 #[.val (.int p0), .val (.int p1), .val (.int p2), .val (.int p3), .val (.int nn), .val (.int v14_0), .val (.int ba1), .val (.int ba2), .val (.int ba3), .val (.int v7_0), .val (.int v19_0), .val (.ref b24_b), .val (.ref b27), .val (.int v87_0), .val (.int r52), .unset] [(.int ((if ((rl 10 vsb v87_1 (0 : Int64) (0 : Int32)).2) = nn then (1 : Int32) else (0 : Int32)) &&& 1))])) := st129
          obtain ⟨r130, hr130⟩ : ∃ z : Int32, ((if ((rl 10 vsb v87_1 (0 : Int64) (0 : Int32)).2) = nn then (1 : Int32) else (0 : Int32)) &&& 1) = z := ⟨_, rfl⟩
          rw [hr130] at K131
          have K132 : Steps p.tables e below _ (T129.setTop (mkF m 267 #[.val (.int p0), .val (.int p1), .val (.int p2), .val (.int p3), .val (.int nn), .val (.int v14_0), .val (.int ba1), .val (.int ba2), .val (.int ba3), .val (.int v7_0), .val (.int v19_0), .val (.ref b24_b), .val (.ref b27), .val (.int v87_0), .val (.int r52), .unset] [(.int (3 : Int32)), (.int v19_0), (.int r130)])) := K131.trans (by
            refine XS.iload Xg129.here hx rfl (hb hby at_264) rfl ?_
            refine XS.iconst Xg129.here hx rfl (hb hby at_266) ?_
            exact Steps.refl _)
          obtain ⟨v133_0, hv133_0, S133⟩ : ∃ (v133_0 : Int32), (if v19_0 = (3 : Int32) then (1 : Int32) else (0 : Int32)) = v133_0 ∧ Steps p.tables e below (T129.setTop (mkF m 267 #[.val (.int p0), .val (.int p1), .val (.int p2), .val (.int p3), .val (.int nn), .val (.int v14_0), .val (.int ba1), .val (.int ba2), .val (.int ba3), .val (.int v7_0), .val (.int v19_0), .val (.ref b24_b), .val (.ref b27), .val (.int v87_0), .val (.int r52), .unset] [(.int (3 : Int32)), (.int v19_0), (.int r130)])) (T129.setTop (mkF m 275 #[.val (.int p0), .val (.int p1), .val (.int p2), .val (.int p3), .val (.int nn), .val (.int v14_0), .val (.int ba1), .val (.int ba2), .val (.int ba3), .val (.int v7_0), .val (.int v19_0), .val (.ref b24_b), .val (.ref b27), .val (.int v87_0), .val (.int r52), .unset] [(.int v133_0), (.int r130)])) := by
            have R133 := Steps.refl (tb := p.tables) (e := e) (below := below) (T129.setTop (mkF m 267 #[.val (.int p0), .val (.int p1), .val (.int p2), .val (.int p3), .val (.int nn), .val (.int v14_0), .val (.int ba1), .val (.int ba2), .val (.int ba3), .val (.int v7_0), .val (.int v19_0), .val (.ref b24_b), .val (.ref b27), .val (.int v87_0), .val (.int r52), .unset] [(.int (3 : Int32)), (.int v19_0), (.int r130)]))
            by_cases hc267 : v19_0 = (3 : Int32)
            · have K134 : Steps p.tables e below _ (T129.setTop (mkF m 275 #[.val (.int p0), .val (.int p1), .val (.int p2), .val (.int p3), .val (.int nn), .val (.int v14_0), .val (.int ba1), .val (.int ba2), .val (.int ba3), .val (.int v7_0), .val (.int v19_0), .val (.ref b24_b), .val (.ref b27), .val (.int v87_0), .val (.int r52), .unset] [(.int (1 : Int32)), (.int r130)])) := R133.trans (by
                refine XS.icmpNo Xg129.here hx rfl (hb hby at_267) rfl (teq hc267).2 ?_
                refine XS.iconst Xg129.here hx rfl (hb hby at_270) ?_
                refine XS.goto Xg129.here hx rfl (pc0 := 271) (pc' := 275) rfl (hb hby at_271) (by decide) (by decide) ?_
                exact Steps.refl _)
              exact ⟨(1 : Int32), (by rw [if_pos hc267]), K134⟩
            · have K135 : Steps p.tables e below _ (T129.setTop (mkF m 275 #[.val (.int p0), .val (.int p1), .val (.int p2), .val (.int p3), .val (.int nn), .val (.int v14_0), .val (.int ba1), .val (.int ba2), .val (.int ba3), .val (.int v7_0), .val (.int v19_0), .val (.ref b24_b), .val (.ref b27), .val (.int v87_0), .val (.int r52), .unset] [(.int (0 : Int32)), (.int r130)])) := R133.trans (by
                refine XS.icmpYes Xg129.here hx rfl (pc0 := 267) (pc' := 274) rfl (hb hby at_267) rfl (feq hc267).2 (by decide) (by decide) ?_
                refine XS.iconst Xg129.here hx rfl (hb hby at_274) ?_
                exact Steps.refl _)
              exact ⟨(0 : Int32), (by rw [if_neg hc267]), K135⟩
          have K136 := K132.trans S133
          by_cases hc275 : r130 = v133_0
          · have K137 : Steps p.tables e below _ (T129.setTop (mkF m 283 #[.val (.int p0), .val (.int p1), .val (.int p2), .val (.int p3), .val (.int nn), .val (.int v14_0), .val (.int ba1), .val (.int ba2), .val (.int ba3), .val (.int v7_0), .val (.int v19_0), .val (.ref b24_b), .val (.ref b27), .val (.int v87_0), .val (.int r52), .unset] [(.int (1 : Int32))])) := K136.trans (by
              refine XS.icmpNo Xg129.here hx rfl (hb hby at_275) rfl (teq hc275).2 ?_
              refine XS.iconst Xg129.here hx rfl (hb hby at_278) ?_
              refine XS.goto Xg129.here hx rfl (pc0 := 279) (pc' := 283) rfl (hb hby at_279) (by decide) (by decide) ?_
              exact Steps.refl _)
            subst hv133_0
            subst hr130
            exact ⟨T129, _, (1 : Int32), Xg129, eh129, Ng129, (by rw [if_neg hc256, if_pos hc275]), K137⟩
          · have K138 : Steps p.tables e below _ (T129.setTop (mkF m 283 #[.val (.int p0), .val (.int p1), .val (.int p2), .val (.int p3), .val (.int nn), .val (.int v14_0), .val (.int ba1), .val (.int ba2), .val (.int ba3), .val (.int v7_0), .val (.int v19_0), .val (.ref b24_b), .val (.ref b27), .val (.int v87_0), .val (.int r52), .unset] [(.int (0 : Int32))])) := K136.trans (by
              refine XS.icmpYes Xg129.here hx rfl (pc0 := 275) (pc' := 282) rfl (hb hby at_275) rfl (feq hc275).2 (by decide) (by decide) ?_
              refine XS.iconst Xg129.here hx rfl (hb hby at_282) ?_
              exact Steps.refl _)
            subst hv133_0
            subst hr130
            exact ⟨T129, _, (0 : Int32), Xg129, eh129, Ng129, (by rw [if_neg hc256, if_neg hc275]), K138⟩
      have K139 := K123.trans S124
      have K140 : Steps p.tables e below _ (T124.setTop (mkF m 285 #[.val (.int p0), .val (.int p1), .val (.int p2), .val (.int p3), .val (.int nn), .val (.int v14_0), .val (.int ba1), .val (.int ba2), .val (.int ba3), .val (.int v7_0), .val (.int v19_0), .val (.ref b24_b), .val (.ref b27), .val (.int v124_0), .val (.int r52), .unset] [])) := K139.trans (by
        refine XS.istore X124.here hx rfl (hb hby at_283) rfl (l' := #[.val (.int p0), .val (.int p1), .val (.int p2), .val (.int p3), .val (.int nn), .val (.int v14_0), .val (.int ba1), .val (.int ba2), .val (.int ba3), .val (.int v7_0), .val (.int v19_0), .val (.ref b24_b), .val (.ref b27), .val (.int v124_0), .val (.int r52), .unset]) rfl ?_
        exact Steps.refl _)
      have Z_141 : n0 ≤ T120.heap.size := (Nat.le_trans Z87 Kp120.1)
      have E_142 : Exa Z T120.heap b24_b "[B" := (M87_1.keep Kp120)
      have V_143 : Arv Z T120.heap b24_b k_24 .byte nn vsb (.int (0 : Int32)) := (M87_2.keep Kp120 (ninS ne_b24_b_b27 nin0))
      have Y_144 : T33.heap.size ≤ T120.heap.size := (Nat.le_trans M87_4 Kp120.1)
      subst hv124_0
      subst hr121
      exact ⟨T124, _, _, (if v87_0 = (0 : Int32) then (0 : Int32) else (if ((if ((rl 10 vsb v87_1 (0 : Int64) (0 : Int32)).2) = nn then (1 : Int32) else (0 : Int32)) &&& 1) = (if v19_0 = (3 : Int32) then (1 : Int32) else (0 : Int32)) then (1 : Int32) else (0 : Int32))), (rl 10 vsb v87_1 (0 : Int64) (0 : Int32)).2, X124, e124, N124, Z_141, E_142, V_143, Q120_0, Y_144, Q120_2, Q120_1, (by rw [if_neg hc245]), (by rw [if_neg hc245]), K140⟩
  have K145 := K116.trans S117
  have hQ4 := own_q hD (3 : Int32) 3 rfl (by decide) hQ3 hv117_1
  have K146 : Steps p.tables e below _ (T117.setTop (mkF m 288 #[.val (.int p0), .val (.int p1), .val (.int p2), .val (.int p3), .val (.int nn), .val (.int v14_0), .val (.int ba1), .val (.int ba2), .val (.int ba3), .val (.int v7_0), .val (.int v19_0), .val (.ref b24_b), .val (.ref b27), .val (.int v117_0), .val (.int r52), .unset] [(.int (4 : Int32)), (.int r52)])) := K145.trans (by
    refine XS.iload X117.here hx rfl (hb hby at_285) rfl ?_
    refine XS.iconst X117.here hx rfl (hb hby at_287) ?_
    exact Steps.refl _)
  obtain ⟨T147, L147, h147, v147_0, v147_1, X147, e147, N147, Z147, M147_1, M147_2, M147_3, M147_4, M147_5, M147_6, hv147_0, hv147_1, S147⟩ : ∃ (T147 : State) (L147 : List Loc) (h147 : Heap) (v147_0 : Int32) (v147_1 : Int32), Stand p l e room_1 (s.setVm T33.vm) m #[(.int p0), (.int p1), (.int p2), (.int p3)] below meth c T147 L147 4 30 ∧ T147.heap = h147 ∧ Fr n0 L147 ∧ n0 ≤ h147.size ∧ Exa Z h147 b24_b "[B" ∧ Arv Z h147 b24_b k_24 .byte nn vsb (.int (0 : Int32)) ∧ Exa Z h147 b27 "com/example/thin_gateway/thingateway/avro/AvroDecoder" ∧ T33.heap.size ≤ h147.size ∧ Fld Z h147 b27 "com/example/thin_gateway/thingateway/avro/AvroDecoder" "position" "I" (.int v147_1) ∧ Fld Z h147 b27 "com/example/thin_gateway/thingateway/avro/AvroDecoder" "input" "[B" (.ref b24_b) ∧ (if r52 < (4 : Int32) then v117_0 else (if v117_0 = (0 : Int32) then (0 : Int32) else (if ((if ((rl 10 vsb v117_1 (0 : Int64) (0 : Int32)).2) = nn then (1 : Int32) else (0 : Int32)) &&& 1) = (if v19_0 = (4 : Int32) then (1 : Int32) else (0 : Int32)) then (1 : Int32) else (0 : Int32)))) = v147_0 ∧ (if r52 < (4 : Int32) then v117_1 else (rl 10 vsb v117_1 (0 : Int64) (0 : Int32)).2) = v147_1 ∧ Steps p.tables e below (T117.setTop (mkF m 288 #[.val (.int p0), .val (.int p1), .val (.int p2), .val (.int p3), .val (.int nn), .val (.int v14_0), .val (.int ba1), .val (.int ba2), .val (.int ba3), .val (.int v7_0), .val (.int v19_0), .val (.ref b24_b), .val (.ref b27), .val (.int v117_0), .val (.int r52), .unset] [(.int (4 : Int32)), (.int r52)])) (T147.setTop (mkF m 328 #[.val (.int p0), .val (.int p1), .val (.int p2), .val (.int p3), .val (.int nn), .val (.int v14_0), .val (.int ba1), .val (.int ba2), .val (.int ba3), .val (.int v7_0), .val (.int v19_0), .val (.ref b24_b), .val (.ref b27), .val (.int v147_0), .val (.int r52), .unset] [])) := by
    have R147 := Steps.refl (tb := p.tables) (e := e) (below := below) (T117.setTop (mkF m 288 #[.val (.int p0), .val (.int p1), .val (.int p2), .val (.int p3), .val (.int nn), .val (.int v14_0), .val (.int ba1), .val (.int ba2), .val (.int ba3), .val (.int v7_0), .val (.int v19_0), .val (.ref b24_b), .val (.ref b27), .val (.int v117_0), .val (.int r52), .unset] [(.int (4 : Int32)), (.int r52)]))
    by_cases hc288 : r52 < (4 : Int32)
    · have K148 : Steps p.tables e below _ (T117.setTop (mkF m 328 #[.val (.int p0), .val (.int p1), .val (.int p2), .val (.int p3), .val (.int nn), .val (.int v14_0), .val (.int ba1), .val (.int ba2), .val (.int ba3), .val (.int v7_0), .val (.int v19_0), .val (.ref b24_b), .val (.ref b27), .val (.int v117_0), .val (.int r52), .unset] [])) := R147.trans (by
        refine XS.icmpYes X117.here hx rfl (pc0 := 288) (pc' := 328) rfl (hb hby at_288) rfl (tlt hc288).1 (by decide) (by decide) ?_
        exact Steps.refl _)
      exact ⟨T117, _, _, v117_0, v117_1, X117, e117, N117, Z117, M117_1, M117_2, M117_3, M117_4, M117_5, M117_6, (by rw [if_pos hc288]), (by rw [if_pos hc288]), K148⟩
    · have K149 : Steps p.tables e below _ (T117.setTop (mkF m 293 #[.val (.int p0), .val (.int p1), .val (.int p2), .val (.int p3), .val (.int nn), .val (.int v14_0), .val (.int ba1), .val (.int ba2), .val (.int ba3), .val (.int v7_0), .val (.int v19_0), .val (.ref b24_b), .val (.ref b27), .val (.int v117_0), .val (.int r52), .unset] [(.ref b27)])) := R147.trans (by
        refine XS.icmpNo X117.here hx rfl (hb hby at_288) rfl (flt hc288).1 ?_
        refine XS.aload X117.here hx rfl (hb hby at_291) rfl rfl ?_
        exact Steps.refl _)
      obtain ⟨cq150, kq150, q150a, q150b, q150c⟩ := isOf hZ e117 M117_3
      obtain ⟨_, _, ⟨T150, L150, k150, n150⟩, -, X150, ⟨Lc150, hQ150, l150, y150, z150⟩, st150⟩ := X117.virtualBack hx (y := (⟨"com/example/thin_gateway/thingateway/avro/AvroDecoder", "readLong", "()J"⟩ : MethodName)) (z := (⟨"com/example/thin_gateway/thingateway/avro/AvroDecoder", "readLong", "()J"⟩ : MethodName)) hown (mvT hZ (hw _ (List.mem_of_getElem? (i := 40) rfl))) (mvT hZ (hw _ (List.mem_of_getElem? (i := 41) rfl))) (notFace_of_selects (args := #[]) (mvT hZ (hw _ (List.mem_of_getElem? (i := 43) rfl)))) (mvT hZ (hw _ (List.mem_of_getElem? (i := 43) rfl))) (mvT hZ (hw _ (List.mem_of_getElem? (i := 42) rfl))) (by decide) (backOf (W := 0) (rm7 l Z a0 hw [] b27 b24_b k_24 nn vsb v117_1 h117 n0 Z117 M117_3 M117_6 M117_5 M117_2 (Ne.symm ne_b24_b_b27) ge_b27 ((own_r2 hD (4 : Int32) 4 rfl (by decide) hQ4 hc288).1)) hZ (hw _ (List.mem_of_getElem? (i := 44) rfl)) (hw _ (List.mem_of_getElem? (i := 7) rfl)) (by decide) (by decide)) q150a q150c (g := (mkF m 293 #[.val (.int p0), .val (.int p1), .val (.int p2), .val (.int p3), .val (.int nn), .val (.int v14_0), .val (.int ba1), .val (.int ba2), .val (.int ba3), .val (.int v7_0), .val (.int v19_0), .val (.ref b24_b), .val (.ref b27), .val (.int v117_0), .val (.int r52), .unset] [(.ref b27)])) rfl (by rw [hml]; rfl) K149 (argsL := []) (rest := []) (lenOf pd_5 rfl) rfl (by show 2 * 0 + _ ≤ _; exact Nat.le_of_eq rfl) (hb hby at_293) (fun _ _ => ⟨rfl, e117, (by decide : 4 + 0 ≤ _), (by decide : 30 + 0 ≤ _)⟩)
      dsimp only [Pt.U, Pt.locs, Pt.cells, Pt.slots] at X150 l150 y150 z150 st150 hQ150
      subst l150 y150 z150
      obtain ⟨rfl, N150, Kp150, Q150_0, Q150_1, Q150_2⟩ := hQ150
      have N150' := Fr.app N117 N150
      obtain ⟨Lg150, Xg150, Ng150⟩ : ∃ Lg, Stand p l e room_1 (s.setVm T33.vm) m #[(.int p0), (.int p1), (.int p2), (.int p3)] below meth c T150 Lg 4 30 ∧ Fr n0 Lg := ⟨_, X150, N150'⟩
      have K152 : Steps p.tables e below _ (T150.setTop (mkF m 296 #[.val (.int p0), .val (.int p1), .val (.int p2), .val (.int p3), .val (.int nn), .val (.int v14_0), .val (.int ba1), .val (.int ba2), .val (.int ba3), .val (.int v7_0), .val (.int v19_0), .val (.ref b24_b), .val (.ref b27), .val (.int v117_0), .val (.int r52), .unset] [(.long (f_rm7 vsb v117_1))])) := st150
      obtain ⟨r151, hr151⟩ : ∃ z : Int64, (f_rm7 vsb v117_1) = z := ⟨_, rfl⟩
      rw [hr151] at K152
      have K153 : Steps p.tables e below _ (T150.setTop (mkF m 299 #[.val (.int p0), .val (.int p1), .val (.int p2), .val (.int p3), .val (.int nn), .val (.int v14_0), .val (.int ba1), .val (.int ba2), .val (.int ba3), .val (.int v7_0), .val (.int v19_0), .val (.ref b24_b), .val (.ref b27), .val (.int v117_0), .val (.int r52), .unset] [(.int v117_0)])) := K152.trans (by
        refine own_pop2L Xg150.here hx rfl (hb hby at_296) rfl ?_
        refine XS.iload Xg150.here hx rfl (hb hby at_297) rfl ?_
        exact Steps.refl _)
      obtain ⟨T154, L154, v154_0, X154, e154, N154, hv154_0, S154⟩ : ∃ (T154 : State) (L154 : List Loc) (v154_0 : Int32), Stand p l e room_1 (s.setVm T33.vm) m #[(.int p0), (.int p1), (.int p2), (.int p3)] below meth c T154 L154 4 30 ∧ T154.heap = T150.heap ∧ Fr n0 L154 ∧ (if v117_0 = (0 : Int32) then (0 : Int32) else (if ((if ((rl 10 vsb v117_1 (0 : Int64) (0 : Int32)).2) = nn then (1 : Int32) else (0 : Int32)) &&& 1) = (if v19_0 = (4 : Int32) then (1 : Int32) else (0 : Int32)) then (1 : Int32) else (0 : Int32))) = v154_0 ∧ Steps p.tables e below (T150.setTop (mkF m 299 #[.val (.int p0), .val (.int p1), .val (.int p2), .val (.int p3), .val (.int nn), .val (.int v14_0), .val (.int ba1), .val (.int ba2), .val (.int ba3), .val (.int v7_0), .val (.int v19_0), .val (.ref b24_b), .val (.ref b27), .val (.int v117_0), .val (.int r52), .unset] [(.int v117_0)])) (T154.setTop (mkF m 326 #[.val (.int p0), .val (.int p1), .val (.int p2), .val (.int p3), .val (.int nn), .val (.int v14_0), .val (.int ba1), .val (.int ba2), .val (.int ba3), .val (.int v7_0), .val (.int v19_0), .val (.ref b24_b), .val (.ref b27), .val (.int v117_0), .val (.int r52), .unset] [(.int v154_0)])) := by
        have R154 := Steps.refl (tb := p.tables) (e := e) (below := below) (T150.setTop (mkF m 299 #[.val (.int p0), .val (.int p1), .val (.int p2), .val (.int p3), .val (.int nn), .val (.int v14_0), .val (.int ba1), .val (.int ba2), .val (.int ba3), .val (.int v7_0), .val (.int v19_0), .val (.ref b24_b), .val (.ref b27), .val (.int v117_0), .val (.int r52), .unset] [(.int v117_0)]))
        by_cases hc299 : v117_0 = (0 : Int32)
        · have K155 : Steps p.tables e below _ (T150.setTop (mkF m 326 #[.val (.int p0), .val (.int p1), .val (.int p2), .val (.int p3), .val (.int nn), .val (.int v14_0), .val (.int ba1), .val (.int ba2), .val (.int ba3), .val (.int v7_0), .val (.int v19_0), .val (.ref b24_b), .val (.ref b27), .val (.int v117_0), .val (.int r52), .unset] [(.int (0 : Int32))])) := R154.trans (by
            refine XS.ifYes Xg150.here hx rfl (pc0 := 299) (pc' := 325) rfl (hb hby at_299) rfl ((if0 _ _).trans (teq hc299).1) (by decide) (by decide) ?_
            refine XS.iconst Xg150.here hx rfl (hb hby at_325) ?_
            exact Steps.refl _)
          exact ⟨T150, _, (0 : Int32), Xg150, rfl, Ng150, (by rw [if_pos hc299]), K155⟩
        · have K156 : Steps p.tables e below _ (T150.setTop (mkF m 304 #[.val (.int p0), .val (.int p1), .val (.int p2), .val (.int p3), .val (.int nn), .val (.int v14_0), .val (.int ba1), .val (.int ba2), .val (.int ba3), .val (.int v7_0), .val (.int v19_0), .val (.ref b24_b), .val (.ref b27), .val (.int v117_0), .val (.int r52), .unset] [(.ref b27)])) := R154.trans (by
            refine XS.ifNo Xg150.here hx rfl (hb hby at_299) rfl ((if0 _ _).trans (feq hc299).1) ?_
            refine XS.aload Xg150.here hx rfl (hb hby at_302) rfl rfl ?_
            exact Steps.refl _)
          have Z_157 : n0 ≤ T150.heap.size := (Nat.le_trans Z117 Kp150.1)
          have V_158 : Arv Z T150.heap b24_b k_24 .byte nn vsb (.int (0 : Int32)) := (M117_2.keep Kp150 (ninS ne_b24_b_b27 nin0))
          obtain ⟨cq159, kq159, q159a, q159b, q159c⟩ := isOf hZ rfl Q150_0
          obtain ⟨_, _, ⟨T159, L159, k159, n159⟩, -, X159, ⟨Lc159, hQ159, l159, y159, z159⟩, st159⟩ := Xg150.virtualBack hx (y := (⟨"com/example/thin_gateway/thingateway/avro/AvroDecoder", "isAtEnd", "()Z"⟩ : MethodName)) (z := (⟨"com/example/thin_gateway/thingateway/avro/AvroDecoder", "isAtEnd", "()Z"⟩ : MethodName)) hown (mvT hZ (hw _ (List.mem_of_getElem? (i := 29) rfl))) (mvT hZ (hw _ (List.mem_of_getElem? (i := 30) rfl))) (notFace_of_selects (args := #[]) (mvT hZ (hw _ (List.mem_of_getElem? (i := 32) rfl)))) (mvT hZ (hw _ (List.mem_of_getElem? (i := 32) rfl))) (mvT hZ (hw _ (List.mem_of_getElem? (i := 31) rfl))) (by decide) (backOf (W := 0) (rm5 l Z a0 hw [] b27 b24_b k_24 nn vsb ((rl 10 vsb v117_1 (0 : Int64) (0 : Int32)).2) T150.heap n0 Z_157 Q150_1 Q150_2 V_158) hZ (hw _ (List.mem_of_getElem? (i := 33) rfl)) (hw _ (List.mem_of_getElem? (i := 7) rfl)) (by decide) (by decide)) q159a q159c (g := (mkF m 304 #[.val (.int p0), .val (.int p1), .val (.int p2), .val (.int p3), .val (.int nn), .val (.int v14_0), .val (.int ba1), .val (.int ba2), .val (.int ba3), .val (.int v7_0), .val (.int v19_0), .val (.ref b24_b), .val (.ref b27), .val (.int v117_0), .val (.int r52), .unset] [(.ref b27)])) rfl (by rw [hml]; rfl) K156 (argsL := []) (rest := []) (lenOf pd_3 rfl) rfl (by show 2 * 0 + _ ≤ _; exact Nat.le_of_eq rfl) (hb hby at_304) (fun _ _ => ⟨rfl, rfl, (by decide : 4 + 0 ≤ _), (by decide : 30 + 0 ≤ _)⟩)
          dsimp only [Pt.U, Pt.locs, Pt.cells, Pt.slots] at X159 l159 y159 z159 st159 hQ159
          subst l159 y159 z159
          obtain ⟨rfl, N159, eh159⟩ := hQ159
          have N159' := Fr.app Ng150 N159
          obtain ⟨Lg159, Xg159, Ng159⟩ : ∃ Lg, Stand p l e room_1 (s.setVm T33.vm) m #[(.int p0), (.int p1), (.int p2), (.int p3)] below meth c T159 Lg 4 30 ∧ Fr n0 Lg := ⟨_, X159, N159'⟩
          have K161 : Steps p.tables e below _ (T159.setTop (mkF m 307 #[.val (.int p0), .val (.int p1), .val (.int p2), .val (.int p3), .val (.int nn), .val (.int v14_0), .val (.int ba1), .val (.int ba2), .val (.int ba3), .val (.int v7_0), .val (.int v19_0), .val (.ref b24_b), .val (.ref b27), .val (.int v117_0), .val (.int r52), .unset] [(.int ((if ((rl 10 vsb v117_1 (0 : Int64) (0 : Int32)).2) = nn then (1 : Int32) else (0 : Int32)) &&& 1))])) := st159
          obtain ⟨r160, hr160⟩ : ∃ z : Int32, ((if ((rl 10 vsb v117_1 (0 : Int64) (0 : Int32)).2) = nn then (1 : Int32) else (0 : Int32)) &&& 1) = z := ⟨_, rfl⟩
          rw [hr160] at K161
          have K162 : Steps p.tables e below _ (T159.setTop (mkF m 310 #[.val (.int p0), .val (.int p1), .val (.int p2), .val (.int p3), .val (.int nn), .val (.int v14_0), .val (.int ba1), .val (.int ba2), .val (.int ba3), .val (.int v7_0), .val (.int v19_0), .val (.ref b24_b), .val (.ref b27), .val (.int v117_0), .val (.int r52), .unset] [(.int (4 : Int32)), (.int v19_0), (.int r160)])) := K161.trans (by
            refine XS.iload Xg159.here hx rfl (hb hby at_307) rfl ?_
            refine XS.iconst Xg159.here hx rfl (hb hby at_309) ?_
            exact Steps.refl _)
          obtain ⟨v163_0, hv163_0, S163⟩ : ∃ (v163_0 : Int32), (if v19_0 = (4 : Int32) then (1 : Int32) else (0 : Int32)) = v163_0 ∧ Steps p.tables e below (T159.setTop (mkF m 310 #[.val (.int p0), .val (.int p1), .val (.int p2), .val (.int p3), .val (.int nn), .val (.int v14_0), .val (.int ba1), .val (.int ba2), .val (.int ba3), .val (.int v7_0), .val (.int v19_0), .val (.ref b24_b), .val (.ref b27), .val (.int v117_0), .val (.int r52), .unset] [(.int (4 : Int32)), (.int v19_0), (.int r160)])) (T159.setTop (mkF m 318 #[.val (.int p0), .val (.int p1), .val (.int p2), .val (.int p3), .val (.int nn), .val (.int v14_0), .val (.int ba1), .val (.int ba2), .val (.int ba3), .val (.int v7_0), .val (.int v19_0), .val (.ref b24_b), .val (.ref b27), .val (.int v117_0), .val (.int r52), .unset] [(.int v163_0), (.int r160)])) := by
            have R163 := Steps.refl (tb := p.tables) (e := e) (below := below) (T159.setTop (mkF m 310 #[.val (.int p0), .val (.int p1), .val (.int p2), .val (.int p3), .val (.int nn), .val (.int v14_0), .val (.int ba1), .val (.int ba2), .val (.int ba3), .val (.int v7_0), .val (.int v19_0), .val (.ref b24_b), .val (.ref b27), .val (.int v117_0), .val (.int r52), .unset] [(.int (4 : Int32)), (.int v19_0), (.int r160)]))
            by_cases hc310 : v19_0 = (4 : Int32)
            · have K164 : Steps p.tables e below _ (T159.setTop (mkF m 318 #[.val (.int p0), .val (.int p1), .val (.int p2), .val (.int p3), .val (.int nn), .val (.int v14_0), .val (.int ba1), .val (.int ba2), .val (.int ba3), .val (.int v7_0), .val (.int v19_0), .val (.ref b24_b), .val (.ref b27), .val (.int v117_0), .val (.int r52), .unset] [(.int (1 : Int32)), (.int r160)])) := R163.trans (by
                refine XS.icmpNo Xg159.here hx rfl (hb hby at_310) rfl (teq hc310).2 ?_
                refine XS.iconst Xg159.here hx rfl (hb hby at_313) ?_
                refine XS.goto Xg159.here hx rfl (pc0 := 314) (pc' := 318) rfl (hb hby at_314) (by decide) (by decide) ?_
                exact Steps.refl _)
              exact ⟨(1 : Int32), (by rw [if_pos hc310]), K164⟩
            · have K165 : Steps p.tables e below _ (T159.setTop (mkF m 318 #[.val (.int p0), .val (.int p1), .val (.int p2), .val (.int p3), .val (.int nn), .val (.int v14_0), .val (.int ba1), .val (.int ba2), .val (.int ba3), .val (.int v7_0), .val (.int v19_0), .val (.ref b24_b), .val (.ref b27), .val (.int v117_0), .val (.int r52), .unset] [(.int (0 : Int32)), (.int r160)])) := R163.trans (by
                refine XS.icmpYes Xg159.here hx rfl (pc0 := 310) (pc' := 317) rfl (hb hby at_310) rfl (feq hc310).2 (by decide) (by decide) ?_
                refine XS.iconst Xg159.here hx rfl (hb hby at_317) ?_
                exact Steps.refl _)
              exact ⟨(0 : Int32), (by rw [if_neg hc310]), K165⟩
          have K166 := K162.trans S163
          by_cases hc318 : r160 = v163_0
          · have K167 : Steps p.tables e below _ (T159.setTop (mkF m 326 #[.val (.int p0), .val (.int p1), .val (.int p2), .val (.int p3), .val (.int nn), .val (.int v14_0), .val (.int ba1), .val (.int ba2), .val (.int ba3), .val (.int v7_0), .val (.int v19_0), .val (.ref b24_b), .val (.ref b27), .val (.int v117_0), .val (.int r52), .unset] [(.int (1 : Int32))])) := K166.trans (by
              refine XS.icmpNo Xg159.here hx rfl (hb hby at_318) rfl (teq hc318).2 ?_
              refine XS.iconst Xg159.here hx rfl (hb hby at_321) ?_
              refine XS.goto Xg159.here hx rfl (pc0 := 322) (pc' := 326) rfl (hb hby at_322) (by decide) (by decide) ?_
              exact Steps.refl _)
            subst hv163_0
            subst hr160
            exact ⟨T159, _, (1 : Int32), Xg159, eh159, Ng159, (by rw [if_neg hc299, if_pos hc318]), K167⟩
          · have K168 : Steps p.tables e below _ (T159.setTop (mkF m 326 #[.val (.int p0), .val (.int p1), .val (.int p2), .val (.int p3), .val (.int nn), .val (.int v14_0), .val (.int ba1), .val (.int ba2), .val (.int ba3), .val (.int v7_0), .val (.int v19_0), .val (.ref b24_b), .val (.ref b27), .val (.int v117_0), .val (.int r52), .unset] [(.int (0 : Int32))])) := K166.trans (by
              refine XS.icmpYes Xg159.here hx rfl (pc0 := 318) (pc' := 325) rfl (hb hby at_318) rfl (feq hc318).2 (by decide) (by decide) ?_
              refine XS.iconst Xg159.here hx rfl (hb hby at_325) ?_
              exact Steps.refl _)
            subst hv163_0
            subst hr160
            exact ⟨T159, _, (0 : Int32), Xg159, eh159, Ng159, (by rw [if_neg hc299, if_neg hc318]), K168⟩
      have K169 := K153.trans S154
      have K170 : Steps p.tables e below _ (T154.setTop (mkF m 328 #[.val (.int p0), .val (.int p1), .val (.int p2), .val (.int p3), .val (.int nn), .val (.int v14_0), .val (.int ba1), .val (.int ba2), .val (.int ba3), .val (.int v7_0), .val (.int v19_0), .val (.ref b24_b), .val (.ref b27), .val (.int v154_0), .val (.int r52), .unset] [])) := K169.trans (by
        refine XS.istore X154.here hx rfl (hb hby at_326) rfl (l' := #[.val (.int p0), .val (.int p1), .val (.int p2), .val (.int p3), .val (.int nn), .val (.int v14_0), .val (.int ba1), .val (.int ba2), .val (.int ba3), .val (.int v7_0), .val (.int v19_0), .val (.ref b24_b), .val (.ref b27), .val (.int v154_0), .val (.int r52), .unset]) rfl ?_
        exact Steps.refl _)
      have Z_171 : n0 ≤ T150.heap.size := (Nat.le_trans Z117 Kp150.1)
      have E_172 : Exa Z T150.heap b24_b "[B" := (M117_1.keep Kp150)
      have V_173 : Arv Z T150.heap b24_b k_24 .byte nn vsb (.int (0 : Int32)) := (M117_2.keep Kp150 (ninS ne_b24_b_b27 nin0))
      have Y_174 : T33.heap.size ≤ T150.heap.size := (Nat.le_trans M117_4 Kp150.1)
      subst hv154_0
      subst hr151
      exact ⟨T154, _, _, (if v117_0 = (0 : Int32) then (0 : Int32) else (if ((if ((rl 10 vsb v117_1 (0 : Int64) (0 : Int32)).2) = nn then (1 : Int32) else (0 : Int32)) &&& 1) = (if v19_0 = (4 : Int32) then (1 : Int32) else (0 : Int32)) then (1 : Int32) else (0 : Int32))), (rl 10 vsb v117_1 (0 : Int64) (0 : Int32)).2, X154, e154, N154, Z_171, E_172, V_173, Q150_0, Y_174, Q150_2, Q150_1, (by rw [if_neg hc288]), (by rw [if_neg hc288]), K170⟩
  have K175 := K146.trans S147
  have hQ5 := own_q hD (4 : Int32) 4 rfl (by decide) hQ4 hv147_1
  have K176 : Steps p.tables e below _ (T147.setTop (mkF m 330 #[.val (.int p0), .val (.int p1), .val (.int p2), .val (.int p3), .val (.int nn), .val (.int v14_0), .val (.int ba1), .val (.int ba2), .val (.int ba3), .val (.int v7_0), .val (.int v19_0), .val (.ref b24_b), .val (.ref b27), .val (.int v147_0), .val (.int r52), .unset] [(.ref b27)])) := K175.trans (by
    refine XS.aload X147.here hx rfl (hb hby at_328) rfl rfl ?_
    exact Steps.refl _)
  obtain ⟨cq177, kq177, q177a, q177b, q177c⟩ := isOf hZ e147 M147_3
  obtain ⟨_, _, ⟨T177, L177, k177, n177⟩, -, X177, ⟨Lc177, hQ177, l177, y177, z177⟩, st177⟩ := X147.virtualBack hx (y := (⟨"com/example/thin_gateway/thingateway/avro/AvroDecoder", "isAtEnd", "()Z"⟩ : MethodName)) (z := (⟨"com/example/thin_gateway/thingateway/avro/AvroDecoder", "isAtEnd", "()Z"⟩ : MethodName)) hown (mvT hZ (hw _ (List.mem_of_getElem? (i := 29) rfl))) (mvT hZ (hw _ (List.mem_of_getElem? (i := 30) rfl))) (notFace_of_selects (args := #[]) (mvT hZ (hw _ (List.mem_of_getElem? (i := 32) rfl)))) (mvT hZ (hw _ (List.mem_of_getElem? (i := 32) rfl))) (mvT hZ (hw _ (List.mem_of_getElem? (i := 31) rfl))) (by decide) (backOf (W := 0) (rm5 l Z a0 hw [] b27 b24_b k_24 nn vsb v147_1 h147 n0 Z147 M147_6 M147_5 M147_2) hZ (hw _ (List.mem_of_getElem? (i := 33) rfl)) (hw _ (List.mem_of_getElem? (i := 7) rfl)) (by decide) (by decide)) q177a q177c (g := (mkF m 330 #[.val (.int p0), .val (.int p1), .val (.int p2), .val (.int p3), .val (.int nn), .val (.int v14_0), .val (.int ba1), .val (.int ba2), .val (.int ba3), .val (.int v7_0), .val (.int v19_0), .val (.ref b24_b), .val (.ref b27), .val (.int v147_0), .val (.int r52), .unset] [(.ref b27)])) rfl (by rw [hml]; rfl) K176 (argsL := []) (rest := []) (lenOf pd_3 rfl) rfl (by show 2 * 0 + _ ≤ _; exact Nat.le_of_eq rfl) (hb hby at_330) (fun _ _ => ⟨rfl, e147, (by decide : 4 + 0 ≤ _), (by decide : 30 + 0 ≤ _)⟩)
  dsimp only [Pt.U, Pt.locs, Pt.cells, Pt.slots] at X177 l177 y177 z177 st177 hQ177
  subst l177 y177 z177
  obtain ⟨rfl, N177, eh177⟩ := hQ177
  have N177' := Fr.app N147 N177
  obtain ⟨Lg177, Xg177, Ng177⟩ : ∃ Lg, Stand p l e room_1 (s.setVm T33.vm) m #[(.int p0), (.int p1), (.int p2), (.int p3)] below meth c T177 Lg 4 30 ∧ Fr n0 Lg := ⟨_, X177, N177'⟩
  have K179 : Steps p.tables e below _ (T177.setTop (mkF m 333 #[.val (.int p0), .val (.int p1), .val (.int p2), .val (.int p3), .val (.int nn), .val (.int v14_0), .val (.int ba1), .val (.int ba2), .val (.int ba3), .val (.int v7_0), .val (.int v19_0), .val (.ref b24_b), .val (.ref b27), .val (.int v147_0), .val (.int r52), .unset] [(.int ((if v147_1 = nn then (1 : Int32) else (0 : Int32)) &&& 1))])) := st177
  obtain ⟨r178, hr178⟩ : ∃ z : Int32, ((if v147_1 = nn then (1 : Int32) else (0 : Int32)) &&& 1) = z := ⟨_, rfl⟩
  rw [hr178] at K179
  have K180 : Steps p.tables e below _ (T177.setTop (mkF m 337 #[.val (.int p0), .val (.int p1), .val (.int p2), .val (.int p3), .val (.int nn), .val (.int v14_0), .val (.int ba1), .val (.int ba2), .val (.int ba3), .val (.int v7_0), .val (.int v19_0), .val (.ref b24_b), .val (.ref b27), .val (.int v147_0), .val (.int r52), .val (.int r178)] [(.int v147_0)])) := K179.trans (by
    refine XS.istore Xg177.here hx rfl (hb hby at_333) rfl (l' := #[.val (.int p0), .val (.int p1), .val (.int p2), .val (.int p3), .val (.int nn), .val (.int v14_0), .val (.int ba1), .val (.int ba2), .val (.int ba3), .val (.int v7_0), .val (.int v19_0), .val (.ref b24_b), .val (.ref b27), .val (.int v147_0), .val (.int r52), .val (.int r178)]) rfl ?_
    refine XS.iload Xg177.here hx rfl (hb hby at_335) rfl ?_
    exact Steps.refl _)
  obtain ⟨v181_0, hv181_0, S181⟩ : ∃ (v181_0 : Int32), (if v147_0 = (0 : Int32) then (0 : Int32) else (if r178 = (if r52 = v19_0 then (1 : Int32) else (0 : Int32)) then (1 : Int32) else (0 : Int32))) = v181_0 ∧ Steps p.tables e below (T177.setTop (mkF m 337 #[.val (.int p0), .val (.int p1), .val (.int p2), .val (.int p3), .val (.int nn), .val (.int v14_0), .val (.int ba1), .val (.int ba2), .val (.int ba3), .val (.int v7_0), .val (.int v19_0), .val (.ref b24_b), .val (.ref b27), .val (.int v147_0), .val (.int r52), .val (.int r178)] [(.int v147_0)])) (T177.setTop (mkF m 362 #[.val (.int p0), .val (.int p1), .val (.int p2), .val (.int p3), .val (.int nn), .val (.int v14_0), .val (.int ba1), .val (.int ba2), .val (.int ba3), .val (.int v7_0), .val (.int v19_0), .val (.ref b24_b), .val (.ref b27), .val (.int v147_0), .val (.int r52), .val (.int r178)] [(.int v181_0)])) := by
    have R181 := Steps.refl (tb := p.tables) (e := e) (below := below) (T177.setTop (mkF m 337 #[.val (.int p0), .val (.int p1), .val (.int p2), .val (.int p3), .val (.int nn), .val (.int v14_0), .val (.int ba1), .val (.int ba2), .val (.int ba3), .val (.int v7_0), .val (.int v19_0), .val (.ref b24_b), .val (.ref b27), .val (.int v147_0), .val (.int r52), .val (.int r178)] [(.int v147_0)]))
    by_cases hc337 : v147_0 = (0 : Int32)
    · have K182 : Steps p.tables e below _ (T177.setTop (mkF m 362 #[.val (.int p0), .val (.int p1), .val (.int p2), .val (.int p3), .val (.int nn), .val (.int v14_0), .val (.int ba1), .val (.int ba2), .val (.int ba3), .val (.int v7_0), .val (.int v19_0), .val (.ref b24_b), .val (.ref b27), .val (.int v147_0), .val (.int r52), .val (.int r178)] [(.int (0 : Int32))])) := R181.trans (by
        refine XS.ifYes Xg177.here hx rfl (pc0 := 337) (pc' := 361) rfl (hb hby at_337) rfl ((if0 _ _).trans (teq hc337).1) (by decide) (by decide) ?_
        refine XS.iconst Xg177.here hx rfl (hb hby at_361) ?_
        exact Steps.refl _)
      exact ⟨(0 : Int32), (by rw [if_pos hc337]), K182⟩
    · have K183 : Steps p.tables e below _ (T177.setTop (mkF m 346 #[.val (.int p0), .val (.int p1), .val (.int p2), .val (.int p3), .val (.int nn), .val (.int v14_0), .val (.int ba1), .val (.int ba2), .val (.int ba3), .val (.int v7_0), .val (.int v19_0), .val (.ref b24_b), .val (.ref b27), .val (.int v147_0), .val (.int r52), .val (.int r178)] [(.int v19_0), (.int r52), (.int r178)])) := R181.trans (by
        refine XS.ifNo Xg177.here hx rfl (hb hby at_337) rfl ((if0 _ _).trans (feq hc337).1) ?_
        refine XS.iload Xg177.here hx rfl (hb hby at_340) rfl ?_
        refine XS.iload Xg177.here hx rfl (hb hby at_342) rfl ?_
        refine XS.iload Xg177.here hx rfl (hb hby at_344) rfl ?_
        exact Steps.refl _)
      obtain ⟨v184_0, hv184_0, S184⟩ : ∃ (v184_0 : Int32), (if r52 = v19_0 then (1 : Int32) else (0 : Int32)) = v184_0 ∧ Steps p.tables e below (T177.setTop (mkF m 346 #[.val (.int p0), .val (.int p1), .val (.int p2), .val (.int p3), .val (.int nn), .val (.int v14_0), .val (.int ba1), .val (.int ba2), .val (.int ba3), .val (.int v7_0), .val (.int v19_0), .val (.ref b24_b), .val (.ref b27), .val (.int v147_0), .val (.int r52), .val (.int r178)] [(.int v19_0), (.int r52), (.int r178)])) (T177.setTop (mkF m 354 #[.val (.int p0), .val (.int p1), .val (.int p2), .val (.int p3), .val (.int nn), .val (.int v14_0), .val (.int ba1), .val (.int ba2), .val (.int ba3), .val (.int v7_0), .val (.int v19_0), .val (.ref b24_b), .val (.ref b27), .val (.int v147_0), .val (.int r52), .val (.int r178)] [(.int v184_0), (.int r178)])) := by
        have R184 := Steps.refl (tb := p.tables) (e := e) (below := below) (T177.setTop (mkF m 346 #[.val (.int p0), .val (.int p1), .val (.int p2), .val (.int p3), .val (.int nn), .val (.int v14_0), .val (.int ba1), .val (.int ba2), .val (.int ba3), .val (.int v7_0), .val (.int v19_0), .val (.ref b24_b), .val (.ref b27), .val (.int v147_0), .val (.int r52), .val (.int r178)] [(.int v19_0), (.int r52), (.int r178)]))
        by_cases hc346 : r52 = v19_0
        · have K185 : Steps p.tables e below _ (T177.setTop (mkF m 354 #[.val (.int p0), .val (.int p1), .val (.int p2), .val (.int p3), .val (.int nn), .val (.int v14_0), .val (.int ba1), .val (.int ba2), .val (.int ba3), .val (.int v7_0), .val (.int v19_0), .val (.ref b24_b), .val (.ref b27), .val (.int v147_0), .val (.int r52), .val (.int r178)] [(.int (1 : Int32)), (.int r178)])) := R184.trans (by
            refine XS.icmpNo Xg177.here hx rfl (hb hby at_346) rfl (teq hc346).2 ?_
            refine XS.iconst Xg177.here hx rfl (hb hby at_349) ?_
            refine XS.goto Xg177.here hx rfl (pc0 := 350) (pc' := 354) rfl (hb hby at_350) (by decide) (by decide) ?_
            exact Steps.refl _)
          exact ⟨(1 : Int32), (by rw [if_pos hc346]), K185⟩
        · have K186 : Steps p.tables e below _ (T177.setTop (mkF m 354 #[.val (.int p0), .val (.int p1), .val (.int p2), .val (.int p3), .val (.int nn), .val (.int v14_0), .val (.int ba1), .val (.int ba2), .val (.int ba3), .val (.int v7_0), .val (.int v19_0), .val (.ref b24_b), .val (.ref b27), .val (.int v147_0), .val (.int r52), .val (.int r178)] [(.int (0 : Int32)), (.int r178)])) := R184.trans (by
            refine XS.icmpYes Xg177.here hx rfl (pc0 := 346) (pc' := 353) rfl (hb hby at_346) rfl (feq hc346).2 (by decide) (by decide) ?_
            refine XS.iconst Xg177.here hx rfl (hb hby at_353) ?_
            exact Steps.refl _)
          exact ⟨(0 : Int32), (by rw [if_neg hc346]), K186⟩
      have K187 := K183.trans S184
      by_cases hc354 : r178 = v184_0
      · have K188 : Steps p.tables e below _ (T177.setTop (mkF m 362 #[.val (.int p0), .val (.int p1), .val (.int p2), .val (.int p3), .val (.int nn), .val (.int v14_0), .val (.int ba1), .val (.int ba2), .val (.int ba3), .val (.int v7_0), .val (.int v19_0), .val (.ref b24_b), .val (.ref b27), .val (.int v147_0), .val (.int r52), .val (.int r178)] [(.int (1 : Int32))])) := K187.trans (by
          refine XS.icmpNo Xg177.here hx rfl (hb hby at_354) rfl (teq hc354).2 ?_
          refine XS.iconst Xg177.here hx rfl (hb hby at_357) ?_
          refine XS.goto Xg177.here hx rfl (pc0 := 358) (pc' := 362) rfl (hb hby at_358) (by decide) (by decide) ?_
          exact Steps.refl _)
        subst hv184_0
        exact ⟨(1 : Int32), (by rw [if_neg hc337, if_pos hc354]), K188⟩
      · have K189 : Steps p.tables e below _ (T177.setTop (mkF m 362 #[.val (.int p0), .val (.int p1), .val (.int p2), .val (.int p3), .val (.int nn), .val (.int v14_0), .val (.int ba1), .val (.int ba2), .val (.int ba3), .val (.int v7_0), .val (.int v19_0), .val (.ref b24_b), .val (.ref b27), .val (.int v147_0), .val (.int r52), .val (.int r178)] [(.int (0 : Int32))])) := K187.trans (by
          refine XS.icmpYes Xg177.here hx rfl (pc0 := 354) (pc' := 361) rfl (hb hby at_354) rfl (feq hc354).2 (by decide) (by decide) ?_
          refine XS.iconst Xg177.here hx rfl (hb hby at_361) ?_
          exact Steps.refl _)
        subst hv184_0
        exact ⟨(0 : Int32), (by rw [if_neg hc337, if_neg hc354]), K189⟩
  have K190 := K180.trans S181
  have K191 : Steps p.tables e below _ (T177.setTop (mkF m 366 #[.val (.int p0), .val (.int p1), .val (.int p2), .val (.int p3), .val (.int nn), .val (.int v14_0), .val (.int ba1), .val (.int ba2), .val (.int ba3), .val (.int v7_0), .val (.int v19_0), .val (.ref b24_b), .val (.ref b27), .val (.int v181_0), .val (.int r52), .val (.int r178)] [(.int v181_0)])) := K190.trans (by
    refine XS.istore Xg177.here hx rfl (hb hby at_362) rfl (l' := #[.val (.int p0), .val (.int p1), .val (.int p2), .val (.int p3), .val (.int nn), .val (.int v14_0), .val (.int ba1), .val (.int ba2), .val (.int ba3), .val (.int v7_0), .val (.int v19_0), .val (.ref b24_b), .val (.ref b27), .val (.int v181_0), .val (.int r52), .val (.int r178)]) rfl ?_
    refine XS.iload Xg177.here hx rfl (hb hby at_364) rfl ?_
    exact Steps.refl _)
  have hone : (v181_0 &&& 1) = (1 : Int32) := own_law_0 p0 p1 p2 p3 nn ba0 ba1 ba2 ba3 v7_0 v14_0 v19_0 vsb r39 v42_0 v46_0 r52 v56_0 v56_1 v87_0 v87_1 v117_0 v117_1 v147_0 v147_1 r178 v181_0 hnn hba0 hba1 hba2 hba3 hv7_0 hv14_0 hv19_0 hvsb hr39 hv42_0 hv46_0 hr52 hv56_0 hv56_1 hv87_0 hv87_1 hv117_0 hv117_1 hv147_0 hv147_1 hr178 hv181_0
  obtain ⟨fs, hr, hrun, hended, hEW⟩ := Xg177.leaveW hS33 (by rw [eh177]; exact M147_4) (v := some (.int (v181_0 &&& 1))) (fun h => by rw [Bd.returns] at h; cases h)
  exact ⟨_, _, K191.trans (retN Xg177 hx (t := .boolean) Bd.returns (by simp) (hb hby at_366) hr), hrun, hended, _, _, rfl, ⟨by rw [hone], Ng177⟩, ⟨_, rfl⟩, hEW.2.1, hEW.2.2.1, hEW.2.2.2.mono (by decide) (by decide)⟩
set_option maxRecDepth 65536 in
set_option maxHeartbeats 40000000 in
theorem comes_1 {Post : Tables → Env → Array Value → State → Outcome → State → Prop} (hpost : ∀ tb e args s v u, (limb_1_1.after args s (.returned v) u = true ∧ limb_1_2.after args s (.returned v) u = true ∧ True) → ReturnedEndW s (.returned v) u (Jvm.fieldLocs frame_1_writes args s ++ Jvm.arrayLocs frame_1_arrays args s ++ Jvm.staticLocs frame_1_statics s) 16 1152 → Post tb e args s (.returned v) u) :
    ArmFor flags0 classFile x code maxLocals ret World_1 tables_1 room_1 Calls_1 rest_1 Pre_1 Post := by
  intro l hfl _ _ p e ha hc hk s m args below hf hA hF happ hP
  obtain ⟨hcalls, hrest, hpre⟩ := hP
  obtain ⟨-, -, -, hnamed, -, -, -, hat⟩ := (Spec.applies_iff hf).mp happ
  obtain ⟨hg, hn⟩ := and_e (Cond.before_iff.mp (show (Jvm.Cond.and given_1 narrow_1).before args s = true from hpre))
  obtain ⟨g1, g2⟩ := and_e hg
  obtain ⟨g3, g4⟩ := and_e g2
  obtain ⟨g5, g6⟩ := and_e g4
  obtain ⟨g7, g8⟩ := and_e g6
  obtain ⟨w0, w1, w2, w3, rfl⟩ : ∃ w0 w1 w2 w3 : Value, args = #[w0, w1, w2, w3] := by
    have hs : args.size = 4 := by simpa [Cond.value, given_1] using g1
    obtain ⟨L⟩ := args
    match L, hs with
    | [w0, w1, w2, w3], _ => exact ⟨w0, w1, w2, w3, rfl⟩
  have hw := fun d (hd : d ∈ tables_1) => atoms_spec (ws := Jvm.Cond.code x code maxLocals ret :: tables_1) hat d (List.mem_cons_of_mem _ hd)
  obtain ⟨i0, ei0⟩ := is_v g3
  obtain rfl : w0 = (.int i0) := Option.some.inj ei0
  obtain ⟨i1, ei1⟩ := is_v g5
  obtain rfl : w1 = (.int i1) := Option.some.inj ei1
  obtain ⟨i2, ei2⟩ := is_v g7
  obtain rfl : w2 = (.int i2) := Option.some.inj ei2
  obtain ⟨i3, ei3⟩ := is_v g8
  obtain rfl : w3 = (.int i3) := Option.some.inj ei3
  obtain ⟨n, o, h1, h2, h3, _, L, rfl, ⟨rfl, N⟩, hq⟩ := rm0 l s _ hw tables_1 i0 i1 i2 i3 s.heap s.heap.size (Nat.le_refl _) p e ha hc hk s m _ below hf ((Spec.applies_iff_loose hf).mp happ).1 ⟨rfl, State.Warmed39.refl s, rfl⟩ trivial
  refine ⟨n, _, h1, h2, h3, hpost _ _ _ _ _ _ ⟨Cond.after_iff.mpr rfl, Cond.after_iff.mpr (eq_i res_at (Term.int_eval (1)) rfl), trivial⟩ ⟨hq.1, hq.2.1, hq.2.2.1, (hq.2.2.2.sift fun y hy => Or.inr (N y hy)).mono (by decide) (by decide)⟩⟩
theorem main_1_1 : Claimed_1_1 := comes_1 fun _ _ _ _ _ _ h hF => ⟨h.1, hF⟩
theorem main_1_2 : Claimed_1_2 := comes_1 fun _ _ _ _ _ _ h hF => ⟨h.2.1, hF⟩
end Jvm.Pilot.@@N@@
namespace Jvm.Pilot.@@N@@
open Jvm Jvm.ClassFile Sem Op Lib Jvm.Free Jvm.Stand Jvm.Pilot.@@N@@.Jvm.D
/-! MADE BY PROGRAM (witnessworld.py) out of the Statement's table words and the real class files: 16 classes; the members and pool entries that the words name. The judged class is class 1, her method 2. -/
namespace start1
open Jvm.ClassFile
def u (s : String) : CpInfo := .utf8 (stringToUtf16 s)
/-- a pool by its gaps: so many unusable entries, then the entry; so many at the end -/
def gap : Nat → List CpInfo → List CpInfo
  | 0, r => r
  | n + 1, r => .unusable :: gap n r
def poolList (es : List (Nat × CpInfo)) (last : Nat) : List CpInfo := es.foldr (fun e r => gap e.1 (e.2 :: r)) (gap last [])
def pool (es : List (Nat × CpInfo)) (last : Nat) : Array CpInfo := ⟨poolList es last⟩
def fileOf (pool : Array CpInfo) (this : Nat) (attrs : Array Attribute := #[]) (ms : Array MethodInfo := #[]) (fl : Nat := 33) (sup : Nat := 0) (ifs : Array Nat := #[]) (fds : Array FieldInfo := #[]) : ClassFile where
  minorVersion := 0
  majorVersion := 65
  constantPool := pool
  accessFlags := fl
  thisClass := this
  superClass := sup
  interfaces := ifs
  fields := fds
  methods := ms
  attributes := attrs
def plain (name : String) (sup : Option ClassId) : Class where
  name := name
  kind := .ordinary
  loader := none
  accessFlags := 33
  super := sup
  interfaces := #[]
  cf := none
  fields := #[]
  methods := #[]
  instanceTypes := #[]
  staticTypes := #[]
  resolved := #[]
  callSites := []
  init := .initialized
  statics := none
  mirror := none

def pool0 : Array CpInfo := pool [(5, u "<init>"), (0, u "()V"), (1, .class_ 10), (1, u "java/lang/Object")] 113

def k0c0 : Code := { maxStack := 0, maxLocals := 1, code := object_method_1_code, exceptionTable := #[], attributes := #[] }
def k0m0 : Method := { name := "<init>", desc := "()V", sig := { parameters := [], returnType := none }, accessFlags := 1, code := some k0c0 }
/-- java/lang/Object -/
def k0 : Class := { plain "java/lang/Object" none with
  accessFlags := 33
  interfaces := #[]
  cf := some (fileOf pool0 8 #[] #[{ accessFlags := 1, nameIndex := 5, descriptorIndex := 6, attributes := #[] }] 33 0 #[] #[])
  fields := #[]
  methods := #[k0m0]
  instanceTypes := #[]
  staticTypes := #[]
  resolved := Array.replicate 124 none
  statics := none }

def pool1 : Array CpInfo := pool [(2, .class_ 4), (1, u "java/lang/Object"), (0, u "<init>"), (0, u "()V"), (0, .methodref 8 9), (0, .class_ 10), (0, .nameAndType 11 12), (0, u "com/example/thin_gateway/thingateway/avro/AvroDecoderIsAtEndPinLaw"), (0, u "build"), (0, u "(IBBBB)[B"), (0, .class_ 14), (0, u "com/example/thin_gateway/thingateway/avro/AvroDecoder"), (0, .methodref 13 16), (0, .nameAndType 5 17), (0, u "([B)V"), (0, .methodref 13 19), (0, .nameAndType 20 21), (0, u "isAtEnd"), (0, u "()Z"), (0, .methodref 23 24), (0, .class_ 25), (0, .nameAndType 26 27), (0, u "java/lang/Math"), (0, u "min"), (0, u "(II)I"), (0, .methodref 13 29), (0, .nameAndType 30 31), (0, u "readLong"), (0, u "()J"), (3, u "law"), (0, u "(IIII)Z")] 7

def k1m0 : Method := { name := "<init>", desc := "()V", sig := { parameters := [], returnType := none }, accessFlags := 2, code := none }
def k1c1 : Code := { maxStack := 4, maxLocals := 5, code := method_2_code, exceptionTable := #[], attributes := #[] }
def k1m1 : Method := { name := "build", desc := "(IBBBB)[B", sig := { parameters := [.int, .byte, .byte, .byte, .byte], returnType := some (.array .byte) }, accessFlags := 10, code := some k1c1 }
def k1c2 : Code := { maxStack := 5, maxLocals := 16, code := code, exceptionTable := #[], attributes := #[] }
def k1m2 : Method := { name := "law", desc := "(IIII)Z", sig := { parameters := [.int, .int, .int, .int], returnType := some .boolean }, accessFlags := 9, code := some k1c2 }
/-- com/example/thin_gateway/thingateway/avro/AvroDecoderIsAtEndPinLaw -/
def k1 : Class := { plain "com/example/thin_gateway/thingateway/avro/AvroDecoderIsAtEndPinLaw" (some 0) with
  accessFlags := 49
  interfaces := #[]
  cf := some (fileOf pool1 8 #[] #[{ accessFlags := 2, nameIndex := 5, descriptorIndex := 6, attributes := #[] }, { accessFlags := 10, nameIndex := 11, descriptorIndex := 12, attributes := #[] }, { accessFlags := 9, nameIndex := 35, descriptorIndex := 36, attributes := #[] }] 49 2 #[] #[])
  fields := #[]
  methods := #[k1m0, k1m1, k1m2]
  instanceTypes := #[]
  staticTypes := #[]
  resolved := Array.replicate 44 none
  statics := none }

def pool2 : Array CpInfo := pool [(1, .methodref 2 3), (0, .class_ 4), (0, .nameAndType 5 6), (0, u "java/lang/Object"), (0, u "<init>"), (0, u "()V"), (0, .string 8), (0, u "input"), (0, .methodref 10 11), (0, .class_ 12), (0, .nameAndType 13 14), (0, u "java/util/Objects"), (0, u "requireNonNull"), (0, u "(Ljava/lang/Object;Ljava/lang/String;)Ljava/lang/Object;"), (0, .class_ 16), (0, u "[B"), (0, .fieldref 18 19), (0, .class_ 20), (0, .nameAndType 8 16), (0, u "com/example/thin_gateway/thingateway/avro/AvroDecoder"), (0, .fieldref 18 22), (0, .nameAndType 23 24), (0, u "position"), (0, u "I"), (2, u "readLong"), (0, u "()J"), (64, u "([B)V"), (2, u "isAtEnd"), (0, u "()Z")] 35

def k2c0 : Code := { maxStack := 3, maxLocals := 2, code := prog_1_method_1_code, exceptionTable := #[], attributes := #[] }
def k2m0 : Method := { name := "<init>", desc := "([B)V", sig := { parameters := [(.array .byte)], returnType := none }, accessFlags := 1, code := some k2c0 }
def k2c1 : Code := { maxStack := 2, maxLocals := 1, code := prog_1_method_2_code, exceptionTable := #[], attributes := #[] }
def k2m1 : Method := { name := "isAtEnd", desc := "()Z", sig := { parameters := [], returnType := some .boolean }, accessFlags := 1, code := some k2c1 }
def k2c2 : Code := { maxStack := 6, maxLocals := 7, code := prog_1_method_4_code, exceptionTable := #[], attributes := #[] }
def k2m2 : Method := { name := "readLong", desc := "()J", sig := { parameters := [], returnType := some .long }, accessFlags := 1, code := some k2c2 }
/-- com/example/thin_gateway/thingateway/avro/AvroDecoder -/
def k2 : Class := { plain "com/example/thin_gateway/thingateway/avro/AvroDecoder" (some 0) with
  accessFlags := 49
  interfaces := #[]
  cf := some (fileOf pool2 18 #[] #[{ accessFlags := 1, nameIndex := 5, descriptorIndex := 93, attributes := #[] }, { accessFlags := 1, nameIndex := 96, descriptorIndex := 97, attributes := #[] }, { accessFlags := 1, nameIndex := 27, descriptorIndex := 28, attributes := #[] }] 49 2 #[] #[{ accessFlags := 18, nameIndex := 8, descriptorIndex := 16, attributes := #[] }, { accessFlags := 2, nameIndex := 23, descriptorIndex := 24, attributes := #[] }])
  fields := #[{ name := "input", type := (.array .byte), accessFlags := 18, slot := 0, constantValue := 0 }, { name := "position", type := .int, accessFlags := 2, slot := 1, constantValue := 0 }]
  methods := #[k2m0, k2m1, k2m2]
  instanceTypes := #[(.array .byte), .int]
  staticTypes := #[]
  resolved := Array.replicate 133 none
  statics := none }

def pool3 : Array CpInfo := pool [(1, .class_ 2), (0, u "java/io/Serializable"), (0, .class_ 4), (0, u "java/lang/Object")] 2

/-- java/io/Serializable -/
def k3 : Class := { plain "java/io/Serializable" (some 0) with
  accessFlags := 1537
  interfaces := #[]
  cf := some (fileOf pool3 1 #[] #[] 1537 3 #[] #[])
  fields := #[]
  methods := #[]
  instanceTypes := #[]
  staticTypes := #[]
  resolved := Array.replicate 7 none
  statics := none }

def pool4 : Array CpInfo := pool [(1, .class_ 2), (0, u "java/lang/Comparable"), (0, .class_ 4), (0, u "java/lang/Object")] 7

/-- java/lang/Comparable -/
def k4 : Class := { plain "java/lang/Comparable" (some 0) with
  accessFlags := 1537
  interfaces := #[]
  cf := some (fileOf pool4 1 #[] #[] 1537 3 #[] #[])
  fields := #[]
  methods := #[]
  instanceTypes := #[]
  staticTypes := #[]
  resolved := Array.replicate 12 none
  statics := none }

def pool5 : Array CpInfo := pool [(2, .class_ 4), (1, u "java/lang/CharSequence"), (42, .class_ 48), (0, u "java/lang/CharSequence$1CodePointIterator"), (10, .class_ 60), (0, u "java/lang/CharSequence$1CharIterator"), (5, .class_ 67), (0, u "java/lang/Object")] 63

/-- java/lang/CharSequence -/
def k5 : Class := { plain "java/lang/CharSequence" (some 0) with
  accessFlags := 1537
  interfaces := #[]
  cf := some (fileOf pool5 2 #[.nestMembers #[47, 59]] #[] 1537 66 #[] #[])
  fields := #[]
  methods := #[]
  instanceTypes := #[]
  staticTypes := #[]
  resolved := Array.replicate 131 none
  statics := none }

def pool6 : Array CpInfo := pool [(1, .class_ 2), (0, u "java/lang/constant/Constable"), (0, .class_ 4), (0, u "java/lang/Object")] 6

/-- java/lang/constant/Constable -/
def k6 : Class := { plain "java/lang/constant/Constable" (some 0) with
  accessFlags := 1537
  interfaces := #[]
  cf := some (fileOf pool6 1 #[] #[] 1537 3 #[] #[])
  fields := #[]
  methods := #[]
  instanceTypes := #[]
  staticTypes := #[]
  resolved := Array.replicate 11 none
  statics := none }

def pool7 : Array CpInfo := pool [(1, .class_ 2), (0, u "java/lang/constant/ConstantDesc"), (0, .class_ 4), (0, u "java/lang/Object")] 32

/-- java/lang/constant/ConstantDesc -/
def k7 : Class := { plain "java/lang/constant/ConstantDesc" (some 0) with
  accessFlags := 1537
  interfaces := #[]
  cf := some (fileOf pool7 1 #[] #[] 1537 3 #[] #[])
  fields := #[]
  methods := #[]
  instanceTypes := #[]
  staticTypes := #[]
  resolved := Array.replicate 37 none
  statics := none }

def pool8 : Array CpInfo := pool [(2, .class_ 4), (1, u "java/lang/Object"), (0, u "<init>"), (0, u "()V"), (3, .class_ 12), (1, u "java/lang/String"), (0, u "value"), (0, u "[B"), (2, u "coder"), (0, u "B"), (2, u "hash"), (0, u "I"), (2, u "hashIsZero"), (0, u "Z"), (13, u "COMPACT_STRINGS"), (534, .class_ 576), (0, u "java/lang/CharSequence"), (22, u "CASE_INSENSITIVE_ORDER"), (0, u "Ljava/util/Comparator;"), (500, u "serialPersistentFields"), (0, u "[Ljava/io/ObjectStreamField;"), (0, .class_ 1104), (0, u "java/lang/String$CaseInsensitiveComparator"), (1, .class_ 1107), (0, u "java/io/Serializable"), (0, .class_ 1109), (0, u "java/lang/Comparable"), (0, .class_ 1111), (0, u "java/lang/constant/Constable"), (0, .class_ 1113), (0, u "java/lang/constant/ConstantDesc"), (2, u "serialVersionUID"), (0, u "J"), (3, u "REPL"), (0, u "C"), (2, u "LATIN1"), (1, u "UTF16")] 323

def k8m0 : Method := { name := "<init>", desc := "()V", sig := { parameters := [], returnType := none }, accessFlags := 1, code := none }
/-- java/lang/String -/
def k8 : Class := { plain "java/lang/String" (some 0) with
  accessFlags := 49
  interfaces := #[3, 4, 5, 6, 7]
  cf := some (fileOf pool8 10 #[.nestMembers #[1103]] #[{ accessFlags := 1, nameIndex := 5, descriptorIndex := 6, attributes := #[] }] 49 2 #[1106, 1108, 575, 1110, 1112] #[{ accessFlags := 18, nameIndex := 13, descriptorIndex := 14, attributes := #[] }, { accessFlags := 18, nameIndex := 17, descriptorIndex := 18, attributes := #[] }, { accessFlags := 2, nameIndex := 21, descriptorIndex := 22, attributes := #[] }, { accessFlags := 2, nameIndex := 25, descriptorIndex := 26, attributes := #[] }, { accessFlags := 26, nameIndex := 1116, descriptorIndex := 1117, attributes := #[] }, { accessFlags := 24, nameIndex := 40, descriptorIndex := 26, attributes := #[] }, { accessFlags := 26, nameIndex := 1101, descriptorIndex := 1102, attributes := #[] }, { accessFlags := 26, nameIndex := 1121, descriptorIndex := 1122, attributes := #[] }, { accessFlags := 25, nameIndex := 599, descriptorIndex := 600, attributes := #[] }, { accessFlags := 24, nameIndex := 1125, descriptorIndex := 18, attributes := #[] }, { accessFlags := 24, nameIndex := 1127, descriptorIndex := 18, attributes := #[] }])
  fields := #[{ name := "value", type := (.array .byte), accessFlags := 18, slot := 0, constantValue := 0 }, { name := "coder", type := .byte, accessFlags := 18, slot := 1, constantValue := 0 }, { name := "hash", type := .int, accessFlags := 2, slot := 2, constantValue := 0 }, { name := "hashIsZero", type := .boolean, accessFlags := 2, slot := 3, constantValue := 0 }, { name := "serialVersionUID", type := .long, accessFlags := 26, slot := 0, constantValue := 0 }, { name := "COMPACT_STRINGS", type := .boolean, accessFlags := 24, slot := 1, constantValue := 0 }, { name := "serialPersistentFields", type := (.array (.object "java/io/ObjectStreamField")), accessFlags := 26, slot := 2, constantValue := 0 }, { name := "REPL", type := .char, accessFlags := 26, slot := 3, constantValue := 0 }, { name := "CASE_INSENSITIVE_ORDER", type := (.object "java/util/Comparator"), accessFlags := 25, slot := 4, constantValue := 0 }, { name := "LATIN1", type := .byte, accessFlags := 24, slot := 5, constantValue := 0 }, { name := "UTF16", type := .byte, accessFlags := 24, slot := 6, constantValue := 0 }]
  methods := #[k8m0]
  instanceTypes := #[(.array .byte), .byte, .int, .boolean]
  staticTypes := #[.long, .boolean, (.array (.object "java/io/ObjectStreamField")), .char, (.object "java/util/Comparator"), .byte, .byte]
  resolved := Array.replicate 1451 none
  statics := none }

def pool9 : Array CpInfo := pool [(2, .class_ 4), (1, u "java/lang/Object"), (0, u "<init>"), (0, u "()V"), (35, .class_ 44), (1, u "java/util/Objects"), (0, u "requireNonNull"), (48, u "(Ljava/lang/Object;Ljava/lang/String;)Ljava/lang/Object;")] 89

def k9m0 : Method := { name := "<init>", desc := "()V", sig := { parameters := [], returnType := none }, accessFlags := 2, code := none }
def k9c1 : Code := { maxStack := 3, maxLocals := 2, code := jdk_31_method_11_code, exceptionTable := #[], attributes := #[] }
def k9m1 : Method := { name := "requireNonNull", desc := "(Ljava/lang/Object;Ljava/lang/String;)Ljava/lang/Object;", sig := { parameters := [(.object "java/lang/Object"), (.object "java/lang/String")], returnType := some (.object "java/lang/Object") }, accessFlags := 9, code := some k9c1 }
/-- java/util/Objects -/
def k9 : Class := { plain "java/util/Objects" (some 0) with
  accessFlags := 49
  interfaces := #[]
  cf := some (fileOf pool9 42 #[] #[{ accessFlags := 2, nameIndex := 5, descriptorIndex := 6, attributes := #[] }, { accessFlags := 9, nameIndex := 45, descriptorIndex := 94, attributes := #[] }] 49 2 #[] #[])
  fields := #[]
  methods := #[k9m0, k9m1]
  instanceTypes := #[]
  staticTypes := #[]
  resolved := Array.replicate 184 none
  statics := none }

def pool10 : Array CpInfo := pool [(1, .class_ 2), (0, u "java/lang/Math"), (1, .class_ 6), (1, u "java/lang/Object"), (0, u "<init>"), (0, u "()V"), (89, .class_ 100), (1, u "java/lang/Math$RandomNumberGeneratorHolder"), (71, u "negativeZeroFloatBits"), (0, u "J"), (2, u "negativeZeroDoubleBits"), (24, u "min"), (43, u "$assertionsDisabled"), (0, u "Z"), (88, u "(II)I"), (2, u "twoToTheDoubleScaleDown"), (0, u "D"), (4, u "twoToTheDoubleScaleUp"), (9, u "E"), (3, u "PI"), (2, u "TAU"), (2, u "DEGREES_TO_RADIANS"), (0, u "RADIANS_TO_DEGREES")] 94

def k10m0 : Method := { name := "<init>", desc := "()V", sig := { parameters := [], returnType := none }, accessFlags := 2, code := none }
def k10c1 : Code := { maxStack := 2, maxLocals := 2, code := jdk_29_method_69_code, exceptionTable := #[], attributes := #[] }
def k10m1 : Method := { name := "min", desc := "(II)I", sig := { parameters := [.int, .int], returnType := some .int }, accessFlags := 9, code := some k10c1 }
/-- java/lang/Math -/
def k10 : Class := { plain "java/lang/Math" (some 0) with
  accessFlags := 49
  interfaces := #[]
  cf := some (fileOf pool10 1 #[.nestMembers #[98]] #[{ accessFlags := 2, nameIndex := 7, descriptorIndex := 8, attributes := #[] }, { accessFlags := 9, nameIndex := 201, descriptorIndex := 335, attributes := #[] }] 49 4 #[] #[{ accessFlags := 25, nameIndex := 354, descriptorIndex := 339, attributes := #[] }, { accessFlags := 25, nameIndex := 358, descriptorIndex := 339, attributes := #[] }, { accessFlags := 25, nameIndex := 361, descriptorIndex := 339, attributes := #[] }, { accessFlags := 26, nameIndex := 364, descriptorIndex := 339, attributes := #[] }, { accessFlags := 26, nameIndex := 365, descriptorIndex := 339, attributes := #[] }, { accessFlags := 26, nameIndex := 172, descriptorIndex := 173, attributes := #[] }, { accessFlags := 26, nameIndex := 176, descriptorIndex := 173, attributes := #[] }, { accessFlags := 8, nameIndex := 344, descriptorIndex := 339, attributes := #[] }, { accessFlags := 8, nameIndex := 338, descriptorIndex := 339, attributes := #[] }, { accessFlags := 4120, nameIndex := 245, descriptorIndex := 246, attributes := #[] }])
  fields := #[{ name := "E", type := .double, accessFlags := 25, slot := 0, constantValue := 0 }, { name := "PI", type := .double, accessFlags := 25, slot := 1, constantValue := 0 }, { name := "TAU", type := .double, accessFlags := 25, slot := 2, constantValue := 0 }, { name := "DEGREES_TO_RADIANS", type := .double, accessFlags := 26, slot := 3, constantValue := 0 }, { name := "RADIANS_TO_DEGREES", type := .double, accessFlags := 26, slot := 4, constantValue := 0 }, { name := "negativeZeroFloatBits", type := .long, accessFlags := 26, slot := 5, constantValue := 0 }, { name := "negativeZeroDoubleBits", type := .long, accessFlags := 26, slot := 6, constantValue := 0 }, { name := "twoToTheDoubleScaleUp", type := .double, accessFlags := 8, slot := 7, constantValue := 0 }, { name := "twoToTheDoubleScaleDown", type := .double, accessFlags := 8, slot := 8, constantValue := 0 }, { name := "$assertionsDisabled", type := .boolean, accessFlags := 4120, slot := 9, constantValue := 0 }]
  methods := #[k10m0, k10m1]
  instanceTypes := #[]
  staticTypes := #[.double, .double, .double, .double, .double, .long, .long, .double, .double, .boolean]
  resolved := Array.replicate 460 none
  statics := none }

def pool11 : Array CpInfo := pool [(1, u "java/lang/Cloneable"), (0, .class_ 1), (0, u "java/lang/Object"), (0, .class_ 3)] 3

/-- java/lang/Cloneable -/
def k11 : Class := { plain "java/lang/Cloneable" (some 0) with
  accessFlags := 1537
  interfaces := #[]
  cf := some (fileOf pool11 2 #[] #[] 1537 4 #[] #[])
  fields := #[]
  methods := #[]
  instanceTypes := #[]
  staticTypes := #[]
  resolved := Array.replicate 8 none
  statics := none }

/-- the primitive byte -/
def k12 : Class := { plain "byte" none with kind := .primitive 'B', accessFlags := 0x411 }
/-- [B -/
def k13 : Class := { plain "[B" (some 0) with kind := .array 12 .byte, interfaces := #[11, 3], accessFlags := 1041 }

/-- the primitive int -/
def k14 : Class := { plain "int" none with kind := .primitive 'I', accessFlags := 0x411 }
/-- [I -/
def k15 : Class := { plain "[I" (some 0) with kind := .array 14 .int, interfaces := #[11, 3], accessFlags := 1041 }

def heap : Heap := #[]
def classes : Array Class := #[k0, k1, k2, k3, k4, k5, k6, k7, k8, k9, k10, k11, k12, k13, k14, k15]
def interned : List (Array UInt16 × Addr) := []
def slotsUsed : Nat := 0
def theMethod : MethodId := ⟨1, 2⟩
def args0 : Array Value := #[.int 3, .int 3, .int 3, .int 3]
def aboutOver (below : List Frame) : State where
  vm := { classes := classes, interned := interned.toArray }
  heap := heap
  slotsUsed := slotsUsed
  threads := #[{ frames := .invoking theMethod args0 :: below }]
def below0 : List Frame := [.native { method := ⟨0, 0⟩, args := #[] }]
def about1 : State := aboutOver below0
def p0 : Program := .bare "" "" ""
def e0 : Env := launch0.env 0 0 0
theorem w_frames : about1.frames = Frame.invoking theMethod args0 :: below0 := rfl
set_option maxRecDepth 65536 in
theorem w_args : argsFit about1.vm theMethod args0 = true := by decide +kernel
set_option maxRecDepth 65536 in
theorem w_heap : heapFits about1 = true := by decide +kernel
set_option maxRecDepth 65536 in
theorem w_runnable : about1.curStatus? = some .runnable := by decide +kernel
set_option maxRecDepth 65536 in
theorem w_alone : about1.alone = true := by decide +kernel
set_option maxRecDepth 65536 in
theorem w_named : about1.methodNamed? x = some theMethod := by decide +kernel
set_option maxRecDepth 65536 in
theorem w_hears : about1.hears theMethod below0 = true := by decide +kernel
set_option maxRecDepth 65536 in
theorem w_ripe : about1.ripe theMethod args0 below0 = true := by decide +kernel
theorem w_running : about1.status = .running := rfl
set_option maxRecDepth 65536 in
theorem w_room : about1.hasRoom e0.platform room_1 = true :=
  launch0.hasRoom_least _ room_1 (by decide +kernel) (by decide +kernel) (by decide +kernel) (by decide +kernel) (by decide +kernel) (by decide +kernel)
theorem allAtoms_all (ts : List Jvm.Cond) (a : Array Jvm.Value) (st : Jvm.State) : (allAtoms ts).before a st = ts.all (fun c => c.before a st) := by
  induction ts with
  | nil => rfl
  | cons c t ih =>
    show (Jvm.Cond.and c (allAtoms t)).before a st = _
    rw [Jvm.Cond.before_and, ih, List.all_cons]
def words1 : List Jvm.Cond := Jvm.Cond.code x code maxLocals ret :: tables_1
/-- a 'code' word, met by the world's own term for the bytes: nothing is compared byte by byte -/
theorem code_word {y : MethodName} {bytes : ByteArray} {mx : Nat} {rt : Option FieldType} {a : Array Value} {s : State} {m : MethodId} {meth : Method} {c : Code} (h1 : s.methodNamed? y = some m) (h2 : s.vm.method? m = some meth) (h3 : meth.code = some c) (h4 : c.code = bytes)
    (h5 : (c.maxLocals == mx && c.exceptionTable.isEmpty && decide (c.maxStack ≤ mostOperands) && decide (meth.sig.returnType = rt) && !meth.locks && decide (parseMethodDescriptor y.desc = some meth.sig)) = true) : (Jvm.Cond.code y bytes mx rt).before a s = true := by
  simp only [Bool.and_eq_true, beq_iff_eq, Bool.not_eq_true', decide_eq_true_eq] at h5
  obtain ⟨⟨⟨⟨⟨g1, g2⟩, g3⟩, g4⟩, g5⟩, g6⟩ := h5
  simp [Cond.before, Cond.holds, Cond.value, h1, h2, h3, h4, g1, g2, g3, g4, g5, g6]
def isCode : Jvm.Cond → Bool
  | .code _ _ _ _ => true
  | _ => false
theorem all_split {L : List Jvm.Cond} {P : Jvm.Cond → Bool} (h1 : L.all (fun c => isCode c || P c) = true) (h2 : ∀ c ∈ L.filter isCode, P c = true) : L.all P = true := by
  refine List.all_eq_true.mpr fun c hc => ?_
  have h := List.all_eq_true.mp h1 c hc
  rcases Bool.eq_false_or_eq_true (isCode c) with hi | hi
  · exact h2 c (List.mem_filter.mpr ⟨hc, hi⟩)
  · simpa [hi] using h
set_option maxRecDepth 65536 in
theorem w_c0 : (Jvm.Cond.code x code maxLocals ret).before args0 about1 = true := code_word (m := ⟨1, 2⟩) (meth := k1m2) (c := k1c2) (by decide +kernel) rfl rfl rfl (by decide +kernel)
set_option maxRecDepth 65536 in
theorem w_c1 : (Jvm.Cond.code ({ cls := "com/example/thin_gateway/thingateway/avro/AvroDecoderIsAtEndPinLaw", name := "build", desc := "(IBBBB)[B" } : Jvm.MethodName) method_2_code (5 : Nat) (Option.some (Jvm.ClassFile.FieldType.array Jvm.ClassFile.FieldType.byte))).before args0 about1 = true := code_word (m := ⟨1, 1⟩) (meth := k1m1) (c := k1c1) (by decide +kernel) rfl rfl rfl (by decide +kernel)
set_option maxRecDepth 65536 in
theorem w_c2 : (Jvm.Cond.code ({ cls := "com/example/thin_gateway/thingateway/avro/AvroDecoder", name := "<init>", desc := "([B)V" } : Jvm.MethodName) prog_1_method_1_code (2 : Nat) (Option.none : Option Jvm.ClassFile.FieldType)).before args0 about1 = true := code_word (m := ⟨2, 0⟩) (meth := k2m0) (c := k2c0) (by decide +kernel) rfl rfl rfl (by decide +kernel)
set_option maxRecDepth 65536 in
theorem w_c3 : (Jvm.Cond.code ({ cls := "java/lang/Object", name := "<init>", desc := "()V" } : Jvm.MethodName) object_method_1_code (1 : Nat) (Option.none : Option Jvm.ClassFile.FieldType)).before args0 about1 = true := code_word (m := ⟨0, 0⟩) (meth := k0m0) (c := k0c0) (by decide +kernel) rfl rfl rfl (by decide +kernel)
set_option maxRecDepth 65536 in
theorem w_c4 : (Jvm.Cond.code ({ cls := "java/util/Objects", name := "requireNonNull", desc := "(Ljava/lang/Object;Ljava/lang/String;)Ljava/lang/Object;" } : Jvm.MethodName) jdk_31_method_11_code (2 : Nat) (Option.some (Jvm.ClassFile.FieldType.object "java/lang/Object"))).before args0 about1 = true := code_word (m := ⟨9, 1⟩) (meth := k9m1) (c := k9c1) (by decide +kernel) rfl rfl rfl (by decide +kernel)
set_option maxRecDepth 65536 in
theorem w_c5 : (Jvm.Cond.code ({ cls := "com/example/thin_gateway/thingateway/avro/AvroDecoder", name := "isAtEnd", desc := "()Z" } : Jvm.MethodName) prog_1_method_2_code (1 : Nat) (Option.some Jvm.ClassFile.FieldType.boolean)).before args0 about1 = true := code_word (m := ⟨2, 1⟩) (meth := k2m1) (c := k2c1) (by decide +kernel) rfl rfl rfl (by decide +kernel)
set_option maxRecDepth 65536 in
theorem w_c6 : (Jvm.Cond.code ({ cls := "java/lang/Math", name := "min", desc := "(II)I" } : Jvm.MethodName) jdk_29_method_69_code (2 : Nat) (Option.some Jvm.ClassFile.FieldType.int)).before args0 about1 = true := code_word (m := ⟨10, 1⟩) (meth := k10m1) (c := k10c1) (by decide +kernel) rfl rfl rfl (by decide +kernel)
set_option maxRecDepth 65536 in
theorem w_c7 : (Jvm.Cond.code ({ cls := "com/example/thin_gateway/thingateway/avro/AvroDecoder", name := "readLong", desc := "()J" } : Jvm.MethodName) prog_1_method_4_code (7 : Nat) (Option.some Jvm.ClassFile.FieldType.long)).before args0 about1 = true := code_word (m := ⟨2, 2⟩) (meth := k2m2) (c := k2c2) (by decide +kernel) rfl rfl rfl (by decide +kernel)
def codes1 : List Jvm.Cond := [Jvm.Cond.code x code maxLocals ret, Jvm.Cond.code ({ cls := "com/example/thin_gateway/thingateway/avro/AvroDecoderIsAtEndPinLaw", name := "build", desc := "(IBBBB)[B" } : Jvm.MethodName) method_2_code (5 : Nat) (Option.some (Jvm.ClassFile.FieldType.array Jvm.ClassFile.FieldType.byte)), Jvm.Cond.code ({ cls := "com/example/thin_gateway/thingateway/avro/AvroDecoder", name := "<init>", desc := "([B)V" } : Jvm.MethodName) prog_1_method_1_code (2 : Nat) (Option.none : Option Jvm.ClassFile.FieldType), Jvm.Cond.code ({ cls := "java/lang/Object", name := "<init>", desc := "()V" } : Jvm.MethodName) object_method_1_code (1 : Nat) (Option.none : Option Jvm.ClassFile.FieldType), Jvm.Cond.code ({ cls := "java/util/Objects", name := "requireNonNull", desc := "(Ljava/lang/Object;Ljava/lang/String;)Ljava/lang/Object;" } : Jvm.MethodName) jdk_31_method_11_code (2 : Nat) (Option.some (Jvm.ClassFile.FieldType.object "java/lang/Object")), Jvm.Cond.code ({ cls := "com/example/thin_gateway/thingateway/avro/AvroDecoder", name := "isAtEnd", desc := "()Z" } : Jvm.MethodName) prog_1_method_2_code (1 : Nat) (Option.some Jvm.ClassFile.FieldType.boolean), Jvm.Cond.code ({ cls := "java/lang/Math", name := "min", desc := "(II)I" } : Jvm.MethodName) jdk_29_method_69_code (2 : Nat) (Option.some Jvm.ClassFile.FieldType.int), Jvm.Cond.code ({ cls := "com/example/thin_gateway/thingateway/avro/AvroDecoder", name := "readLong", desc := "()J" } : Jvm.MethodName) prog_1_method_4_code (7 : Nat) (Option.some Jvm.ClassFile.FieldType.long)]
set_option maxRecDepth 65536 in
theorem codes_eq : words1.filter isCode = codes1 := rfl
theorem w_codes : ∀ c ∈ words1.filter isCode, c.before args0 about1 = true := by
  rw [codes_eq]
  intro c hc
  simp only [codes1, List.mem_cons, List.not_mem_nil, or_false] at hc
  rcases hc with rfl | rfl | rfl | rfl | rfl | rfl | rfl | rfl
  · exact w_c0
  · exact w_c1
  · exact w_c2
  · exact w_c3
  · exact w_c4
  · exact w_c5
  · exact w_c6
  · exact w_c7
set_option maxRecDepth 65536 in
theorem w_t1 : (words1.take 24).all (fun c => isCode c || c.before args0 about1) = true := by decide +kernel
set_option maxRecDepth 65536 in
theorem w_t2 : (words1.drop 24).all (fun c => isCode c || c.before args0 about1) = true := by decide +kernel
theorem w_tables : (allAtoms (Jvm.Cond.code x code maxLocals ret :: tables_1)).before args0 about1 = true := by
  rw [allAtoms_all]
  show words1.all (fun c => c.before args0 about1) = true
  refine all_split ?_ w_codes
  rw [← List.take_append_drop 24 words1, List.all_append, w_t1, w_t2]
  rfl
set_option maxRecDepth 65536 in
theorem w_case : (Jvm.Cond.and given_1 narrow_1).before args0 about1 = true := by decide +kernel
theorem w_applies : (headSpec (Jvm.Cond.code x code maxLocals ret :: tables_1) room_1).applies x e0.platform about1 = true :=
  (Spec.applies_iff w_frames).mpr ⟨w_running, w_runnable, w_alone, w_named, w_hears, w_ripe, w_room, w_tables⟩
theorem atStart : AtStart classFile x code maxLocals ret World_1 tables_1 room_1 Calls_1 rest_1 Pre_1 launch0 p0 e0 about1 theMethod args0 below0 :=
  ⟨lists_1, trivial, launch0.admits_env _ _ _, launch0.least_env, fairChoices_fair.cas, fairChoices_fair.clock, w_frames, w_args, w_heap, w_applies, trivial, trivial, w_case⟩
end start1
theorem witness_1 : WitnessClaimed_1 := ⟨start1.p0, start1.e0, start1.about1, start1.theMethod, start1.args0, start1.below0, start1.atStart⟩
end Jvm.Pilot.@@N@@
