import JvmDerived
import JvmDerived.Pilot.@@N@@Statement
import JvmDerived.Pilot.@@N@@Code
set_option linter.unusedVariables false
set_option linter.unusedSimpArgs false
namespace Jvm.RoadKit
open Sem ClassFile Op Lib Jvm.Stand Jvm.Free Jvm.LawKit
section New
variable {p : Program} {l : Launch} {e : Env} {R : Room} {s : State} {m : MethodId} {args : Array Value} {below : List Frame} {meth : Method} {c : Code} {T : State} {locs : List Loc} {cells slots : Nat}
theorem retI (X : Stand p l e R s m args below meth c T locs cells slots) (hx : p.tables.exec = Jvm.exec) {pc : Nat} {Ls : Array Slot} {z : Int32} {rest : List Value} (hret : meth.sig.returnType = some .int) (hd : decode c.code pc = .ok (.ireturn, 1)) {fs : List Frame}
    (hl : ∀ (f : JFrame) (acts : List Action), f.method = m → f.locked = none → f.entered = [] → (doReturn e (T.setTop f) acts (some (.int z))).1 = T.setFrames fs) : Steps p.tables e below (T.setTop (mkF m pc Ls (.int z :: rest))) (T.setFrames fs) := by
  have hm' : T.vm.method? m = some meth := X.method'
  have hn : narrow .int (.int z) = .int z := rfl
  show Steps p.tables e below (T.setTop { method := m, pc := pc, locals := Ls, stack := _ :: rest, locked := none }) _
  jvm_step X.here [X.here.top, hx, hd, hm', hret, hn]
  first | (intro acts; rw [hl _ acts rfl rfl rfl]) | rw [hl _ _ rfl rfl rfl]
  exact Steps.refl _
end New
end Jvm.RoadKit
namespace Jvm.Pilot.@@N@@
open Jvm Jvm.ClassFile Sem Op Lib Jvm.Free Jvm.Stand Jvm.LawKit Jvm.RoadKit Bundle Jvm.Pilot.@@N@@.Jvm.D
theorem tw {Z : State} {a0 : Array Value} {i : Nat} {d : Jvm.Cond} (hw : ∀ d ∈ tables_1, d.before a0 Z = true) (h : tables_1[i]? = some d) : d.before a0 Z = true := hw _ (List.mem_of_getElem? h)
abbrev own_K (p : Program) (e : Env) (below : List Frame) (m : MethodId) (T : State) (pc : Nat) (L : Array Slot) (S : List Value) (t : State) : Prop := Steps p.tables e below (T.setTop (mkF m pc L S)) t
abbrev lv (x : Int64) : Slot := .val (.long x)
section OwnLib
variable {p : Program} {l : Launch} {e : Env} {R : Room} {s : State} {m : MethodId} {args : Array Value} {below : List Frame} {meth : Method} {c : Code} {T : State} {locs : List Loc} {cells slots : Nat} {Z : State} {h : Heap} {a : Addr} {k : ClassId} {ty : FieldType} {n j : Int32} {vs : List Value} {dv v : Value}
theorem own_selp {a0 args' : Array Value} {y : MethodName} {kk : Nat} (hZ : Z.Warmed39 s.vm) (wi : (Jvm.Cond.instantiable y.cls kk).before a0 Z = true) (wp : (Jvm.Cond.privateMethod y).before a0 Z = true) (wm : (Jvm.Cond.instanceMethod y).before a0 Z = true) (hy : y.cls ≠ "java/lang/invoke/MethodHandle" ∧ y.cls ≠ "java/lang/invoke/VarHandle") : (Jvm.Cond.selects y.cls y y).before args' s = true := by
  obtain ⟨c, k, g1, g2, g3, g4, -⟩ := Cond.instantiable_spec (mvT hZ wi (args := args'))
  have hi : k.isInterface = false := by
    cases hq : k.isInterface
    · rfl
    · simp [hq] at g4
  exact selects_self_of_private g1 g2 hi (Cond.privateMethod_at (mvP hZ wp (args := args'))) (mvT hZ wm) hy
theorem own_inst {a0 : Array Value} {own K C : String} {index : Nat} (X : Stand p l e R s m args below meth c T locs cells slots) (hx : p.tables.exec = Jvm.exec) (hZ : Z.Warmed39 s.vm) (hown : s.vm.findClass own = some m.cls) (w : (Jvm.Cond.classLink own index K).before a0 Z = true) (eT : T.heap = h) (E : Exa Z h a C)
    {g : JFrame} (hg : g.method = m) {rest : List Value} (hs : g.stack = .ref a :: rest) (hd : decode c.code g.pc = .ok (.instanceof index, 3)) :
    ∃ (b : Int32) (T' : State), Stand p l e R s m args below meth c T' locs cells slots ∧ T'.heap = h ∧ ∀ target, Steps p.tables e below (T'.setTop { g with pc := g.pc + 3, stack := .int b :: rest }) target → Steps p.tables e below (T.setTop g) target := by
  obtain ⟨t, ht, -⟩ := Cond.classLink_spec (by rw [← hZ.alike.findClass]; exact hown) w {} rfl
  obtain ⟨cell, k, e1, e2, e3, e4, e5⟩ := E
  cases hb : Z.vm.assignable cell.cls t
  · exact ⟨0, instNo X hx hZ hown w eT ⟨cell, k, e1, e2, e3, e4, e5⟩ ⟨_, _, e2, ht, hb⟩ hg hs hd⟩
  · exact ⟨1, instY X hx hZ hown w eT ⟨cell, t, e1, ht, by simp [e4, hb]⟩ hg hs hd⟩
theorem own_len (X : Stand p l e R s m args below meth c T locs cells slots) (hx : p.tables.exec = Jvm.exec) (hZ : Z.Warmed39 s.vm) (eT : T.heap = h) (V : Arv Z h a k ty n vs dv) {g : JFrame} (hg : g.method = m) {rest : List Value} (hs : g.stack = .ref a :: rest) (hd : decode c.code g.pc = .ok (.arraylength, 1)) (target : State)
    (hr : Steps p.tables e below (T.setTop { g with pc := g.pc + 1, stack := .int n :: rest }) target) : Steps p.tables e below (T.setTop g) target := by
  obtain ⟨cl, Ar, -, S, N, -, -⟩ := V
  refine X.arraylength hx (by rw [eT]; exact Ar.1) (State.isArrayOf_alike hZ.alike Ar.2.1) hg hs hd target ?_
  rw [len_of S N]
  exact hr
theorem own_lal (X : Stand p l e R s m args below meth c T locs cells slots) (hx : p.tables.exec = Jvm.exec) (hZ : Z.Warmed39 s.vm) (eT : T.heap = h) (V : Arv Z h a k .long n vs dv) (hj : ¬ j < 0 ∧ j < n) (hv : vs.getD j.toNatClampNeg dv = v) {g : JFrame} (hg : g.method = m) {rest : List Value} (hs : g.stack = .int j :: .ref a :: rest) (hd : decode c.code g.pc = .ok (.laload, 1)) (target : State)
    (hr : Steps p.tables e below (T.setTop { g with pc := g.pc + 1, stack := v :: rest }) target) : Steps p.tables e below (T.setTop g) target := by
  obtain ⟨cl, Ar, -, S, -, H, -⟩ := V
  have hin := inb_of S hj
  exact X.laload hx (by rw [eT]; exact Ar.1) (State.isArrayOf_alike hZ.alike Ar.2.1) Ar.2.2 hin (H.at hin hv) hg hs hd target hr
theorem own_las (X : Stand p l e R s m args below meth c T locs cells slots) (hx : p.tables.exec = Jvm.exec) (hZ : Z.Warmed39 s.vm) (eT : T.heap = h) (V : Arv Z h a k .long n vs dv) (hj : ¬ j < 0 ∧ j < n) {x : Int64} {g : JFrame} (hg : g.method = m) {rest : List Value} (hs : g.stack = .long x :: .int j :: .ref a :: rest) (hd : decode c.code g.pc = .ok (.lastore, 1)) {i : Nat} (hi : j.toNatClampNeg = i) (hl : i < vs.length) :
    ∃ T' h', Stand p l e R s m args below meth c T' (locs ++ [⟨a, j.toNatClampNeg⟩]) cells slots ∧ T'.heap = h' ∧ Wr h h' a j.toNatClampNeg (.long x) ∧ Arv Z h' a k .long n (vs.set i (.long x)) dv ∧ ∀ target, Steps p.tables e below (T'.setTop { g with pc := g.pc + 1, stack := rest }) target → Steps p.tables e below (T.setTop g) target := by
  obtain ⟨cl, Ar, q, S, N, H, G⟩ := V
  obtain ⟨T', h', X', e', W, st⟩ := stJ X hx hZ eT Ar (inb_of S hj) hg hs hd
  exact ⟨T', h', X', e', W, Arv.set Ar q S N H G rfl W i hi hl, st⟩
end OwnLib

def own_P (Z : State) (el ea : Addr) (kE : ClassId) : Prop := Sta Z Z.heap "java/util/ImmutableCollections" "EMPTY_LIST" "Ljava/util/ImmutableCollections$ListN;" (.ref el) ∧ Exa Z Z.heap el "java/util/ImmutableCollections$ListN" ∧ Fld Z Z.heap el "java/util/ImmutableCollections$ListN" "elements" "[Ljava/lang/Object;" (.ref ea) ∧ Arv Z Z.heap ea kE (.object "java/lang/Object") (0 : Int32) [] .null ∧ Fld Z Z.heap el "java/util/ImmutableCollections$ListN" "allowNulls" "Z" (.int (0 : Int32)) ∧ Sta Z Z.heap "java/util/BitSet" "$assertionsDisabled" "Z" (.int (1 : Int32))

theorem own_len0 {s : State} {args : Array Value} {t : Term} {a : Addr} {cl : Cell} {ty : FieldType} {n : Int32} {N : Nat} (ev : t.eval args s none [] s = some (.ref a)) (A : Arr s s.heap a cl ty) (h : (Jvm.Cond.eq (Term.length t) (Term.int n)).value args s none s [] = some true) (hn : n.toNatClampNeg = N) : cl.slots.size = N := by
  have h1 := eqv_i (Term.int_eval n) h
  have h2 : s.arrayAt? a = some cl := A.fin (Vm.Alike.refl _)
  by_cases hs : cl.slots.size < 2 ^ 31
  · rw [len_f ev h2 hs] at h1
    have h3 : cl.slots.size.toInt32 = n := by cases h1; rfl
    rw [← hn, ← h3]
    simp only [Int32.toNatClampNeg, len_toInt hs]
    rfl
  · have hs' : ¬ cl.slots.size < 2147483648 := hs
    simp only [Term.eval, ev] at h1
    simp [h2, hs'] at h1

theorem own_toInt {n : Nat} (h : n < 2 ^ 31) : (Int32.ofNat n).toInt = n := Int32.toInt_ofNat_small h
theorem own_irr (x : Int64) : ¬ x < x := fun h => by have := Int64.lt_iff_toInt_lt.mp h; omega
def own_wu (w : Int64) : Int32 := if w = (0 : Int64) then (0 : Int32) else (1 : Int32)
theorem own_wuz {w : Int64} (h : w = (0 : Int64)) : own_wu w = (0 : Int32) := if_pos h
theorem own_wun {w : Int64} (h : ¬ w = (0 : Int64)) : own_wu w = (1 : Int32) := if_neg h
theorem own_wu00 : own_wu (0 : Int64) = (0 : Int32) := if_pos rfl
theorem own_wu0 {w : Int64} (h : w = (0 : Int64)) : ¬ (0 : Int32) < own_wu w := by rw [own_wuz h]; decide
theorem own_wu1 {w : Int64} (h : ¬ w = (0 : Int64)) : (0 : Int32) < own_wu w := by rw [own_wun h]; decide
theorem own_wul {w : Int64} (h : w = (0 : Int64)) : own_wu w < (1 : Int32) := by rw [own_wuz h]; decide
theorem own_wug {w : Int64} (h : ¬ w = (0 : Int64)) : ¬ own_wu w < (1 : Int32) := by rw [own_wun h]; decide
theorem own_wuite {P Q : Prop} [Decidable P] [Decidable Q] (a b c : Int64) : (if P then own_wu a else (if Q then own_wu b else own_wu c)) = own_wu (if P then a else (if Q then b else c)) := by
  by_cases p : P
  · rw [if_pos p, if_pos p]
  · by_cases q : Q
    · rw [if_neg p, if_neg p, if_pos q, if_pos q]
    · rw [if_neg p, if_neg p, if_neg q, if_neg q]
theorem own_and0 {w m : Int64} (h : w = (0 : Int64)) : (w &&& m) = (0 : Int64) := by rw [h]; exact Int64.zero_and
theorem own_s64 {z : Int32} (h : 1 ≤ z.toInt ∧ z.toInt ≤ 4) : (z.toInt64).toInt = z.toInt := c_i2l z
theorem own_snz {z : Int32} (h : 1 ≤ z.toInt ∧ z.toInt ≤ 4) : (z.toInt64) ≠ 0 := by
  intro q
  have h1 := own_s64 h
  rw [q] at h1
  have e : (0 : Int64).toInt = 0 := by decide
  omega
theorem own_bitv {q : Int64} {z : Int32} (hq : 0 ≤ q.toInt) (hz : 1 ≤ z.toInt ∧ z.toInt ≤ 4) : ∃ r : Nat, r < 4 ∧ (r : Int) = q.toInt % z.toInt ∧ ((q - (q / (z.toInt64)) * (z.toInt64)).toInt32) = Int32.ofNat r := by
  have h1 := own_s64 hz
  have h2 := (c_lrem q (z.toInt64) _ rfl).1 hq
  rw [h1] at h2
  have h3 := Int.emod_nonneg q.toInt (show z.toInt ≠ 0 by omega)
  have h4 := Int.emod_lt_of_pos q.toInt (show 0 < z.toInt by omega)
  have c := c_l2i (q - (q / (z.toInt64)) * (z.toInt64))
  have r := rng32 ((q - (q / (z.toInt64)) * (z.toInt64)).toInt32)
  refine ⟨(q.toInt % z.toInt).toNat, by omega, by omega, Int32.toInt_inj.mp ?_⟩
  rw [own_toInt (by omega)]
  omega
theorem own_bit0 {q : Int64} {z : Int32} (hq : 0 ≤ q.toInt) (hz : 1 ≤ z.toInt ∧ z.toInt ≤ 4) : ¬ ((q - (q / (z.toInt64)) * (z.toInt64)).toInt32) < (0 : Int32) := by
  obtain ⟨r, h1, -, h3⟩ := own_bitv hq hz
  rw [h3, Int32.lt_iff_toInt_lt, own_toInt (by omega)]
  have e : (0 : Int32).toInt = 0 := by decide
  omega
theorem own_bit6 {q : Int64} {z : Int32} (hq : 0 ≤ q.toInt) (hz : 1 ≤ z.toInt ∧ z.toInt ≤ 4) : (((q - (q / (z.toInt64)) * (z.toInt64)).toInt32) >>> ((6 : Int32) &&& 31)) = (0 : Int32) := by
  obtain ⟨r, h1, -, h3⟩ := own_bitv hq hz
  rw [h3]
  match r, h1 with
  | 0, _ => decide
  | 1, _ => decide
  | 2, _ => decide
  | 3, _ => decide
def own_m (q : Int64) (z : Int32) : Int64 := ((1 : Int64) <<< (((q - (q / (z.toInt64)) * (z.toInt64)).toInt32) &&& 0x3f).toInt64)
def own_p : Nat → Int64
  | 0 => 1
  | 1 => 2
  | 2 => 4
  | _ => 8
theorem own_mv {q : Int64} {z : Int32} (hq : 0 ≤ q.toInt) (hz : 1 ≤ z.toInt ∧ z.toInt ≤ 4) : ∃ r : Nat, r < 4 ∧ (r : Int) = q.toInt % z.toInt ∧ own_m q z = own_p r := by
  obtain ⟨r, h1, h2, h3⟩ := own_bitv hq hz
  refine ⟨r, h1, h2, ?_⟩
  unfold own_m
  rw [h3]
  match r, h1 with
  | 0, _ => decide
  | 1, _ => decide
  | 2, _ => decide
  | 3, _ => decide
theorem own_pd (r s : Nat) (hr : r < 4) (hs : s < 4) (h : r ≠ s) : own_p r &&& own_p s = 0 ∧ (own_p r ^^^ (-1 : Int64)) &&& own_p s = own_p s := by
  match r, hr, s, hs with
  | 0, _, 0, _ => exact absurd rfl h
  | 0, _, 1, _ => decide
  | 0, _, 2, _ => decide
  | 0, _, 3, _ => decide
  | 1, _, 0, _ => decide
  | 1, _, 1, _ => exact absurd rfl h
  | 1, _, 2, _ => decide
  | 1, _, 3, _ => decide
  | 2, _, 0, _ => decide
  | 2, _, 1, _ => decide
  | 2, _, 2, _ => exact absurd rfl h
  | 2, _, 3, _ => decide
  | 3, _, 0, _ => decide
  | 3, _, 1, _ => decide
  | 3, _, 2, _ => decide
  | 3, _, 3, _ => exact absurd rfl h
theorem own_pn (r : Nat) (hr : r < 4) : own_p r ≠ 0 := by
  match r, hr with
  | 0, _ => decide
  | 1, _ => decide
  | 2, _ => decide
  | 3, _ => decide
theorem own_or_and (a b m : Int64) : (a ||| b) &&& m = (a &&& m) ||| (b &&& m) := by
  apply Int64.toBitVec_inj.mp
  rw [Int64.toBitVec_and, Int64.toBitVec_or, Int64.toBitVec_or, Int64.toBitVec_and, Int64.toBitVec_and]
  ext i hi
  simp [Bool.and_or_distrib_right]
theorem own_absorb (a m : Int64) : (a ||| m) &&& m = m := by
  apply Int64.toBitVec_inj.mp
  rw [Int64.toBitVec_and, Int64.toBitVec_or]
  ext i hi
  simp
  intro h
  exact Or.inr h
theorem own_or0 (a : Int64) : a ||| 0 = a := Int64.or_zero
theorem own_mn {q : Int64} {z : Int32} (hq : 0 ≤ q.toInt) (hz : 1 ≤ z.toInt ∧ z.toInt ≤ 4) : own_m q z ≠ 0 := by
  obtain ⟨r, h1, -, h3⟩ := own_mv hq hz
  rw [h3]
  exact own_pn r h1
theorem own_orne (w : Int64) {q : Int64} {z : Int32} (hq : 0 ≤ q.toInt) (hz : 1 ≤ z.toInt ∧ z.toInt ≤ 4) : (w ||| ((1 : Int64) <<< (((q - (q / (z.toInt64)) * (z.toInt64)).toInt32) &&& 0x3f).toInt64)) ≠ (0 : Int64) := by
  intro h
  have h1 := own_absorb w (own_m q z)
  have h2 : (w ||| own_m q z) = 0 := h
  rw [h2, Int64.zero_and] at h1
  exact own_mn hq hz h1.symm
theorem own_dis {a b : Int64} {z : Int32} (ha : 0 ≤ a.toInt) (hb : 0 ≤ b.toInt) (hz : 1 ≤ z.toInt ∧ z.toInt ≤ 4) (h1 : a.toInt ≠ b.toInt) (h2 : a.toInt - b.toInt < z.toInt) (h3 : b.toInt - a.toInt < z.toInt) : own_m a z &&& own_m b z = 0 ∧ (own_m a z ^^^ (-1 : Int64)) &&& own_m b z = own_m b z := by
  obtain ⟨r, r1, r2, r3⟩ := own_mv ha hz
  obtain ⟨s, s1, s2, s3⟩ := own_mv hb hz
  rw [r3, s3]
  refine own_pd r s r1 s1 ?_
  intro e
  subst e
  have h4 : a.toInt % z.toInt = b.toInt % z.toInt := by omega
  have h5 := Int.emod_emod_of_dvd (a.toInt - b.toInt) (Int.dvd_refl z.toInt)
  have h6 : (a.toInt - b.toInt) % z.toInt = 0 := Int.emod_eq_emod_iff_emod_sub_eq_zero.mp h4
  obtain ⟨c, hc⟩ := Int.dvd_of_emod_eq_zero h6
  rcases Int.lt_trichotomy c 0 with q | q | q
  · have : z.toInt * c ≤ z.toInt * (-1) := Int.mul_le_mul_of_nonneg_left (by omega) (by omega)
    omega
  · rw [q] at hc; omega
  · have : z.toInt * 1 ≤ z.toInt * c := Int.mul_le_mul_of_nonneg_left (by omega) (by omega)
    omega
theorem own_addk {q : Int64} (k : Int64) {n : Nat} (hk : k.toInt = n) (hn : n ≤ 4) (hq : 0 ≤ q.toInt ∧ q.toInt < 4611686018427387904) : (q + k).toInt = q.toInt + n := by
  have c := c_ladd q k
  have r := rng64 (q + k)
  omega
theorem own_q1 {q : Int64} (hq : 0 ≤ q.toInt ∧ q.toInt < 4611686018427387904) : 0 ≤ (q + (1 : Int64)).toInt := by rw [own_addk 1 (n := 1) (by decide) (by omega) hq]; omega
theorem own_q2 {q : Int64} (hq : 0 ≤ q.toInt ∧ q.toInt < 4611686018427387904) : 0 ≤ (q + (2 : Int64)).toInt := by rw [own_addk 2 (n := 2) (by decide) (by omega) hq]; omega
theorem own_q3 {q : Int64} (hq : 0 ≤ q.toInt ∧ q.toInt < 4611686018427387904) : 0 ≤ (q + (3 : Int64)).toInt := by rw [own_addk 3 (n := 3) (by decide) (by omega) hq]; omega
theorem own_p2 (q : Int64) : (q + (1 : Int64)) + (1 : Int64) = q + (2 : Int64) := by rw [Int64.add_assoc]; rfl
theorem own_p3 (q : Int64) : ((q + (1 : Int64)) + (1 : Int64)) + (1 : Int64) = q + (3 : Int64) := by rw [own_p2, Int64.add_assoc]; rfl
theorem own_p4 (q : Int64) : (((q + (1 : Int64)) + (1 : Int64)) + (1 : Int64)) + (1 : Int64) = q + (4 : Int64) := by rw [own_p3, Int64.add_assoc]; rfl
theorem own_qp1 {q : Int64} (h0 : 0 ≤ q.toInt) (h1 : q.toInt < 4611686018427387904) : 0 ≤ (q + (1 : Int64)).toInt := own_q1 ⟨h0, h1⟩
theorem own_qp2 {q : Int64} (h0 : 0 ≤ q.toInt) (h1 : q.toInt < 4611686018427387904) : 0 ≤ ((q + (1 : Int64)) + (1 : Int64)).toInt := by rw [own_p2]; exact own_q2 ⟨h0, h1⟩
theorem own_qp3 {q : Int64} (h0 : 0 ≤ q.toInt) (h1 : q.toInt < 4611686018427387904) : 0 ≤ (((q + (1 : Int64)) + (1 : Int64)) + (1 : Int64)).toInt := by rw [own_p3]; exact own_q3 ⟨h0, h1⟩
theorem own_end {q n : Int64} (h1 : q.toInt < 4611686018427387904) (h0 : 0 ≤ q.toInt) (hn : n.toInt ≤ q.toInt + 4) : ¬ ((((q + (1 : Int64)) + (1 : Int64)) + (1 : Int64)) + (1 : Int64)) < n := by
  rw [own_p4, Int64.lt_iff_toInt_lt, own_addk 4 (n := 4) (by decide) (by omega) ⟨h0, h1⟩]
  omega
theorem own_size (p z : Int32) (h : z = ((1 : Int32) + (p &&& (3 : Int32)))) : 1 ≤ z.toInt ∧ z.toInt ≤ 4 := by
  have h1 := c_and p 3 (by decide)
  have e7 : (3 : Int32).toInt = 3 := by decide
  have e1 : (1 : Int32).toInt = 1 := by decide
  have c := c_iadd 1 (p &&& 3)
  have r := rng32 (1 + (p &&& 3))
  rw [h]
  omega
theorem own_z1 {z : Int32} (h : 1 ≤ z.toInt ∧ z.toInt ≤ 4) : (z + (1 : Int32)).toInt = z.toInt + 1 := by
  have c := c_iadd z 1
  have r := rng32 (z + 1)
  have e1 : (1 : Int32).toInt = 1 := by decide
  omega
theorem own_k1 {z : Int32} (h : 1 ≤ z.toInt ∧ z.toInt ≤ 4) : (z + (1 : Int32)) ≠ 0 := by
  intro q
  have h1 := own_z1 h
  rw [q] at h1
  have e : (0 : Int32).toInt = 0 := by decide
  omega
theorem own_k (p z k : Int32) (h : k = ((p &&& (7 : Int32)) % (z + (1 : Int32)))) (hz : 1 ≤ z.toInt ∧ z.toInt ≤ 4) : ∃ n : Nat, k = Int32.ofNat n ∧ n ≤ 4 ∧ (n : Int) ≤ z.toInt := by
  have h1 := (c_and p 7 (by decide)).1
  have h2 := (c_irem (p &&& 7) (z + 1) _ (own_z1 hz)).1 h1
  have h3 := Int.emod_nonneg (p &&& 7).toInt (show z.toInt + 1 ≠ 0 by omega)
  have h4 := Int.emod_lt_of_pos (p &&& 7).toInt (show 0 < z.toInt + 1 by omega)
  rw [← h] at h2
  refine ⟨k.toInt.toNat, Int32.toInt_inj.mp ?_, by omega, by omega⟩
  rw [own_toInt (by omega)]
  omega
theorem own_q62 (p q : Int64) (h : q = (p &&& (4611686018427387903 : Int64))) : 0 ≤ q.toInt ∧ q.toInt < 4611686018427387904 := by
  have c := c_maskL p 4611686018427387903 62 (by decide) (by decide)
  rw [h, c]
  have h1 := Int.emod_nonneg p.toInt (show ((2 ^ 62 : Nat) : Int) ≠ 0 by decide)
  have h2 := Int.emod_lt_of_pos p.toInt (show (0 : Int) < ((2 ^ 62 : Nat) : Int) by decide)
  have e : ((2 ^ 62 : Nat) : Int) = 4611686018427387904 := by decide
  rw [e] at h1 h2 ⊢
  omega
theorem own_sk {z p : Int32} {q k : Int64} (hz : 1 ≤ z.toInt ∧ z.toInt ≤ 4) (hq : 0 ≤ q.toInt ∧ q.toInt < 4611686018427387904) (h : k = (((q + (z.toInt64)) + (1 : Int64)) + ((p &&& (65535 : Int32)).toInt64))) : 0 ≤ k.toInt := by
  have h1 := c_and p 65535 (by decide)
  have e1 : (65535 : Int32).toInt = 65535 := by decide
  have e2 := c_i2l (p &&& 65535)
  have e3 := c_i2l z
  have e4 : (1 : Int64).toInt = 1 := by decide
  have c1 := c_ladd q z.toInt64
  have r1 := rng64 (q + z.toInt64)
  have c2 := c_ladd (q + z.toInt64) 1
  have r2 := rng64 (q + z.toInt64 + 1)
  have c3 := c_ladd (q + z.toInt64 + 1) ((p &&& 65535).toInt64)
  have r3 := rng64 (q + z.toInt64 + 1 + (p &&& 65535).toInt64)
  rw [h]
  omega
theorem own_lit {t k : Int32} {n K : Nat} (ht : t = Int32.ofNat n) (hn : n ≤ 8) (hk : k = Int32.ofNat K) (hK : K ≤ 8) : (t < k ↔ n < K) ∧ (k < t ↔ K < n) ∧ (t = k ↔ n = K) := by
  rw [ht, hk, Int32.lt_iff_toInt_lt, Int32.lt_iff_toInt_lt, ← Int32.toInt_inj, own_toInt (by omega), own_toInt (by omega)]
  omega
theorem own_step {x : Int64} {k : Int32} {q : Int64} {n i j : Nat} {c : Int32} (hk : k = Int32.ofNat n) (hn : n ≤ 4) (hc : c = Int32.ofNat i) (hi : i ≤ 4) (hx : x.toInt = q.toInt + j) (hj : j ≤ 4) (hq : 0 ≤ q.toInt ∧ q.toInt < 4611686018427387904) : (if c < k then (x + (1 : Int64)) else x).toInt = q.toInt + (if i < n then j + 1 else j : Nat) := by
  have l := (own_lit hk (by omega) hc (by omega)).2.1
  by_cases h : i < n
  · rw [if_pos (l.mpr h), if_pos h]
    have c1 := c_ladd x 1
    have r1 := rng64 (x + 1)
    have e1 : (1 : Int64).toInt = 1 := by decide
    omega
  · rw [if_neg (mt l.mp h), if_neg h]; exact hx
theorem own_next {q a b c d : Int64} {k : Int32} {n : Nat} (hk : k = Int32.ofNat n) (hn : n ≤ 4) (h1 : a = (if (0 : Int32) < k then (q + (1 : Int64)) else q)) (h2 : b = (if (1 : Int32) < k then (a + (1 : Int64)) else a)) (h3 : c = (if (2 : Int32) < k then (b + (1 : Int64)) else b)) (h4 : d = (if (3 : Int32) < k then (c + (1 : Int64)) else c)) (hq : 0 ≤ q.toInt ∧ q.toInt < 4611686018427387904) : d.toInt = q.toInt + n := by
  have e1 := own_step (c := (0 : Int32)) (i := 0) (j := 0) (x := q) hk hn rfl (by omega) (by omega) (by omega) hq
  rw [← h1] at e1
  have e2 := own_step (c := (1 : Int32)) (i := 1) hk hn rfl (by omega) e1 (by split <;> omega) hq
  rw [← h2] at e2
  have e3 := own_step (c := (2 : Int32)) (i := 2) hk hn rfl (by omega) e2 (by split <;> split <;> omega) hq
  rw [← h3] at e3
  have e4 := own_step (c := (3 : Int32)) (i := 3) hk hn rfl (by omega) e3 (by split <;> split <;> split <;> omega) hq
  rw [← h4] at e4
  rw [e4]
  match n, hn with
  | 0, _ => rfl
  | 1, _ => rfl
  | 2, _ => rfl
  | 3, _ => rfl
  | 4, _ => rfl
def own_S (k : Nat) (U N R N0 q s : Int64) (f : Int32) : Prop := (0 < k → U = q ∧ N = N0 ∧ R = (if f = (1 : Int32) then s else (-1 : Int64))) ∧ (k = 0 → U = N ∧ R = (-1 : Int64))
theorem own_after {k : Nat} {U N R N0 q s : Int64} {f : Int32} (hn : N0.toInt = q.toInt + k) (hq : 0 ≤ q.toInt ∧ q.toInt < 4611686018427387904) (h1 : U = (if f = (1 : Int32) then (if q = N0 then s else q) else q)) (h2 : N = (if f = (1 : Int32) then (if q = N0 then s else N0) else N0)) (h3 : R = (if f = (1 : Int32) then (if q = N0 then (-1 : Int64) else (if (-1 : Int64) < s then s else (-1 : Int64))) else (-1 : Int64))) (hs : 0 ≤ s.toInt) : own_S k U N R N0 q s f := by
  have e1 : (-1 : Int64).toInt = -1 := by decide
  have hs' : (-1 : Int64) < s := by rw [Int64.lt_iff_toInt_lt]; omega
  constructor
  · intro hk
    have ne : ¬ q = N0 := fun e => by rw [← e] at hn; omega
    rw [if_neg ne] at h1 h2 h3
    rw [if_pos hs'] at h3
    exact ⟨h1.trans (ite_self _), h2.trans (ite_self _), h3⟩
  · intro hk
    have e : q = N0 := Int64.toInt_inj.mp (by omega)
    rw [if_pos e] at h1 h2 h3
    exact ⟨by rw [h1, h2, e], h3.trans (ite_self _)⟩
theorem own_out {k i : Nat} {U N R N0 q s c : Int64} {f : Int32} (hS : own_S k U N R N0 q s f) (hn : N0.toInt = q.toInt + k) (hc : (c : Int64).toInt = q.toInt + i) (h : ¬ i < k) : c < U ∨ ¬ c < N := by
  by_cases hk : 0 < k
  · obtain ⟨h1, h2, h3⟩ := hS.1 hk
    right
    rw [h2, Int64.lt_iff_toInt_lt]
    omega
  · obtain ⟨h1, h2⟩ := hS.2 (by omega)
    rw [h1]
    exact Classical.em _
theorem own_in {k i : Nat} {U N R N0 q s c : Int64} {f : Int32} (hS : own_S k U N R N0 q s f) (hn : N0.toInt = q.toInt + k) (hc : (c : Int64).toInt = q.toInt + i) (hi : 0 < i) (h : i < k) : ¬ c < U ∧ c < N ∧ ¬ c = U ∧ ¬ U = N := by
  obtain ⟨h1, h2, h3⟩ := hS.1 (by omega)
  rw [h1, h2, Int64.lt_iff_toInt_lt, Int64.lt_iff_toInt_lt]
  refine ⟨by omega, by omega, fun e => ?_, fun e => ?_⟩
  · rw [e] at hc; omega
  · rw [← e] at hn; omega
theorem own_out3 {k : Nat} {U N R N0 q s : Int64} {f : Int32} (hS : own_S k U N R N0 q s f) (hn : N0.toInt = q.toInt + k) (hq : 0 ≤ q.toInt ∧ q.toInt < 4611686018427387904) (h : ¬ 3 < k) : (q + (3 : Int64)) < U ∨ ¬ (q + (3 : Int64)) < N := own_out hS hn (own_addk 3 (n := 3) (by decide) (by omega) hq) h
theorem own_out2 {k : Nat} {U N R N0 q s : Int64} {f : Int32} (hS : own_S k U N R N0 q s f) (hn : N0.toInt = q.toInt + k) (hq : 0 ≤ q.toInt ∧ q.toInt < 4611686018427387904) (h : ¬ 2 < k) : (q + (2 : Int64)) < U ∨ ¬ (q + (2 : Int64)) < N := own_out hS hn (own_addk 2 (n := 2) (by decide) (by omega) hq) h
theorem own_out1 {k : Nat} {U N R N0 q s : Int64} {f : Int32} (hS : own_S k U N R N0 q s f) (hn : N0.toInt = q.toInt + k) (hq : 0 ≤ q.toInt ∧ q.toInt < 4611686018427387904) (h : ¬ 1 < k) : (q + (1 : Int64)) < U ∨ ¬ (q + (1 : Int64)) < N := own_out hS hn (own_addk 1 (n := 1) (by decide) (by omega) hq) h
theorem own_out0 {k : Nat} {U N R N0 q s : Int64} {f : Int32} (hS : own_S k U N R N0 q s f) (hn : N0.toInt = q.toInt + k) (hq : 0 ≤ q.toInt ∧ q.toInt < 4611686018427387904) (h : ¬ 0 < k) : q < U ∨ ¬ q < N := own_out (i := 0) hS hn (by omega) h
theorem own_in3 {k : Nat} {U N R N0 q s : Int64} {f : Int32} (hS : own_S k U N R N0 q s f) (hn : N0.toInt = q.toInt + k) (hq : 0 ≤ q.toInt ∧ q.toInt < 4611686018427387904) (h : 3 < k) : ¬ (q + (3 : Int64)) < U ∧ (q + (3 : Int64)) < N ∧ ¬ (q + (3 : Int64)) = U ∧ ¬ U = N := own_in hS hn (own_addk 3 (n := 3) (by decide) (by omega) hq) (by omega) h
theorem own_in2 {k : Nat} {U N R N0 q s : Int64} {f : Int32} (hS : own_S k U N R N0 q s f) (hn : N0.toInt = q.toInt + k) (hq : 0 ≤ q.toInt ∧ q.toInt < 4611686018427387904) (h : 2 < k) : ¬ (q + (2 : Int64)) < U ∧ (q + (2 : Int64)) < N ∧ ¬ (q + (2 : Int64)) = U ∧ ¬ U = N := own_in hS hn (own_addk 2 (n := 2) (by decide) (by omega) hq) (by omega) h
theorem own_in1 {k : Nat} {U N R N0 q s : Int64} {f : Int32} (hS : own_S k U N R N0 q s f) (hn : N0.toInt = q.toInt + k) (hq : 0 ≤ q.toInt ∧ q.toInt < 4611686018427387904) (h : 1 < k) : ¬ (q + (1 : Int64)) < U ∧ (q + (1 : Int64)) < N ∧ ¬ (q + (1 : Int64)) = U ∧ ¬ U = N := own_in hS hn (own_addk 1 (n := 1) (by decide) (by omega) hq) (by omega) h
theorem own_in0 {k : Nat} {U N R N0 q s : Int64} {f : Int32} (hS : own_S k U N R N0 q s f) (hn : N0.toInt = q.toInt + k) (hq : 0 ≤ q.toInt ∧ q.toInt < 4611686018427387904) (h : 0 < k) : q < N := by
  obtain ⟨h1, h2, h3⟩ := hS.1 h
  rw [h2, Int64.lt_iff_toInt_lt]
  omega
theorem own_n4 {k : Nat} {U N R N0 q s : Int64} {f : Int32} (hS : own_S k U N R N0 q s f) (hn : N0.toInt = q.toInt + k) (hk : k ≤ 4) (h : 0 < k) : N.toInt ≤ q.toInt + 4 := by
  obtain ⟨h1, h2, h3⟩ := hS.1 h
  rw [h2]
  omega
theorem own_md {q : Int64} {z : Int32} (a b : Int64) {i j : Nat} (ha : a.toInt = i) (hb : b.toInt = j) (hi : i ≤ 4) (hj : j ≤ 4) (hq : 0 ≤ q.toInt ∧ q.toInt < 4611686018427387904) (hz : 1 ≤ z.toInt ∧ z.toInt ≤ 4) (hn : i ≠ j) (h1 : (i : Int) - j < z.toInt) (h2 : (j : Int) - i < z.toInt) : own_m (q + a) z &&& own_m (q + b) z = 0 ∧ (own_m (q + a) z ^^^ (-1 : Int64)) &&& own_m (q + b) z = own_m (q + b) z := by
  have ea := own_addk a ha hi hq
  have eb := own_addk b hb hj hq
  exact own_dis (by omega) (by omega) hz (by omega) (by omega) (by omega)
/-- the word's two tests: a set bit of another place doesn't count -/
theorem own_tor {w m n : Int64} (h : m &&& n = 0) : (w ||| m) &&& n = w &&& n := by rw [own_or_and, h, own_or0]
theorem own_nb3 {k : Nat} {z : Int32} {q N0 : Int64} (hk : k ≤ 4) (hz : 1 ≤ z.toInt ∧ z.toInt ≤ 4) (hkz : (k : Int) ≤ z.toInt) (hq : 0 ≤ q.toInt ∧ q.toInt < 4611686018427387904) (hn : N0.toInt = q.toInt + k) (h : 3 < k) : ((0 : Int64) &&& (own_m (q + (3 : Int64)) z)) = (0 : Int64) := own_and0 rfl
def own_w3 (c8 : Prop) [Decidable c8] (k : Nat) (q : Int64) (z : Int32) : Int64 := (if c8 then (0 : Int64) else (if 3 < k then ((0 : Int64) ||| (own_m (q + (3 : Int64)) z)) else (0 : Int64)))
theorem own_nb2 {k : Nat} {z p : Int32} {q N0 w : Int64} (hk : k ≤ 4) (hz : 1 ≤ z.toInt ∧ z.toInt ≤ 4) (hkz : (k : Int) ≤ z.toInt) (hq : 0 ≤ q.toInt ∧ q.toInt < 4611686018427387904) (hn : N0.toInt = q.toInt + k) (h : 2 < k) (hw : w = (if (p &&& (8 : Int32)) = (0 : Int32) then (0 : Int64) else (if 3 < k then ((0 : Int64) ||| (own_m (q + (3 : Int64)) z)) else (0 : Int64)))) : (w &&& (own_m (q + (2 : Int64)) z)) = (0 : Int64) := by
  rw [hw]
  split
  · exact own_and0 rfl
  · split
    · rw [own_tor (own_md 3 2 (i := 3) (j := 2) (by decide) (by decide) (by omega) (by omega) hq hz (by omega) (by omega) (by omega)).1]
      exact own_and0 rfl
    · exact own_and0 rfl
theorem own_nb1 {k : Nat} {z p : Int32} {q N0 w u : Int64} (hk : k ≤ 4) (hz : 1 ≤ z.toInt ∧ z.toInt ≤ 4) (hkz : (k : Int) ≤ z.toInt) (hq : 0 ≤ q.toInt ∧ q.toInt < 4611686018427387904) (hn : N0.toInt = q.toInt + k) (h : 1 < k) (hw : w = (if (p &&& (8 : Int32)) = (0 : Int32) then (0 : Int64) else (if 3 < k then ((0 : Int64) ||| (own_m (q + (3 : Int64)) z)) else (0 : Int64))))
    (hu : u = (if (p &&& (4 : Int32)) = (0 : Int32) then w else (if 2 < k then (w ||| (own_m (q + (2 : Int64)) z)) else w))) : (u &&& (own_m (q + (1 : Int64)) z)) = (0 : Int64) := by
  have h0 : (w &&& (own_m (q + (1 : Int64)) z)) = (0 : Int64) := by
    rw [hw]
    split
    · exact own_and0 rfl
    · split
      · rw [own_tor (own_md 3 1 (i := 3) (j := 1) (by decide) (by decide) (by omega) (by omega) hq hz (by omega) (by omega) (by omega)).1]
        exact own_and0 rfl
      · exact own_and0 rfl
  rw [hu]
  split
  · exact h0
  · split
    · rw [own_tor (own_md 2 1 (i := 2) (j := 1) (by decide) (by decide) (by omega) (by omega) hq hz (by omega) (by omega) (by omega)).1]
      exact h0
    · exact h0
def own_run (qo qn xw : Int64) (xs : Int32) : Int64 := (if (qo + (1 : Int64)) < qn then (if xw = (0 : Int64) then (qo + (1 : Int64)) else (if (xw &&& ((1 : Int64) <<< ((((qo + (1 : Int64)) - ((qo + (1 : Int64)) / (xs.toInt64)) * (xs.toInt64)).toInt32) &&& 0x3f).toInt64)) = (0 : Int64) then (qo + (1 : Int64)) else (if ((qo + (1 : Int64)) + (1 : Int64)) < qn then (if (xw &&& (((1 : Int64) <<< ((((qo + (1 : Int64)) - ((qo + (1 : Int64)) / (xs.toInt64)) * (xs.toInt64)).toInt32) &&& 0x3f).toInt64) ^^^ (-1 : Int64))) = (0 : Int64) then ((qo + (1 : Int64)) + (1 : Int64)) else (if ((xw &&& (((1 : Int64) <<< ((((qo + (1 : Int64)) - ((qo + (1 : Int64)) / (xs.toInt64)) * (xs.toInt64)).toInt32) &&& 0x3f).toInt64) ^^^ (-1 : Int64))) &&& ((1 : Int64) <<< (((((qo + (1 : Int64)) + (1 : Int64)) - (((qo + (1 : Int64)) + (1 : Int64)) / (xs.toInt64)) * (xs.toInt64)).toInt32) &&& 0x3f).toInt64)) = (0 : Int64) then ((qo + (1 : Int64)) + (1 : Int64)) else (if (((qo + (1 : Int64)) + (1 : Int64)) + (1 : Int64)) < qn then (if ((xw &&& (((1 : Int64) <<< ((((qo + (1 : Int64)) - ((qo + (1 : Int64)) / (xs.toInt64)) * (xs.toInt64)).toInt32) &&& 0x3f).toInt64) ^^^ (-1 : Int64))) &&& (((1 : Int64) <<< (((((qo + (1 : Int64)) + (1 : Int64)) - (((qo + (1 : Int64)) + (1 : Int64)) / (xs.toInt64)) * (xs.toInt64)).toInt32) &&& 0x3f).toInt64) ^^^ (-1 : Int64))) = (0 : Int64) then (((qo + (1 : Int64)) + (1 : Int64)) + (1 : Int64)) else (if (((xw &&& (((1 : Int64) <<< ((((qo + (1 : Int64)) - ((qo + (1 : Int64)) / (xs.toInt64)) * (xs.toInt64)).toInt32) &&& 0x3f).toInt64) ^^^ (-1 : Int64))) &&& (((1 : Int64) <<< (((((qo + (1 : Int64)) + (1 : Int64)) - (((qo + (1 : Int64)) + (1 : Int64)) / (xs.toInt64)) * (xs.toInt64)).toInt32) &&& 0x3f).toInt64) ^^^ (-1 : Int64))) &&& ((1 : Int64) <<< ((((((qo + (1 : Int64)) + (1 : Int64)) + (1 : Int64)) - ((((qo + (1 : Int64)) + (1 : Int64)) + (1 : Int64)) / (xs.toInt64)) * (xs.toInt64)).toInt32) &&& 0x3f).toInt64)) = (0 : Int64) then (((qo + (1 : Int64)) + (1 : Int64)) + (1 : Int64)) else ((((qo + (1 : Int64)) + (1 : Int64)) + (1 : Int64)) + (1 : Int64)))) else (((qo + (1 : Int64)) + (1 : Int64)) + (1 : Int64))))) else ((qo + (1 : Int64)) + (1 : Int64))))) else (qo + (1 : Int64)))
theorem own_em {α : Type} {w m : Int64} {a b : α} : (if w = (0 : Int64) then a else (if (w &&& m) = (0 : Int64) then a else b)) = (if (w &&& m) = (0 : Int64) then a else b) := by
  by_cases h : w = (0 : Int64)
  · rw [if_pos h, if_pos (own_and0 h)]
  · rw [if_neg h]
theorem own_p3' (q : Int64) : (q + (2 : Int64)) + (1 : Int64) = q + (3 : Int64) := by rw [Int64.add_assoc]; rfl
theorem own_p4' (q : Int64) : (q + (3 : Int64)) + (1 : Int64) = q + (4 : Int64) := by rw [Int64.add_assoc]; rfl
theorem own_run_eq (q n w : Int64) (z : Int32) : own_run q n w z = (if (q + (1 : Int64)) < n then (if (w &&& own_m (q + (1 : Int64)) z) = (0 : Int64) then (q + (1 : Int64)) else (if (q + (2 : Int64)) < n then (if ((w &&& (own_m (q + (1 : Int64)) z ^^^ (-1 : Int64))) &&& own_m (q + (2 : Int64)) z) = (0 : Int64) then (q + (2 : Int64)) else (if (q + (3 : Int64)) < n then (if (((w &&& (own_m (q + (1 : Int64)) z ^^^ (-1 : Int64))) &&& (own_m (q + (2 : Int64)) z ^^^ (-1 : Int64))) &&& own_m (q + (3 : Int64)) z) = (0 : Int64) then (q + (3 : Int64)) else (q + (4 : Int64))) else (q + (3 : Int64)))) else (q + (2 : Int64)))) else (q + (1 : Int64))) := by
  have e : own_run q n w z = (if (q + (1 : Int64)) < n then (if w = (0 : Int64) then (q + (1 : Int64)) else (if (w &&& own_m (q + (1 : Int64)) z) = (0 : Int64) then (q + (1 : Int64)) else (if ((q + (1 : Int64)) + (1 : Int64)) < n then (if (w &&& (own_m (q + (1 : Int64)) z ^^^ (-1 : Int64))) = (0 : Int64) then ((q + (1 : Int64)) + (1 : Int64)) else (if ((w &&& (own_m (q + (1 : Int64)) z ^^^ (-1 : Int64))) &&& own_m ((q + (1 : Int64)) + (1 : Int64)) z) = (0 : Int64) then ((q + (1 : Int64)) + (1 : Int64)) else (if (((q + (1 : Int64)) + (1 : Int64)) + (1 : Int64)) < n then (if ((w &&& (own_m (q + (1 : Int64)) z ^^^ (-1 : Int64))) &&& (own_m ((q + (1 : Int64)) + (1 : Int64)) z ^^^ (-1 : Int64))) = (0 : Int64) then (((q + (1 : Int64)) + (1 : Int64)) + (1 : Int64)) else (if (((w &&& (own_m (q + (1 : Int64)) z ^^^ (-1 : Int64))) &&& (own_m ((q + (1 : Int64)) + (1 : Int64)) z ^^^ (-1 : Int64))) &&& own_m (((q + (1 : Int64)) + (1 : Int64)) + (1 : Int64)) z) = (0 : Int64) then (((q + (1 : Int64)) + (1 : Int64)) + (1 : Int64)) else ((((q + (1 : Int64)) + (1 : Int64)) + (1 : Int64)) + (1 : Int64)))) else (((q + (1 : Int64)) + (1 : Int64)) + (1 : Int64))))) else ((q + (1 : Int64)) + (1 : Int64))))) else (q + (1 : Int64))) := rfl
  rw [e]
  simp only [own_p2, own_p3', own_p4', own_em]
def own_L (k : Nat) (p : Int32) : Nat := if 1 < k ∧ ¬ (p &&& (2 : Int32)) = (0 : Int32) then (if 2 < k ∧ ¬ (p &&& (4 : Int32)) = (0 : Int32) then (if 3 < k ∧ ¬ (p &&& (8 : Int32)) = (0 : Int32) then 4 else 3) else 2) else 1
theorem own_runv {k : Nat} {z p : Int32} {q N0 w3 w2 w1 : Int64} (hk : k ≤ 4) (hz : 1 ≤ z.toInt ∧ z.toInt ≤ 4) (hkz : (k : Int) ≤ z.toInt) (hq : 0 ≤ q.toInt ∧ q.toInt < 4611686018427387904) (hn : N0.toInt = q.toInt + k)
    (h3 : w3 = (if (p &&& (8 : Int32)) = (0 : Int32) then (0 : Int64) else (if 3 < k then ((0 : Int64) ||| (own_m (q + (3 : Int64)) z)) else (0 : Int64))))
    (h2 : w2 = (if (p &&& (4 : Int32)) = (0 : Int32) then w3 else (if 2 < k then (w3 ||| (own_m (q + (2 : Int64)) z)) else w3)))
    (h1 : w1 = (if (p &&& (2 : Int32)) = (0 : Int32) then w2 else (if 1 < k then (w2 ||| (own_m (q + (1 : Int64)) z)) else w2))) : (own_run q N0 w1 z).toInt = q.toInt + own_L k p := by
  have a1 := own_addk (q := q) 1 (n := 1) (by decide) (by omega) hq
  have a2 := own_addk (q := q) 2 (n := 2) (by decide) (by omega) hq
  have a3 := own_addk (q := q) 3 (n := 3) (by decide) (by omega) hq
  have a4 := own_addk (q := q) 4 (n := 4) (by decide) (by omega) hq
  have l1 : (q + (1 : Int64)) < N0 ↔ 1 < k := by rw [Int64.lt_iff_toInt_lt]; omega
  have l2 : (q + (2 : Int64)) < N0 ↔ 2 < k := by rw [Int64.lt_iff_toInt_lt]; omega
  have l3 : (q + (3 : Int64)) < N0 ↔ 3 < k := by rw [Int64.lt_iff_toInt_lt]; omega
  have m1 := own_mn (own_q1 hq) hz
  have m2 := own_mn (own_q2 hq) hz
  have m3 := own_mn (own_q3 hq) hz
  have t1 : 1 < k → ((w1 &&& own_m (q + (1 : Int64)) z) = (0 : Int64) ↔ (p &&& (2 : Int32)) = (0 : Int32)) := by
    intro h
    have n1 := own_nb1 (N0 := N0) hk hz hkz hq hn h h3 h2
    by_cases c : (p &&& (2 : Int32)) = (0 : Int32)
    · rw [h1, if_pos c]; exact iff_of_true n1 c
    · rw [h1, if_neg c, if_pos h, own_absorb]; exact iff_of_false m1 c
  have t2 : 2 < k → (((w1 &&& (own_m (q + (1 : Int64)) z ^^^ (-1 : Int64))) &&& own_m (q + (2 : Int64)) z) = (0 : Int64) ↔ (p &&& (4 : Int32)) = (0 : Int32)) := by
    intro h
    have d := own_md (q := q) (z := z) 1 2 (i := 1) (j := 2) (by decide) (by decide) (by omega) (by omega) hq hz (by omega) (by omega) (by omega)
    rw [Int64.and_assoc, d.2]
    have e : w1 &&& own_m (q + (2 : Int64)) z = w2 &&& own_m (q + (2 : Int64)) z := by
      rw [h1]
      split
      · rfl
      · split
        · exact own_tor d.1
        · rfl
    rw [e]
    have n2 := own_nb2 (N0 := N0) hk hz hkz hq hn h h3
    by_cases c : (p &&& (4 : Int32)) = (0 : Int32)
    · rw [h2, if_pos c]; exact iff_of_true n2 c
    · rw [h2, if_neg c, if_pos h, own_absorb]; exact iff_of_false m2 c
  have t3 : 3 < k → ((((w1 &&& (own_m (q + (1 : Int64)) z ^^^ (-1 : Int64))) &&& (own_m (q + (2 : Int64)) z ^^^ (-1 : Int64))) &&& own_m (q + (3 : Int64)) z) = (0 : Int64) ↔ (p &&& (8 : Int32)) = (0 : Int32)) := by
    intro h
    have d1 := own_md (q := q) (z := z) 1 3 (i := 1) (j := 3) (by decide) (by decide) (by omega) (by omega) hq hz (by omega) (by omega) (by omega)
    have d2 := own_md (q := q) (z := z) 2 3 (i := 2) (j := 3) (by decide) (by decide) (by omega) (by omega) hq hz (by omega) (by omega) (by omega)
    rw [Int64.and_assoc, d2.2, Int64.and_assoc, d1.2]
    have e : w1 &&& own_m (q + (3 : Int64)) z = w3 &&& own_m (q + (3 : Int64)) z := by
      have e2 : w2 &&& own_m (q + (3 : Int64)) z = w3 &&& own_m (q + (3 : Int64)) z := by
        rw [h2]
        split
        · rfl
        · split
          · exact own_tor d2.1
          · rfl
      rw [h1]
      split
      · exact e2
      · split
        · rw [own_tor d1.1]; exact e2
        · exact e2
    rw [e]
    by_cases c : (p &&& (8 : Int32)) = (0 : Int32)
    · rw [h3, if_pos c]; exact iff_of_true (own_and0 rfl) c
    · rw [h3, if_neg c, if_pos h, own_absorb]; exact iff_of_false m3 c
  rw [own_run_eq]
  unfold own_L
  by_cases k1 : 1 < k
  · rw [if_pos (l1.mpr k1)]
    by_cases c1 : (p &&& (2 : Int32)) = (0 : Int32)
    · rw [if_pos ((t1 k1).mpr c1), if_neg (show ¬ (1 < k ∧ ¬ (p &&& (2 : Int32)) = (0 : Int32)) from fun h => h.2 c1)]; exact a1
    · rw [if_neg (mt (t1 k1).mp c1), if_pos (And.intro k1 c1)]
      by_cases k2 : 2 < k
      · rw [if_pos (l2.mpr k2)]
        by_cases c2 : (p &&& (4 : Int32)) = (0 : Int32)
        · rw [if_pos ((t2 k2).mpr c2), if_neg (show ¬ (2 < k ∧ ¬ (p &&& (4 : Int32)) = (0 : Int32)) from fun h => h.2 c2)]; exact a2
        · rw [if_neg (mt (t2 k2).mp c2), if_pos (And.intro k2 c2)]
          by_cases k3 : 3 < k
          · rw [if_pos (l3.mpr k3)]
            by_cases c3 : (p &&& (8 : Int32)) = (0 : Int32)
            · rw [if_pos ((t3 k3).mpr c3), if_neg (show ¬ (3 < k ∧ ¬ (p &&& (8 : Int32)) = (0 : Int32)) from fun h => h.2 c3)]; exact a3
            · rw [if_neg (mt (t3 k3).mp c3), if_pos (And.intro k3 c3)]; exact a4
          · rw [if_neg (mt l3.mp k3), if_neg (show ¬ (3 < k ∧ ¬ (p &&& (8 : Int32)) = (0 : Int32)) from fun h => k3 h.1)]; exact a3
      · rw [if_neg (mt l2.mp k2), if_neg (show ¬ (2 < k ∧ ¬ (p &&& (4 : Int32)) = (0 : Int32)) from fun h => k2 h.1)]; exact a2
  · rw [if_neg (mt l1.mp k1), if_neg (show ¬ (1 < k ∧ ¬ (p &&& (2 : Int32)) = (0 : Int32)) from fun h => k1 h.1)]; exact a1
theorem own_Lb (k : Nat) (p : Int32) (h : 0 < k) (hk : k ≤ 4) : 1 ≤ own_L k p ∧ own_L k p ≤ k := by
  unfold own_L
  split
  · split
    · split <;> omega
    · omega
  · omega
theorem own_bz {P Q : Prop} [Decidable P] [Decidable Q] {b : Int32} (h : b = (if P then (if Q then (0 : Int32) else (1 : Int32)) else (0 : Int32))) : b = (0 : Int32) ↔ ¬ (P ∧ ¬ Q) := by
  by_cases p : P
  · by_cases q : Q
    · rw [h, if_pos p, if_pos q]; exact iff_of_true rfl (fun x => x.2 q)
    · rw [h, if_pos p, if_neg q]; exact iff_of_false (by decide) (fun x => x ⟨p, q⟩)
  · rw [h, if_neg p]; exact iff_of_true rfl (fun x => p x.1)
theorem own_leadv {k : Nat} {xk p b0 b1 b2 b3 L : Int32} (hkN : xk = Int32.ofNat k) (hk : k ≤ 4)
    (h0 : b0 = (if (0 : Int32) < xk then (if (p &&& (1 : Int32)) = (0 : Int32) then (0 : Int32) else (1 : Int32)) else (0 : Int32)))
    (h1 : b1 = (if (1 : Int32) < xk then (if (p &&& (2 : Int32)) = (0 : Int32) then (0 : Int32) else (1 : Int32)) else (0 : Int32)))
    (h2 : b2 = (if (2 : Int32) < xk then (if (p &&& (4 : Int32)) = (0 : Int32) then (0 : Int32) else (1 : Int32)) else (0 : Int32)))
    (h3 : b3 = (if (3 : Int32) < xk then (if (p &&& (8 : Int32)) = (0 : Int32) then (0 : Int32) else (1 : Int32)) else (0 : Int32)))
    (hL : L = (if b0 = (0 : Int32) then (0 : Int32) else (if b1 = (0 : Int32) then (1 : Int32) else (if b2 = (0 : Int32) then (2 : Int32) else (if b3 = (0 : Int32) then (3 : Int32) else (4 : Int32)))))) :
    L = Int32.ofNat (if 0 < k ∧ ¬ (p &&& (1 : Int32)) = (0 : Int32) then own_L k p else 0) := by
  have l0 := (own_lit hkN (by omega) (k := 0) (K := 0) rfl (by omega)).2.1
  have l1 := (own_lit hkN (by omega) (k := 1) (K := 1) rfl (by omega)).2.1
  have l2 := (own_lit hkN (by omega) (k := 2) (K := 2) rfl (by omega)).2.1
  have l3 := (own_lit hkN (by omega) (k := 3) (K := 3) rfl (by omega)).2.1
  have z0 := own_bz h0
  have z1 := own_bz h1
  have z2 := own_bz h2
  have z3 := own_bz h3
  rw [l0] at z0
  rw [l1] at z1
  rw [l2] at z2
  rw [l3] at z3
  rw [hL]
  by_cases c0 : 0 < k ∧ ¬ (p &&& (1 : Int32)) = (0 : Int32)
  · rw [if_neg (fun e => z0.mp e c0), if_pos c0]
    unfold own_L
    by_cases c1 : 1 < k ∧ ¬ (p &&& (2 : Int32)) = (0 : Int32)
    · rw [if_neg (fun e => z1.mp e c1), if_pos c1]
      by_cases c2 : 2 < k ∧ ¬ (p &&& (4 : Int32)) = (0 : Int32)
      · rw [if_neg (fun e => z2.mp e c2), if_pos c2]
        by_cases c3 : 3 < k ∧ ¬ (p &&& (8 : Int32)) = (0 : Int32)
        · rw [if_neg (fun e => z3.mp e c3), if_pos c3]; rfl
        · rw [if_pos (z3.mpr c3), if_neg c3]; rfl
      · rw [if_pos (z2.mpr c2), if_neg c2]; rfl
    · rw [if_pos (z1.mpr c1), if_neg c1]; rfl
  · rw [if_pos (z0.mpr c0), if_neg c0]; rfl
theorem own_roomv {z : Int32} {n c : Int64} {k : Int} (hz : 1 ≤ z.toInt ∧ z.toInt ≤ 4) (hk : n.toInt - c.toInt = k) (h0 : -8 ≤ k ∧ k ≤ 8) : (((z.toInt64) - (n - c)).toInt32).toInt = z.toInt - k := by
  have c1 := c_lsub n c
  have r1 := rng64 (n - c)
  have c2 := c_lsub z.toInt64 (n - c)
  have r2 := rng64 (z.toInt64 - (n - c))
  have c3 := c_l2i (z.toInt64 - (n - c))
  have r3 := rng32 ((z.toInt64 - (n - c)).toInt32)
  have c4 := c_i2l z
  omega
theorem own_room0 {z : Int32} {n : Int64} (hz : 1 ≤ z.toInt ∧ z.toInt ≤ 4) : (((z.toInt64) - (n - n)).toInt32) = z := by
  apply Int32.toInt_inj.mp
  rw [own_roomv (k := 0) hz (by omega) (by omega)]
  omega
theorem own_roomk {z xk L : Int32} {n u q : Int64} {k l : Nat} (hz : 1 ≤ z.toInt ∧ z.toInt ≤ 4) (hn : n.toInt = q.toInt + k) (hu : u.toInt = q.toInt + l) (hk : k ≤ 4) (hl : l ≤ k) (hx : xk = Int32.ofNat k) (hL : L = Int32.ofNat l) : (((z.toInt64) - (n - u)).toInt32) = (z - (xk - L)) := by
  apply Int32.toInt_inj.mp
  rw [own_roomv (k := (k : Int) - l) hz (by omega) (by omega)]
  have e1 : xk.toInt = k := by rw [hx]; exact own_toInt (by omega)
  have e2 : L.toInt = l := by rw [hL]; exact own_toInt (by omega)
  have c1 := c_isub xk L
  have r1 := rng32 (xk - L)
  have c2 := c_isub z (xk - L)
  have r2 := rng32 (z - (xk - L))
  omega
theorem own_fin {z xk L f E r : Int32} {s R2 U2 N2 : Int64} {k l : Nat} (hz : 1 ≤ z.toInt ∧ z.toInt ≤ 4) (hk : k ≤ 4) (hl : l ≤ k) (hx : xk = Int32.ofNat k) (hL : L = Int32.ofNat l) (hs : 0 ≤ s.toInt)
    (hE : E = (if f = (1 : Int32) then (if L = xk then z else (0 : Int32)) else (if f = (2 : Int32) then (if L = xk then z else (0 : Int32)) else (z - (xk - L)))))
    (hr : r = (if (if f = (2 : Int32) then (if U2 = N2 then (-1 : Int64) else (if R2 < s then s else R2)) else R2) < (0 : Int64) then (((z.toInt64) - ((if f = (2 : Int32) then (if U2 = N2 then s else N2) else N2) - (if f = (2 : Int32) then (if U2 = N2 then s else U2) else U2))).toInt32) else (0 : Int32)))
    (h1 : f = (1 : Int32) → (l = k → U2 = N2 ∧ R2 = (-1 : Int64)) ∧ (l ≠ k → R2 = s)) (h2 : ¬ f = (1 : Int32) → R2 = (-1 : Int64) ∧ (U2 = N2 ↔ l = k) ∧ (¬ f = (2 : Int32) → (((z.toInt64) - (N2 - U2)).toInt32) = (z - (xk - L)))) : r = E := by
  have m1 : (-1 : Int64) < (0 : Int64) := by decide
  have e1 : (-1 : Int64).toInt = -1 := by decide
  have e0 : (0 : Int64).toInt = 0 := by decide
  have ms : (-1 : Int64) < s := by rw [Int64.lt_iff_toInt_lt]; omega
  have ns : ¬ s < (0 : Int64) := by rw [Int64.lt_iff_toInt_lt]; omega
  have lx := (own_lit hL (by omega) hx (by omega)).2.2
  rw [hr, hE]
  by_cases f1 : f = (1 : Int32)
  · have f2 : ¬ f = (2 : Int32) := by rw [f1]; decide
    obtain ⟨g1, g2⟩ := h1 f1
    rw [if_pos f1, if_neg f2, if_neg f2, if_neg f2]
    by_cases c : l = k
    · obtain ⟨u, v⟩ := g1 c
      rw [v, u, if_pos m1, if_pos (lx.mpr c)]; exact own_room0 hz
    · rw [g2 c, if_neg ns, if_neg (mt lx.mp c)]
  · obtain ⟨g1, g2, g3⟩ := h2 f1
    rw [if_neg f1]
    by_cases f2 : f = (2 : Int32)
    · rw [if_pos f2, if_pos f2, if_pos f2, if_pos f2, g1]
      by_cases c : l = k
      · rw [if_pos (g2.mpr c), if_pos (g2.mpr c), if_pos (g2.mpr c), if_pos m1, if_pos (lx.mpr c)]; exact own_room0 hz
      · rw [if_neg (mt g2.mp c), if_neg (mt g2.mp c), if_neg (mt g2.mp c), if_pos ms, if_neg ns, if_neg (mt lx.mp c)]
    · rw [if_neg f2, if_neg f2, if_neg f2, if_neg f2, g1, if_pos m1]; exact g3 f2
theorem own_main {k : Nat} {z p f xk b0 b1 b2 b3 L E r : Int32} {q N0 U N R s w3 w2 w1 R2 U2 N2 R3 U3 N3 : Int64} (hkN : xk = Int32.ofNat k) (hk : k ≤ 4) (hz : 1 ≤ z.toInt ∧ z.toInt ≤ 4) (hkz : (k : Int) ≤ z.toInt) (hq : 0 ≤ q.toInt ∧ q.toInt < 4611686018427387904) (hn : N0.toInt = q.toInt + k) (hS : own_S k U N R N0 q s f) (hs : 0 ≤ s.toInt)
    (h3 : w3 = (if (p &&& (8 : Int32)) = (0 : Int32) then (0 : Int64) else (if 3 < k then ((0 : Int64) ||| (own_m (q + (3 : Int64)) z)) else (0 : Int64))))
    (h2 : w2 = (if (p &&& (4 : Int32)) = (0 : Int32) then w3 else (if 2 < k then (w3 ||| (own_m (q + (2 : Int64)) z)) else w3)))
    (h1 : w1 = (if (p &&& (2 : Int32)) = (0 : Int32) then w2 else (if 1 < k then (w2 ||| (own_m (q + (1 : Int64)) z)) else w2)))
    (hR2 : R2 = (if (p &&& (1 : Int32)) = (0 : Int32) then R else (if 0 < k then (if R < (0 : Int64) then R else (if (own_run q N w1 z) = N then (-1 : Int64) else (if R < R then R else R))) else R)))
    (hU2 : U2 = (if (p &&& (1 : Int32)) = (0 : Int32) then U else (if 0 < k then (if R < (0 : Int64) then (own_run q N w1 z) else (if (own_run q N w1 z) = N then R else (own_run q N w1 z))) else U)))
    (hN2 : N2 = (if (p &&& (1 : Int32)) = (0 : Int32) then N else (if 0 < k then (if R < (0 : Int64) then N else (if (own_run q N w1 z) = N then R else N)) else N)))
    (hR3 : R3 = (if f = (2 : Int32) then (if U2 = N2 then (-1 : Int64) else (if R2 < s then s else R2)) else R2)) (hU3 : U3 = (if f = (2 : Int32) then (if U2 = N2 then s else U2) else U2)) (hN3 : N3 = (if f = (2 : Int32) then (if U2 = N2 then s else N2) else N2))
    (hb0 : b0 = (if (0 : Int32) < xk then (if (p &&& (1 : Int32)) = (0 : Int32) then (0 : Int32) else (1 : Int32)) else (0 : Int32)))
    (hb1 : b1 = (if (1 : Int32) < xk then (if (p &&& (2 : Int32)) = (0 : Int32) then (0 : Int32) else (1 : Int32)) else (0 : Int32)))
    (hb2 : b2 = (if (2 : Int32) < xk then (if (p &&& (4 : Int32)) = (0 : Int32) then (0 : Int32) else (1 : Int32)) else (0 : Int32)))
    (hb3 : b3 = (if (3 : Int32) < xk then (if (p &&& (8 : Int32)) = (0 : Int32) then (0 : Int32) else (1 : Int32)) else (0 : Int32)))
    (hL : L = (if b0 = (0 : Int32) then (0 : Int32) else (if b1 = (0 : Int32) then (1 : Int32) else (if b2 = (0 : Int32) then (2 : Int32) else (if b3 = (0 : Int32) then (3 : Int32) else (4 : Int32))))))
    (hE : E = (if f = (1 : Int32) then (if L = xk then z else (0 : Int32)) else (if f = (2 : Int32) then (if L = xk then z else (0 : Int32)) else (z - (xk - L)))))
    (hr : r = (if R3 < (0 : Int64) then (((z.toInt64) - (N3 - U3)).toInt32) else (0 : Int32))) : r = E := by
  have hLv := own_leadv hkN hk hb0 hb1 hb2 hb3 hL
  rw [hR3, hU3, hN3] at hr
  have m1 : (-1 : Int64) < (0 : Int64) := by decide
  have e0 : (0 : Int64).toInt = 0 := by decide
  have ns : ¬ s < (0 : Int64) := by rw [Int64.lt_iff_toInt_lt]; omega
  by_cases k0 : 0 < k
  · obtain ⟨u1, u2, u3⟩ := hS.1 k0
    by_cases c : (p &&& (1 : Int32)) = (0 : Int32)
    · rw [if_neg (show ¬ (0 < k ∧ ¬ (p &&& (1 : Int32)) = (0 : Int32)) from fun h => h.2 c)] at hLv
      rw [if_pos c] at hR2 hU2 hN2
      refine own_fin (l := 0) hz hk (by omega) hkN hLv hs hE hr (fun f1 => ⟨fun e => absurd e (by omega), fun _ => ?_⟩) (fun f1 => ⟨?_, ?_, fun _ => ?_⟩)
      · rw [hR2, u3, if_pos f1]
      · rw [hR2, u3, if_neg f1]
      · rw [hU2, hN2, u1, u2, ← Int64.toInt_inj, hn]; omega
      · rw [hU2, hN2, u1, u2]; exact own_roomk (l := 0) hz hn (by omega) hk (by omega) hkN hLv
    · rw [if_pos (And.intro k0 c)] at hLv
      rw [if_neg c, if_pos k0] at hR2 hU2 hN2
      have hv := own_runv (p := p) hk hz hkz hq hn h3 h2 h1
      have hb := own_Lb k p k0 hk
      rw [u2] at hR2 hU2 hN2
      have hrun : own_run q N0 w1 z = N0 ↔ own_L k p = k := by rw [← Int64.toInt_inj, hv, hn]; omega
      refine own_fin (l := own_L k p) hz hk hb.2 hkN hLv hs hE hr (fun f1 => ⟨fun e => ?_, fun e => ?_⟩) (fun f1 => ⟨?_, ?_, fun _ => ?_⟩)
      · rw [if_pos f1] at u3
        rw [u3, if_neg ns, if_pos (hrun.mpr e)] at hR2 hU2 hN2
        exact ⟨hU2.trans hN2.symm, hR2⟩
      · rw [if_pos f1] at u3
        rw [u3, if_neg ns, if_neg (mt hrun.mp e), ite_self] at hR2
        exact hR2
      · rw [if_neg f1] at u3
        rw [u3, if_pos m1] at hR2
        exact hR2
      · rw [if_neg f1] at u3
        rw [u3, if_pos m1] at hU2 hN2
        rw [hU2, hN2]; exact hrun
      · rw [if_neg f1] at u3
        rw [u3, if_pos m1] at hU2 hN2
        rw [hU2, hN2]; exact own_roomk hz hn hv hk hb.2 hkN hLv
  · obtain ⟨u1, u2⟩ := hS.2 (by omega)
    have e : k = 0 := by omega
    rw [if_neg (show ¬ (0 < k ∧ ¬ (p &&& (1 : Int32)) = (0 : Int32)) from fun h => k0 h.1)] at hLv
    rw [if_neg k0, ite_self] at hR2 hU2 hN2
    refine own_fin (l := 0) hz hk (by omega) hkN hLv hs hE hr (fun f1 => ⟨fun _ => ⟨by rw [hU2, hN2, u1], by rw [hR2, u2]⟩, fun h => absurd e.symm h⟩) (fun f1 => ⟨by rw [hR2, u2], ?_, fun _ => ?_⟩)
    · rw [hU2, hN2, u1]; exact iff_of_true rfl e.symm
    · rw [hU2, hN2, u1, own_room0 hz]
      have := own_roomk (z := z) (n := N) (u := N) (q := N) (k := k) (l := 0) hz (by omega) (by omega) hk (by omega) hkN hLv
      rw [← this, own_room0 hz]
theorem d4_0 : decode jdk_30_method_1_code 0 = .ok (.aload_n 0, 1) := by decide +kernel
theorem d4_1 : decode jdk_30_method_1_code 1 = .ok (.invokespecial 1, 3) := by decide +kernel
theorem d4_4 : decode jdk_30_method_1_code 4 = .ok (.return_, 1) := by decide +kernel
theorem pn_0 : plainName "java/lang/Record" = true := by first | (simp [plainName, overriddenIn]; done) | decide +kernel
theorem ef_4 (m : MethodId) (x0 : Addr) : entryFrame m #[(.ref x0)] 1 = mkF m 0 #[rv x0] [] := by first | (simp [entryFrame, mkF, argsToLocals, Value.category]; done) | rfl
def Q4 (Z : State) (oa : Addr) (h0 : Heap) (n0 : Nat) (rv_ : Option Value) (h_ : Heap) (L_ : List Loc) : Prop := rv_ = none ∧ Fr n0 L_ ∧ h_ = h0
set_option maxRecDepth 65536 in
set_option maxHeartbeats 40000000 in
theorem rm4 (l : Launch) (Z : State) (a0 : Array Value) (hw : ∀ d ∈ tables_1, d.before a0 Z = true) (ws : List Jvm.Cond) (oa : Addr) (h0 : Heap) (n0 : Nat) (Z0 : n0 ≤ h0.size) :
    MetFree l (⟨"java/lang/Record", "<init>", "()V"⟩ : MethodName) (head1 (Jvm.Cond.code (⟨"java/lang/Record", "<init>", "()V"⟩ : MethodName) jdk_30_method_1_code 1 none :: ws) ({ frames := 1, cells := 0, slots := 0, locals := 12 } : Room)) (fun a U => a = #[(.ref oa)] ∧ Z.Warmed39 U.vm ∧ U.heap = h0) (fun _ _ _ _ _ => True) (fun _ U o U' => ∃ v L, o = .returned v ∧ Q4 Z oa h0 n0 v U'.heap L ∧ FrameEnd U o U' L ({ frames := 1, cells := 0, slots := 0, locals := 12 } : Room).cells ({ frames := 1, cells := 0, slots := 0, locals := 12 } : Room).slots) := by
  refine MetFree.of_bodySF (plainFor_of_name pn_0) hisR ?_
  intro p e s m args below meth c s₁ Bd hml0 hP hK
  obtain ⟨rfl, hZ, hh⟩ := hP
  have hx := Bd.exec
  have hby := Bd.bytes
  have hml : c.maxLocals = 1 := hml0
  have hown : s.vm.findClass "java/lang/Record" = some m.cls := findClass_of_methodNamed Bd.named
  have hnm := (name_of_methodNamed Bd.named Bd.method).1
  have X0 : Stand p l e ({ frames := 1, cells := 0, slots := 0, locals := 12 } : Room) s m #[(.ref oa)] below meth c s₁ [] 0 0 := Stand.of_body Bd
  have e0 : s₁.heap = h0 := by rw [← hh, Bd.state]; rfl
  have N0 := Fr.nil n0
  obtain ⟨G, hG, pre0⟩ : ∃ G : State → Prop, (∀ t, G t → Steps p.tables e below (s₁.setTop (entryFrame m #[(.ref oa)] 1)) t) ∧ ∀ t, own_K p e below m s₁ 0 #[rv oa] [] t → G t := ⟨fun t => Steps p.tables e below (s₁.setTop (entryFrame m #[(.ref oa)] 1)) t, fun _ k => k, fun t k => castTop (ef_4 m oa) k⟩
  obtain ⟨T1, X1, e1, st1⟩ := initO X0 hx hZ hown (tw hw (i := 25) rfl) (tw hw (i := 26) rfl) (tw hw (i := 27) rfl) e0 (g := (mkF m 1 #[rv oa] [(.ref oa)])) rfl (by rw [hml]; rfl) rfl (hb hby d4_1) (by decide) (W := 0) (by show 2 * 0 + _ ≤ _; exact Nat.le_of_eq rfl) (by decide)
  have pre2 : ∀ t, own_K p e below m T1 4 #[rv oa] [] t → G t := by
    intro t k
    refine pre0 t ?_
    show own_K p e below m s₁ 0 #[rv oa] [] _
    refine XS.aloadN X0.here hx rfl (hb hby d4_0) rfl rfl ?_
    show own_K p e below m s₁ 1 #[rv oa] [(.ref oa)] _
    refine st1 _ ?_
    exact k
  obtain ⟨fs, hr, hrun, hended, hW, hsame⟩ := X1.leave (v := none) (fun _ => rfl)
  refine ⟨_, _, hG _ (pre2 _ ?_), hrun, hended, _, _, rfl, ?_, ⟨_, rfl⟩, hW, hsame.mono (by decide) (by decide)⟩
  · show own_K p e below m T1 4 #[rv oa] [] _
    exact X1.returnOut hx Bd.returns (hb hby d4_4) hr
  · show Q4 Z oa h0 n0 _ T1.heap _
    rw [e1]
    exact ⟨rfl, N0, rfl⟩

theorem d2_0 : decode jdk_40_method_36_code 0 = .ok (.getstatic 90, 3) := by decide +kernel
theorem d2_3 : decode jdk_40_method_36_code 3 = .ok (.areturn, 1) := by decide +kernel
theorem pn_1 : plainName "java/util/List" = true := by first | (simp [plainName, overriddenIn]; done) | decide +kernel
theorem ef_2 (m : MethodId)  : entryFrame m #[] 0 = mkF m 0 #[] [] := by first | (simp [entryFrame, mkF, argsToLocals, Value.category]; done) | rfl
def Q2 (Z : State) (el : Addr) (ea : Addr) (kE : ClassId) (h0 : Heap) (n0 : Nat) (rv_ : Option Value) (h_ : Heap) (L_ : List Loc) : Prop := rv_ = some (.ref el) ∧ Fr n0 L_ ∧ h_ = h0
set_option maxRecDepth 65536 in
set_option maxHeartbeats 40000000 in
theorem rm2 (l : Launch) (Z : State) (a0 : Array Value) (hw : ∀ d ∈ tables_1, d.before a0 Z = true) (ws : List Jvm.Cond) (el : Addr) (ea : Addr) (kE : ClassId) (h0 : Heap) (n0 : Nat) (Z0 : n0 ≤ h0.size) (O_ : Old Z n0 h0) (P_ : own_P Z el ea kE) :
    MetFree l (⟨"java/util/List", "of", "()Ljava/util/List;"⟩ : MethodName) (head1 (Jvm.Cond.code (⟨"java/util/List", "of", "()Ljava/util/List;"⟩ : MethodName) jdk_40_method_36_code 0 (some (.object "java/util/List")) :: ws) ({ frames := 0, cells := 0, slots := 0, locals := 0 } : Room)) (fun a U => a = #[] ∧ Z.Warmed39 U.vm ∧ U.heap = h0) (fun _ _ _ _ _ => True) (fun _ U o U' => ∃ v L, o = .returned v ∧ Q2 Z el ea kE h0 n0 v U'.heap L ∧ FrameEnd U o U' L ({ frames := 0, cells := 0, slots := 0, locals := 0 } : Room).cells ({ frames := 0, cells := 0, slots := 0, locals := 0 } : Room).slots) := by
  refine MetFree.of_bodySF (plainFor_of_name pn_1) hisR ?_
  intro p e s m args below meth c s₁ Bd hml0 hP hK
  obtain ⟨rfl, hZ, hh⟩ := hP
  have hx := Bd.exec
  have hby := Bd.bytes
  have hml : c.maxLocals = 0 := hml0
  have hown : s.vm.findClass "java/util/List" = some m.cls := findClass_of_methodNamed Bd.named
  have hnm := (name_of_methodNamed Bd.named Bd.method).1
  have X0 : Stand p l e ({ frames := 0, cells := 0, slots := 0, locals := 0 } : Room) s m #[] below meth c s₁ [] 0 0 := Stand.of_body Bd
  have e0 : s₁.heap = h0 := by rw [← hh, Bd.state]; rfl
  have N0 := Fr.nil n0
  obtain ⟨G, hG, pre0⟩ : ∃ G : State → Prop, (∀ t, G t → Steps p.tables e below (s₁.setTop (entryFrame m #[] 0)) t) ∧ ∀ t, own_K p e below m s₁ 0 #[] [] t → G t := ⟨fun t => Steps p.tables e below (s₁.setTop (entryFrame m #[] 0)) t, fun _ k => k, fun t k => castTop (ef_2 m ) k⟩
  obtain ⟨T1, X1, e1, st1⟩ := getS2 X0 hx hZ hown (host := "") (Or.inl (tw hw (i := 15) rfl)) Via.refl e0 (Sta.ext O_.2 P_.1) (g := (mkF m 0 #[] [])) rfl (hb hby d2_0)
  have pre2 : ∀ t, own_K p e below m T1 3 #[] [(.ref el)] t → G t := by
    intro t k
    refine pre0 t ?_
    show own_K p e below m s₁ 0 #[] [] _
    refine st1 _ ?_
    exact k
  obtain ⟨fs, hr, hrun, hended, hW, hsame⟩ := X1.leave (v := some (.ref el)) (fun h => by rw [Bd.returns] at h; cases h)
  refine ⟨_, _, hG _ (pre2 _ ?_), hrun, hended, _, _, rfl, ?_, ⟨_, rfl⟩, hW, hsame.mono (by decide) (by decide)⟩
  · show own_K p e below m T1 3 #[] [(.ref el)] _
    exact retOut X1 hx Bd.returns rfl (Or.inr (Or.inr (Or.inr (Or.inr ⟨rfl, rfl, rfl⟩)))) (hb hby d2_3) hr
  · show Q2 Z el ea kE h0 n0 _ T1.heap _
    rw [e1]
    exact ⟨rfl, N0, rfl⟩

theorem d7_0 : decode jdk_56_method_3_code 0 = .ok (.aload_n 0, 1) := by decide +kernel
theorem d7_1 : decode jdk_56_method_3_code 1 = .ok (.instanceof 10, 3) := by decide +kernel
theorem d7_4 : decode jdk_56_method_3_code 4 = .ok (.ifCond .ne 22, 3) := by decide +kernel
theorem d7_7 : decode jdk_56_method_3_code 7 = .ok (.aload_n 0, 1) := by decide +kernel
theorem d7_8 : decode jdk_56_method_3_code 8 = .ok (.instanceof 12, 3) := by decide +kernel
theorem d7_11 : decode jdk_56_method_3_code 11 = .ok (.ifCond .eq 20, 3) := by decide +kernel
theorem d7_14 : decode jdk_56_method_3_code 14 = .ok (.aload_n 0, 1) := by decide +kernel
theorem d7_15 : decode jdk_56_method_3_code 15 = .ok (.checkcast 12, 3) := by decide +kernel
theorem d7_18 : decode jdk_56_method_3_code 18 = .ok (.astore_n 1, 1) := by decide +kernel
theorem d7_19 : decode jdk_56_method_3_code 19 = .ok (.aload_n 1, 1) := by decide +kernel
theorem d7_20 : decode jdk_56_method_3_code 20 = .ok (.getfield 14, 3) := by decide +kernel
theorem d7_23 : decode jdk_56_method_3_code 23 = .ok (.ifCond .ne 8, 3) := by decide +kernel
theorem d7_26 : decode jdk_56_method_3_code 26 = .ok (.aload_n 0, 1) := by decide +kernel
theorem d7_27 : decode jdk_56_method_3_code 27 = .ok (.checkcast 18, 3) := by decide +kernel
theorem d7_30 : decode jdk_56_method_3_code 30 = .ok (.areturn, 1) := by decide +kernel
theorem pn_2 : plainName "java/util/ImmutableCollections" = true := by first | (simp [plainName, overriddenIn]; done) | decide +kernel
theorem ef_7 (m : MethodId) (x0 : Addr) : entryFrame m #[(.ref x0)] 2 = mkF m 0 #[rv x0, .unset] [] := by first | (simp [entryFrame, mkF, argsToLocals, Value.category]; done) | rfl
def Q7 (Z : State) (oa : Addr) (h0 : Heap) (n0 : Nat) (rv_ : Option Value) (h_ : Heap) (L_ : List Loc) : Prop := rv_ = some (.ref oa) ∧ Fr n0 L_ ∧ h_ = h0
set_option maxRecDepth 65536 in
set_option maxHeartbeats 40000000 in
theorem rm7 (l : Launch) (Z : State) (a0 : Array Value) (hw : ∀ d ∈ tables_1, d.before a0 Z = true) (ws : List Jvm.Cond) (oa : Addr) (h0 : Heap) (n0 : Nat) (Z0 : n0 ≤ h0.size) (E_ : Exa Z h0 oa "java/util/ImmutableCollections$ListN") (Fa : Fld Z h0 oa "java/util/ImmutableCollections$ListN" "allowNulls" "Z" (.int (0 : Int32))) :
    MetFree l (⟨"java/util/ImmutableCollections", "listCopy", "(Ljava/util/Collection;)Ljava/util/List;"⟩ : MethodName) (head1 (Jvm.Cond.code (⟨"java/util/ImmutableCollections", "listCopy", "(Ljava/util/Collection;)Ljava/util/List;"⟩ : MethodName) jdk_56_method_3_code 2 (some (.object "java/util/List")) :: ws) ({ frames := 0, cells := 0, slots := 0, locals := 0 } : Room)) (fun a U => a = #[(.ref oa)] ∧ Z.Warmed39 U.vm ∧ U.heap = h0) (fun _ _ _ _ _ => True) (fun _ U o U' => ∃ v L, o = .returned v ∧ Q7 Z oa h0 n0 v U'.heap L ∧ FrameEnd U o U' L ({ frames := 0, cells := 0, slots := 0, locals := 0 } : Room).cells ({ frames := 0, cells := 0, slots := 0, locals := 0 } : Room).slots) := by
  refine MetFree.of_bodySF (plainFor_of_name pn_2) hisR ?_
  intro p e s m args below meth c s₁ Bd hml0 hP hK
  obtain ⟨rfl, hZ, hh⟩ := hP
  have hx := Bd.exec
  have hby := Bd.bytes
  have hml : c.maxLocals = 2 := hml0
  have hown : s.vm.findClass "java/util/ImmutableCollections" = some m.cls := findClass_of_methodNamed Bd.named
  have hnm := (name_of_methodNamed Bd.named Bd.method).1
  have X0 : Stand p l e ({ frames := 0, cells := 0, slots := 0, locals := 0 } : Room) s m #[(.ref oa)] below meth c s₁ [] 0 0 := Stand.of_body Bd
  have e0 : s₁.heap = h0 := by rw [← hh, Bd.state]; rfl
  have N0 := Fr.nil n0
  obtain ⟨G, hG, pre0⟩ : ∃ G : State → Prop, (∀ t, G t → Steps p.tables e below (s₁.setTop (entryFrame m #[(.ref oa)] 2)) t) ∧ ∀ t, own_K p e below m s₁ 0 #[rv oa, .unset] [] t → G t := ⟨fun t => Steps p.tables e below (s₁.setTop (entryFrame m #[(.ref oa)] 2)) t, fun _ k => k, fun t k => castTop (ef_7 m oa) k⟩
  obtain ⟨ib1, T1, X1, e1, st1⟩ := own_inst X0 hx hZ hown (tw hw (i := 34) rfl) e0 E_ (g := (mkF m 1 #[rv oa, .unset] [(.ref oa)])) rfl rfl (hb hby d7_1)
  have pre2 : ∀ t, own_K p e below m T1 4 #[rv oa, .unset] [(.int ib1)] t → G t := by
    intro t k
    refine pre0 t ?_
    show own_K p e below m s₁ 0 #[rv oa, .unset] [] _
    refine XS.aloadN X0.here hx rfl (hb hby d7_0) rfl rfl ?_
    show own_K p e below m s₁ 1 #[rv oa, .unset] [(.ref oa)] _
    refine st1 _ ?_
    exact k
  by_cases hc4_3 : ib1 = (0 : Int32)
  · obtain ⟨T4, X4, e4, st4⟩ := instY X1 hx hZ hown (tw hw (i := 40) rfl) e1 (Ins.self E_) (g := (mkF m 8 #[rv oa, .unset] [(.ref oa)])) rfl rfl (hb hby d7_8)
    obtain ⟨T5, X5, e5, st5⟩ := castY X4 hx hZ hown (tw hw (i := 40) rfl) e4 (Ins.self E_) (g := (mkF m 15 #[rv oa, .unset] [(.ref oa)])) rfl rfl (hb hby d7_15)
    obtain ⟨T6, X6, e6, st6⟩ := getF X5 hx hZ hown (Or.inr (tw hw (i := 42) rfl)) Via.refl e5 Fa (g := (mkF m 20 #[rv oa, rv oa] [(.ref oa)])) rfl rfl (hb hby d7_20)
    obtain ⟨T7, X7, e7, st7⟩ := castY X6 hx hZ hown (tw hw (i := 44) rfl) e6 (Ins.of_exa E_ (tw hw (i := 45) rfl)) (g := (mkF m 27 #[rv oa, rv oa] [(.ref oa)])) rfl rfl (hb hby d7_27)
    have pre8 : ∀ t, own_K p e below m T7 30 #[rv oa, rv oa] [(.ref oa)] t → G t := by
      intro t k
      refine pre2 t ?_
      show own_K p e below m T1 4 #[rv oa, .unset] [(.int ib1)] _
      refine XS.ifNo X1.here hx rfl (hb hby d7_4) rfl ((if0 _ _).trans (teq hc4_3).2) ?_
      show own_K p e below m T1 7 #[rv oa, .unset] [] _
      refine XS.aloadN X1.here hx rfl (hb hby d7_7) rfl rfl ?_
      show own_K p e below m T1 8 #[rv oa, .unset] [(.ref oa)] _
      refine st4 _ ?_
      show own_K p e below m T4 11 #[rv oa, .unset] [(.int (1 : Int32))] _
      refine XS.ifNo X4.here hx rfl (hb hby d7_11) rfl ((if0 _ _).trans (feq (by decide : ¬ ((1 : Int32) = (0 : Int32)))).1) ?_
      show own_K p e below m T4 14 #[rv oa, .unset] [] _
      refine XS.aloadN X4.here hx rfl (hb hby d7_14) rfl rfl ?_
      show own_K p e below m T4 15 #[rv oa, .unset] [(.ref oa)] _
      refine st5 _ ?_
      show own_K p e below m T5 18 #[rv oa, .unset] [(.ref oa)] _
      refine XS.astoreN X5.here hx rfl (hb hby d7_18) rfl rfl (l' := #[rv oa, rv oa]) rfl ?_
      show own_K p e below m T5 19 #[rv oa, rv oa] [] _
      refine XS.aloadN X5.here hx rfl (hb hby d7_19) rfl rfl ?_
      show own_K p e below m T5 20 #[rv oa, rv oa] [(.ref oa)] _
      refine st6 _ ?_
      show own_K p e below m T6 23 #[rv oa, rv oa] [(.int (0 : Int32))] _
      refine XS.ifNo X6.here hx rfl (hb hby d7_23) rfl ((if0 _ _).trans (teq (by decide : (0 : Int32) = (0 : Int32))).2) ?_
      show own_K p e below m T6 26 #[rv oa, rv oa] [] _
      refine XS.aloadN X6.here hx rfl (hb hby d7_26) rfl rfl ?_
      show own_K p e below m T6 27 #[rv oa, rv oa] [(.ref oa)] _
      refine st7 _ ?_
      exact k
    obtain ⟨fs, hr, hrun, hended, hW, hsame⟩ := X7.leave (v := some (.ref oa)) (fun h => by rw [Bd.returns] at h; cases h)
    refine ⟨_, _, hG _ (pre8 _ ?_), hrun, hended, _, _, rfl, ?_, ⟨_, rfl⟩, hW, hsame.mono (by decide) (by decide)⟩
    · show own_K p e below m T7 30 #[rv oa, rv oa] [(.ref oa)] _
      exact retOut X7 hx Bd.returns rfl (Or.inr (Or.inr (Or.inr (Or.inr ⟨rfl, rfl, rfl⟩)))) (hb hby d7_30) hr
    · show Q7 Z oa h0 n0 _ T7.heap _
      rw [e7]
      exact ⟨rfl, N0, rfl⟩
  · obtain ⟨T9, X9, e9, st9⟩ := castY X1 hx hZ hown (tw hw (i := 44) rfl) e1 (Ins.of_exa E_ (tw hw (i := 45) rfl)) (g := (mkF m 27 #[rv oa, .unset] [(.ref oa)])) rfl rfl (hb hby d7_27)
    have pre10 : ∀ t, own_K p e below m T9 30 #[rv oa, .unset] [(.ref oa)] t → G t := by
      intro t k
      refine pre2 t ?_
      show own_K p e below m T1 4 #[rv oa, .unset] [(.int ib1)] _
      refine XS.ifYes X1.here hx rfl (pc0 := 4) (pc' := 26) rfl (hb hby d7_4) rfl ((if0 _ _).trans (feq hc4_3).2) (by decide) (by decide) ?_
      show own_K p e below m T1 26 #[rv oa, .unset] [] _
      refine XS.aloadN X1.here hx rfl (hb hby d7_26) rfl rfl ?_
      show own_K p e below m T1 27 #[rv oa, .unset] [(.ref oa)] _
      refine st9 _ ?_
      exact k
    obtain ⟨fs, hr, hrun, hended, hW, hsame⟩ := X9.leave (v := some (.ref oa)) (fun h => by rw [Bd.returns] at h; cases h)
    refine ⟨_, _, hG _ (pre10 _ ?_), hrun, hended, _, _, rfl, ?_, ⟨_, rfl⟩, hW, hsame.mono (by decide) (by decide)⟩
    · show own_K p e below m T9 30 #[rv oa, .unset] [(.ref oa)] _
      exact retOut X9 hx Bd.returns rfl (Or.inr (Or.inr (Or.inr (Or.inr ⟨rfl, rfl, rfl⟩)))) (hb hby d7_30) hr
    · show Q7 Z oa h0 n0 _ T9.heap _
      rw [e9]
      exact ⟨rfl, N0, rfl⟩

theorem d6_0 : decode jdk_40_method_48_code 0 = .ok (.aload_n 0, 1) := by decide +kernel
theorem d6_1 : decode jdk_40_method_48_code 1 = .ok (.invokestatic 112, 3) := by decide +kernel
theorem pd_0 : parseMethodDescriptor "(Ljava/util/Collection;)Ljava/util/List;" = some ⟨[(.object "java/util/Collection")], some (.object "java/util/List")⟩ := by decide +kernel
theorem d6_4 : decode jdk_40_method_48_code 4 = .ok (.areturn, 1) := by decide +kernel
theorem ef_6 (m : MethodId) (x0 : Addr) : entryFrame m #[(.ref x0)] 1 = mkF m 0 #[rv x0] [] := by first | (simp [entryFrame, mkF, argsToLocals, Value.category]; done) | rfl
def Q6 (Z : State) (oa : Addr) (h0 : Heap) (n0 : Nat) (rv_ : Option Value) (h_ : Heap) (L_ : List Loc) : Prop := rv_ = some (.ref oa) ∧ Fr n0 L_ ∧ h_ = h0
set_option maxRecDepth 65536 in
set_option maxHeartbeats 40000000 in
theorem rm6 (l : Launch) (Z : State) (a0 : Array Value) (hw : ∀ d ∈ tables_1, d.before a0 Z = true) (ws : List Jvm.Cond) (oa : Addr) (h0 : Heap) (n0 : Nat) (Z0 : n0 ≤ h0.size) (E_ : Exa Z h0 oa "java/util/ImmutableCollections$ListN") (Fa : Fld Z h0 oa "java/util/ImmutableCollections$ListN" "allowNulls" "Z" (.int (0 : Int32))) :
    MetFree l (⟨"java/util/List", "copyOf", "(Ljava/util/Collection;)Ljava/util/List;"⟩ : MethodName) (head1 (Jvm.Cond.code (⟨"java/util/List", "copyOf", "(Ljava/util/Collection;)Ljava/util/List;"⟩ : MethodName) jdk_40_method_48_code 1 (some (.object "java/util/List")) :: ws) ({ frames := 1, cells := 0, slots := 0, locals := 13 } : Room)) (fun a U => a = #[(.ref oa)] ∧ Z.Warmed39 U.vm ∧ U.heap = h0) (fun _ _ _ _ _ => True) (fun _ U o U' => ∃ v L, o = .returned v ∧ Q6 Z oa h0 n0 v U'.heap L ∧ FrameEnd U o U' L ({ frames := 1, cells := 0, slots := 0, locals := 13 } : Room).cells ({ frames := 1, cells := 0, slots := 0, locals := 13 } : Room).slots) := by
  refine MetFree.of_bodySF (plainFor_of_name pn_1) hisR ?_
  intro p e s m args below meth c s₁ Bd hml0 hP hK
  obtain ⟨rfl, hZ, hh⟩ := hP
  have hx := Bd.exec
  have hby := Bd.bytes
  have hml : c.maxLocals = 1 := hml0
  have hown : s.vm.findClass "java/util/List" = some m.cls := findClass_of_methodNamed Bd.named
  have hnm := (name_of_methodNamed Bd.named Bd.method).1
  have X0 : Stand p l e ({ frames := 1, cells := 0, slots := 0, locals := 13 } : Room) s m #[(.ref oa)] below meth c s₁ [] 0 0 := Stand.of_body Bd
  have e0 : s₁.heap = h0 := by rw [← hh, Bd.state]; rfl
  have N0 := Fr.nil n0
  obtain ⟨G, hG, pre0⟩ : ∃ G : State → Prop, (∀ t, G t → Steps p.tables e below (s₁.setTop (entryFrame m #[(.ref oa)] 1)) t) ∧ ∀ t, own_K p e below m s₁ 0 #[rv oa] [] t → G t := ⟨fun t => Steps p.tables e below (s₁.setTop (entryFrame m #[(.ref oa)] 1)) t, fun _ k => k, fun t k => castTop (ef_6 m oa) k⟩
  obtain ⟨_, _, ⟨T1, L1, k1, n1⟩, -, X1, ⟨Lc1, hQ1, l1, y1, z1⟩, st1⟩ := Jvm.LawKit.callS X0 hx (y := (⟨"java/util/ImmutableCollections", "listCopy", "(Ljava/util/Collection;)Ljava/util/List;"⟩ : MethodName)) hown (mvT hZ (tw hw (i := 31) rfl)) (mvT hZ (tw hw (i := 32) rfl)) (mvT hZ (tw hw (i := 16) rfl)) (mvT hZ (tw hw (i := 33) rfl)) (by decide) (backOf (W := 0) (rm7 l Z a0 hw [] oa h0 n0 Z0 E_ Fa) hZ (tw hw (i := 33) rfl) (tw hw (i := 16) rfl) (by decide) (by decide)) (g := (mkF m 1 #[rv oa] [(.ref oa)])) rfl (by rw [hml]; rfl) (argsL := [(.ref oa)]) (rest := []) (lenOf pd_0 rfl) rfl (by show 2 * 0 + _ ≤ _; exact Nat.le_of_eq rfl) (hb hby d6_1) (fun _ _ => ⟨rfl, e0, (by decide : 0 + 0 ≤ _), (by decide : 0 + 0 ≤ _)⟩)
  dsimp only [Pt.U, Pt.locs, Pt.cells, Pt.slots] at X1 l1 y1 z1 st1 hQ1
  subst l1 y1 z1
  obtain ⟨rfl, Nq1, eh1⟩ := hQ1
  have N1 := Fr.app N0 Nq1
  have pre2 : ∀ t, own_K p e below m T1 4 #[rv oa] [(.ref oa)] t → G t := by
    intro t k
    refine pre0 t ?_
    show own_K p e below m s₁ 0 #[rv oa] [] _
    refine XS.aloadN X0.here hx rfl (hb hby d6_0) rfl rfl ?_
    show own_K p e below m s₁ 1 #[rv oa] [(.ref oa)] _
    refine st1 _ ?_
    exact k
  obtain ⟨fs, hr, hrun, hended, hW, hsame⟩ := X1.leave (v := some (.ref oa)) (fun h => by rw [Bd.returns] at h; cases h)
  refine ⟨_, _, hG _ (pre2 _ ?_), hrun, hended, _, _, rfl, ?_, ⟨_, rfl⟩, hW, hsame.mono (by decide) (by decide)⟩
  · show own_K p e below m T1 4 #[rv oa] [(.ref oa)] _
    exact retOut X1 hx Bd.returns rfl (Or.inr (Or.inr (Or.inr (Or.inr ⟨rfl, rfl, rfl⟩)))) (hb hby d6_4) hr
  · show Q6 Z oa h0 n0 _ T1.heap _
    rw [eh1]
    exact ⟨rfl, N1, rfl⟩

theorem d9_0 : decode jdk_45_method_3_code 0 = .ok (.aload_n 0, 1) := by decide +kernel
theorem d9_1 : decode jdk_45_method_3_code 1 = .ok (.getfield 7, 3) := by decide +kernel
theorem d9_4 : decode jdk_45_method_3_code 4 = .ok (.arraylength, 1) := by decide +kernel
theorem d9_5 : decode jdk_45_method_3_code 5 = .ok (.ireturn, 1) := by decide +kernel
theorem pn_3 : plainName "java/util/ImmutableCollections$ListN" = true := by first | (simp [plainName, overriddenIn]; done) | decide +kernel
theorem ef_9 (m : MethodId) (x0 : Addr) : entryFrame m #[(.ref x0)] 1 = mkF m 0 #[rv x0] [] := by first | (simp [entryFrame, mkF, argsToLocals, Value.category]; done) | rfl
def Q9 (Z : State) (oa : Addr) (oe : Addr) (rk : ClassId) (xn : Int32) (vs : List Value) (dv : Value) (h0 : Heap) (n0 : Nat) (rv_ : Option Value) (h_ : Heap) (L_ : List Loc) : Prop := rv_ = some (.int xn) ∧ Fr n0 L_ ∧ h_ = h0
set_option maxRecDepth 65536 in
set_option maxHeartbeats 40000000 in
theorem rm9 (l : Launch) (Z : State) (a0 : Array Value) (hw : ∀ d ∈ tables_1, d.before a0 Z = true) (ws : List Jvm.Cond) (oa : Addr) (oe : Addr) (rk : ClassId) (xn : Int32) (vs : List Value) (dv : Value) (h0 : Heap) (n0 : Nat) (Z0 : n0 ≤ h0.size) (Fe : Fld Z h0 oa "java/util/ImmutableCollections$ListN" "elements" "[Ljava/lang/Object;" (.ref oe)) (Ve : Arv Z h0 oe rk (.object "java/lang/Object") xn vs dv) :
    MetFree l (⟨"java/util/ImmutableCollections$ListN", "size", "()I"⟩ : MethodName) (head1 (Jvm.Cond.code (⟨"java/util/ImmutableCollections$ListN", "size", "()I"⟩ : MethodName) jdk_45_method_3_code 1 (some .int) :: ws) ({ frames := 0, cells := 0, slots := 0, locals := 0 } : Room)) (fun a U => a = #[(.ref oa)] ∧ Z.Warmed39 U.vm ∧ U.heap = h0) (fun _ _ _ _ _ => True) (fun _ U o U' => ∃ v L, o = .returned v ∧ Q9 Z oa oe rk xn vs dv h0 n0 v U'.heap L ∧ FrameEnd U o U' L ({ frames := 0, cells := 0, slots := 0, locals := 0 } : Room).cells ({ frames := 0, cells := 0, slots := 0, locals := 0 } : Room).slots) := by
  refine MetFree.of_bodySF (plainFor_of_name pn_3) hisR ?_
  intro p e s m args below meth c s₁ Bd hml0 hP hK
  obtain ⟨rfl, hZ, hh⟩ := hP
  have hx := Bd.exec
  have hby := Bd.bytes
  have hml : c.maxLocals = 1 := hml0
  have hown : s.vm.findClass "java/util/ImmutableCollections$ListN" = some m.cls := findClass_of_methodNamed Bd.named
  have hnm := (name_of_methodNamed Bd.named Bd.method).1
  have X0 : Stand p l e ({ frames := 0, cells := 0, slots := 0, locals := 0 } : Room) s m #[(.ref oa)] below meth c s₁ [] 0 0 := Stand.of_body Bd
  have e0 : s₁.heap = h0 := by rw [← hh, Bd.state]; rfl
  have N0 := Fr.nil n0
  obtain ⟨G, hG, pre0⟩ : ∃ G : State → Prop, (∀ t, G t → Steps p.tables e below (s₁.setTop (entryFrame m #[(.ref oa)] 1)) t) ∧ ∀ t, own_K p e below m s₁ 0 #[rv oa] [] t → G t := ⟨fun t => Steps p.tables e below (s₁.setTop (entryFrame m #[(.ref oa)] 1)) t, fun _ k => k, fun t k => castTop (ef_9 m oa) k⟩
  obtain ⟨T1, X1, e1, st1⟩ := getF X0 hx hZ hown (host := "") (Or.inl (tw hw (i := 65) rfl)) Via.refl e0 Fe (g := (mkF m 1 #[rv oa] [(.ref oa)])) rfl rfl (hb hby d9_1)
  have pre3 : ∀ t, own_K p e below m T1 5 #[rv oa] [(.int xn)] t → G t := by
    intro t k
    refine pre0 t ?_
    show own_K p e below m s₁ 0 #[rv oa] [] _
    refine XS.aloadN X0.here hx rfl (hb hby d9_0) rfl rfl ?_
    show own_K p e below m s₁ 1 #[rv oa] [(.ref oa)] _
    refine st1 _ ?_
    show own_K p e below m T1 4 #[rv oa] [(.ref oe)] _
    refine own_len X1 hx hZ e1 Ve (g := (mkF m 4 #[rv oa] [(.ref oe)])) rfl rfl (hb hby d9_4) _ ?_
    exact k
  obtain ⟨fs, hr, hrun, hended, hW, hsame⟩ := X1.leave (v := some (.int xn)) (fun h => by rw [Bd.returns] at h; cases h)
  refine ⟨_, _, hG _ (pre3 _ ?_), hrun, hended, _, _, rfl, ?_, ⟨_, rfl⟩, hW, hsame.mono (by decide) (by decide)⟩
  · show own_K p e below m T1 5 #[rv oa] [(.int xn)] _
    exact retI X1 hx Bd.returns (hb hby d9_5) hr
  · show Q9 Z oa oe rk xn vs dv h0 n0 _ T1.heap _
    rw [e1]
    exact ⟨rfl, N0, rfl⟩

theorem d19_0 : decode jdk_45_method_2_code 0 = .ok (.aload_n 0, 1) := by decide +kernel
theorem d19_1 : decode jdk_45_method_2_code 1 = .ok (.getfield 7, 3) := by decide +kernel
theorem d19_4 : decode jdk_45_method_2_code 4 = .ok (.arraylength, 1) := by decide +kernel
theorem d19_5 : decode jdk_45_method_2_code 5 = .ok (.ifCond .ne 7, 3) := by decide +kernel
theorem d19_8 : decode jdk_45_method_2_code 8 = .ok (.iconst 1, 1) := by decide +kernel
theorem d19_9 : decode jdk_45_method_2_code 9 = .ok (.goto 4, 3) := by decide +kernel
theorem d19_13 : decode jdk_45_method_2_code 13 = .ok (.ireturn, 1) := by decide +kernel
theorem d19_12 : decode jdk_45_method_2_code 12 = .ok (.iconst 0, 1) := by decide +kernel
theorem ef_19 (m : MethodId) (x0 : Addr) : entryFrame m #[(.ref x0)] 1 = mkF m 0 #[rv x0] [] := by first | (simp [entryFrame, mkF, argsToLocals, Value.category]; done) | rfl
def Q19 (Z : State) (oa : Addr) (oe : Addr) (rk : ClassId) (xn : Int32) (vs : List Value) (dv : Value) (h0 : Heap) (n0 : Nat) (rv_ : Option Value) (h_ : Heap) (L_ : List Loc) : Prop := rv_ = some (.int (if xn = (0 : Int32) then (1 : Int32) else (0 : Int32))) ∧ Fr n0 L_ ∧ h_ = h0
set_option maxRecDepth 65536 in
set_option maxHeartbeats 40000000 in
theorem rm19 (l : Launch) (Z : State) (a0 : Array Value) (hw : ∀ d ∈ tables_1, d.before a0 Z = true) (ws : List Jvm.Cond) (oa : Addr) (oe : Addr) (rk : ClassId) (xn : Int32) (vs : List Value) (dv : Value) (h0 : Heap) (n0 : Nat) (Z0 : n0 ≤ h0.size) (Fe : Fld Z h0 oa "java/util/ImmutableCollections$ListN" "elements" "[Ljava/lang/Object;" (.ref oe)) (Ve : Arv Z h0 oe rk (.object "java/lang/Object") xn vs dv) :
    MetFree l (⟨"java/util/ImmutableCollections$ListN", "isEmpty", "()Z"⟩ : MethodName) (head1 (Jvm.Cond.code (⟨"java/util/ImmutableCollections$ListN", "isEmpty", "()Z"⟩ : MethodName) jdk_45_method_2_code 1 (some .boolean) :: ws) ({ frames := 0, cells := 0, slots := 0, locals := 0 } : Room)) (fun a U => a = #[(.ref oa)] ∧ Z.Warmed39 U.vm ∧ U.heap = h0) (fun _ _ _ _ _ => True) (fun _ U o U' => ∃ v L, o = .returned v ∧ Q19 Z oa oe rk xn vs dv h0 n0 v U'.heap L ∧ FrameEnd U o U' L ({ frames := 0, cells := 0, slots := 0, locals := 0 } : Room).cells ({ frames := 0, cells := 0, slots := 0, locals := 0 } : Room).slots) := by
  refine MetFree.of_bodySF (plainFor_of_name pn_3) hisR ?_
  intro p e s m args below meth c s₁ Bd hml0 hP hK
  obtain ⟨rfl, hZ, hh⟩ := hP
  have hx := Bd.exec
  have hby := Bd.bytes
  have hml : c.maxLocals = 1 := hml0
  have hown : s.vm.findClass "java/util/ImmutableCollections$ListN" = some m.cls := findClass_of_methodNamed Bd.named
  have hnm := (name_of_methodNamed Bd.named Bd.method).1
  have X0 : Stand p l e ({ frames := 0, cells := 0, slots := 0, locals := 0 } : Room) s m #[(.ref oa)] below meth c s₁ [] 0 0 := Stand.of_body Bd
  have e0 : s₁.heap = h0 := by rw [← hh, Bd.state]; rfl
  have N0 := Fr.nil n0
  obtain ⟨G, hG, pre0⟩ : ∃ G : State → Prop, (∀ t, G t → Steps p.tables e below (s₁.setTop (entryFrame m #[(.ref oa)] 1)) t) ∧ ∀ t, own_K p e below m s₁ 0 #[rv oa] [] t → G t := ⟨fun t => Steps p.tables e below (s₁.setTop (entryFrame m #[(.ref oa)] 1)) t, fun _ k => k, fun t k => castTop (ef_19 m oa) k⟩
  obtain ⟨T1, X1, e1, st1⟩ := getF X0 hx hZ hown (host := "") (Or.inl (tw hw (i := 65) rfl)) Via.refl e0 Fe (g := (mkF m 1 #[rv oa] [(.ref oa)])) rfl rfl (hb hby d19_1)
  have pre3 : ∀ t, own_K p e below m T1 5 #[rv oa] [(.int xn)] t → G t := by
    intro t k
    refine pre0 t ?_
    show own_K p e below m s₁ 0 #[rv oa] [] _
    refine XS.aloadN X0.here hx rfl (hb hby d19_0) rfl rfl ?_
    show own_K p e below m s₁ 1 #[rv oa] [(.ref oa)] _
    refine st1 _ ?_
    show own_K p e below m T1 4 #[rv oa] [(.ref oe)] _
    refine own_len X1 hx hZ e1 Ve (g := (mkF m 4 #[rv oa] [(.ref oe)])) rfl rfl (hb hby d19_4) _ ?_
    exact k
  by_cases hc5_4 : xn = (0 : Int32)
  · have pre5 : ∀ t, own_K p e below m T1 13 #[rv oa] [(.int (1 : Int32))] t → G t := by
      intro t k
      refine pre3 t ?_
      show own_K p e below m T1 5 #[rv oa] [(.int xn)] _
      refine XS.ifNo X1.here hx rfl (hb hby d19_5) rfl ((if0 _ _).trans (teq hc5_4).2) ?_
      show own_K p e below m T1 8 #[rv oa] [] _
      refine XS.iconst X1.here hx rfl (hb hby d19_8) ?_
      show own_K p e below m T1 9 #[rv oa] [(.int (1 : Int32))] _
      refine XS.goto X1.here hx rfl (pc0 := 9) (pc' := 13) rfl (hb hby d19_9) (by decide) (by decide) ?_
      exact k
    obtain ⟨fs, hr, hrun, hended, hW, hsame⟩ := X1.leave (v := some (.int (1 : Int32))) (fun h => by rw [Bd.returns] at h; cases h)
    refine ⟨_, _, hG _ (pre5 _ ?_), hrun, hended, _, _, rfl, ?_, ⟨_, rfl⟩, hW, hsame.mono (by decide) (by decide)⟩
    · show own_K p e below m T1 13 #[rv oa] [(.int (1 : Int32))] _
      exact retN X1 hx (t := .boolean) Bd.returns (by simp) (hb hby d19_13) hr
    · show Q19 Z oa oe rk xn vs dv h0 n0 _ T1.heap _
      rw [e1]
      exact ⟨(by simp only [if_pos hc5_4]), N0, rfl⟩
  · have pre6 : ∀ t, own_K p e below m T1 13 #[rv oa] [(.int (0 : Int32))] t → G t := by
      intro t k
      refine pre3 t ?_
      show own_K p e below m T1 5 #[rv oa] [(.int xn)] _
      refine XS.ifYes X1.here hx rfl (pc0 := 5) (pc' := 12) rfl (hb hby d19_5) rfl ((if0 _ _).trans (feq hc5_4).2) (by decide) (by decide) ?_
      show own_K p e below m T1 12 #[rv oa] [] _
      refine XS.iconst X1.here hx rfl (hb hby d19_12) ?_
      exact k
    obtain ⟨fs, hr, hrun, hended, hW, hsame⟩ := X1.leave (v := some (.int (0 : Int32))) (fun h => by rw [Bd.returns] at h; cases h)
    refine ⟨_, _, hG _ (pre6 _ ?_), hrun, hended, _, _, rfl, ?_, ⟨_, rfl⟩, hW, hsame.mono (by decide) (by decide)⟩
    · show own_K p e below m T1 13 #[rv oa] [(.int (0 : Int32))] _
      exact retN X1 hx (t := .boolean) Bd.returns (by simp) (hb hby d19_13) hr
    · show Q19 Z oa oe rk xn vs dv h0 n0 _ T1.heap _
      rw [e1]
      exact ⟨(by simp only [if_neg hc5_4]), N0, rfl⟩

theorem d10_0 : decode jdk_53_method_1_code 0 = .ok (.aload_n 0, 1) := by decide +kernel
theorem d10_1 : decode jdk_53_method_1_code 1 = .ok (.invokespecial 1, 3) := by decide +kernel
theorem d10_4 : decode jdk_53_method_1_code 4 = .ok (.aload_n 0, 1) := by decide +kernel
theorem d10_5 : decode jdk_53_method_1_code 5 = .ok (.aload_n 1, 1) := by decide +kernel
theorem d10_6 : decode jdk_53_method_1_code 6 = .ok (.putfield 7, 3) := by decide +kernel
theorem d10_9 : decode jdk_53_method_1_code 9 = .ok (.aload_n 0, 1) := by decide +kernel
theorem d10_10 : decode jdk_53_method_1_code 10 = .ok (.iload_n 2, 1) := by decide +kernel
theorem d10_11 : decode jdk_53_method_1_code 11 = .ok (.putfield 13, 3) := by decide +kernel
theorem d10_14 : decode jdk_53_method_1_code 14 = .ok (.aload_n 0, 1) := by decide +kernel
theorem d10_15 : decode jdk_53_method_1_code 15 = .ok (.iconst 0, 1) := by decide +kernel
theorem d10_16 : decode jdk_53_method_1_code 16 = .ok (.putfield 17, 3) := by decide +kernel
theorem d10_19 : decode jdk_53_method_1_code 19 = .ok (.aload_n 0, 1) := by decide +kernel
theorem d10_20 : decode jdk_53_method_1_code 20 = .ok (.iconst 0, 1) := by decide +kernel
theorem d10_21 : decode jdk_53_method_1_code 21 = .ok (.putfield 20, 3) := by decide +kernel
theorem d10_24 : decode jdk_53_method_1_code 24 = .ok (.return_, 1) := by decide +kernel
theorem pn_4 : plainName "java/util/ImmutableCollections$ListItr" = true := by first | (simp [plainName, overriddenIn]; done) | decide +kernel
theorem ef_10 (m : MethodId) (x0 : Addr) (x1 : Addr) (x2 : Int32) : entryFrame m #[(.ref x0), (.ref x1), (.int x2)] 3 = mkF m 0 #[rv x0, rv x1, iv x2] [] := by first | (simp [entryFrame, mkF, argsToLocals, Value.category]; done) | rfl
def Q10 (Z : State) (oa : Addr) (ol : Addr) (xs : Int32) (u0 : Value) (u1 : Value) (u2 : Value) (u3 : Value) (h0 : Heap) (n0 : Nat) (rv_ : Option Value) (h_ : Heap) (L_ : List Loc) : Prop := rv_ = none ∧ Fr n0 L_ ∧ Keep h0 h_ [oa] ∧ Fld Z h_ oa "java/util/ImmutableCollections$ListItr" "size" "I" (.int xs) ∧ Fld Z h_ oa "java/util/ImmutableCollections$ListItr" "cursor" "I" (.int (0 : Int32))
set_option maxRecDepth 65536 in
set_option maxHeartbeats 40000000 in
theorem rm10 (l : Launch) (Z : State) (a0 : Array Value) (hw : ∀ d ∈ tables_1, d.before a0 Z = true) (ws : List Jvm.Cond) (oa : Addr) (ol : Addr) (xs : Int32) (u0 : Value) (u1 : Value) (u2 : Value) (u3 : Value) (h0 : Heap) (n0 : Nat) (Z0 : n0 ≤ h0.size) (E_ : Exa Z h0 oa "java/util/ImmutableCollections$ListItr") (F0 : Fld Z h0 oa "java/util/ImmutableCollections$ListItr" "list" "Ljava/util/List;" u0) (F1 : Fld Z h0 oa "java/util/ImmutableCollections$ListItr" "size" "I" u1) (F2 : Fld Z h0 oa "java/util/ImmutableCollections$ListItr" "cursor" "I" u2) (F3 : Fld Z h0 oa "java/util/ImmutableCollections$ListItr" "isListIterator" "Z" u3) (g_ : n0 ≤ oa) :
    MetFree l (⟨"java/util/ImmutableCollections$ListItr", "<init>", "(Ljava/util/List;I)V"⟩ : MethodName) (head1 (Jvm.Cond.code (⟨"java/util/ImmutableCollections$ListItr", "<init>", "(Ljava/util/List;I)V"⟩ : MethodName) jdk_53_method_1_code 3 none :: ws) ({ frames := 1, cells := 0, slots := 0, locals := 12 } : Room)) (fun a U => a = #[(.ref oa), (.ref ol), (.int xs)] ∧ Z.Warmed39 U.vm ∧ U.heap = h0) (fun _ _ _ _ _ => True) (fun _ U o U' => ∃ v L, o = .returned v ∧ Q10 Z oa ol xs u0 u1 u2 u3 h0 n0 v U'.heap L ∧ FrameEnd U o U' L ({ frames := 1, cells := 0, slots := 0, locals := 12 } : Room).cells ({ frames := 1, cells := 0, slots := 0, locals := 12 } : Room).slots) := by
  refine MetFree.of_bodySF (plainFor_of_name pn_4) hisR ?_
  intro p e s m args below meth c s₁ Bd hml0 hP hK
  obtain ⟨rfl, hZ, hh⟩ := hP
  have hx := Bd.exec
  have hby := Bd.bytes
  have hml : c.maxLocals = 3 := hml0
  have hown : s.vm.findClass "java/util/ImmutableCollections$ListItr" = some m.cls := findClass_of_methodNamed Bd.named
  have hnm := (name_of_methodNamed Bd.named Bd.method).1
  have X0 : Stand p l e ({ frames := 1, cells := 0, slots := 0, locals := 12 } : Room) s m #[(.ref oa), (.ref ol), (.int xs)] below meth c s₁ [] 0 0 := Stand.of_body Bd
  have e0 : s₁.heap = h0 := by rw [← hh, Bd.state]; rfl
  have N0 := Fr.nil n0
  obtain ⟨G, hG, pre0⟩ : ∃ G : State → Prop, (∀ t, G t → Steps p.tables e below (s₁.setTop (entryFrame m #[(.ref oa), (.ref ol), (.int xs)] 3)) t) ∧ ∀ t, own_K p e below m s₁ 0 #[rv oa, rv ol, iv xs] [] t → G t := ⟨fun t => Steps p.tables e below (s₁.setTop (entryFrame m #[(.ref oa), (.ref ol), (.int xs)] 3)) t, fun _ k => k, fun t k => castTop (ef_10 m oa ol xs) k⟩
  obtain ⟨T1, X1, e1, st1⟩ := initO X0 hx hZ hown (tw hw (i := 71) rfl) (tw hw (i := 26) rfl) (tw hw (i := 27) rfl) e0 (g := (mkF m 1 #[rv oa, rv ol, iv xs] [(.ref oa)])) rfl (by rw [hml]; rfl) rfl (hb hby d10_1) (by decide) (W := 0) (by show 2 * 0 + _ ≤ _; exact Nat.le_of_eq rfl) (by decide)
  obtain ⟨T2, h2, X2, e2, W2, st2⟩ := putF X1 hx hZ hown (host := "") (Or.inl (tw hw (i := 72) rfl)) Via.refl e1 F0 E_ (Or.inr ⟨(tw hw (i := 73) rfl), rfl, hnm⟩) (tw hw (i := 56) rfl) (ty := (.object "java/util/List")) (by decide) rfl rfl (g := (mkF m 6 #[rv oa, rv ol, iv xs] [(.ref ol), (.ref oa)])) rfl rfl (hb hby d10_6)
  have f2w := F0.same W2
  have K2 : Keep h0 h2 [oa] := (Keep.refl h0 [oa]).wr W2 (Or.inl (List.mem_of_getElem? (i := 0) rfl))
  have N2 := Fr.snoc X2 N0 g_
  have sz2 : n0 ≤ h2.size := Nat.le_trans Z0 (Keep.of_wr W2).1
  have f4 : Fld Z h2 oa "java/util/ImmutableCollections$ListItr" "size" "I" u1 := (F1.other W2 (Or.inr (slot_ne (Or.inr (tw hw (i := 75) rfl)) (Or.inr (tw hw (i := 73) rfl)) (by decide) (t := .int) (t' := (.object "java/util/List")) (by decide) (by decide))))
  have f5 : Exa Z h2 oa "java/util/ImmutableCollections$ListItr" := (E_.wr W2)
  obtain ⟨T3, h3, X3, e3, W3, st3⟩ := putF X2 hx hZ hown (host := "") (Or.inl (tw hw (i := 74) rfl)) Via.refl e2 f4 f5 (Or.inr ⟨(tw hw (i := 75) rfl), rfl, hnm⟩) (tw hw (i := 56) rfl) (ty := .int) (by decide) rfl rfl (g := (mkF m 11 #[rv oa, rv ol, iv xs] [(.int xs), (.ref oa)])) rfl rfl (hb hby d10_11)
  have f3w := f4.same W3
  have K3 : Keep h0 h3 [oa] := K2.wr W3 (Or.inl (List.mem_of_getElem? (i := 0) rfl))
  have N3 := Fr.snoc X3 N2 g_
  have sz3 : n0 ≤ h3.size := Nat.le_trans sz2 (Keep.of_wr W3).1
  have f7 : Fld Z h3 oa "java/util/ImmutableCollections$ListItr" "cursor" "I" u2 := ((F2.other W2 (Or.inr (slot_ne (Or.inl (tw hw (i := 77) rfl)) (Or.inr (tw hw (i := 73) rfl)) (by decide) (t := .int) (t' := (.object "java/util/List")) (by decide) (by decide)))).other W3 (Or.inr (slot_ne (Or.inl (tw hw (i := 77) rfl)) (Or.inr (tw hw (i := 75) rfl)) (by decide) (t := .int) (t' := .int) (by decide) (by decide))))
  have f8 : Exa Z h3 oa "java/util/ImmutableCollections$ListItr" := (f5.wr W3)
  obtain ⟨T6, h6, X6, e6, W6, st6⟩ := putF X3 hx hZ hown (host := "") (Or.inl (tw hw (i := 76) rfl)) Via.refl e3 f7 f8 (Or.inl (tw hw (i := 77) rfl)) (tw hw (i := 56) rfl) (ty := .int) (by decide) rfl rfl (g := (mkF m 16 #[rv oa, rv ol, iv xs] [(.int (0 : Int32)), (.ref oa)])) rfl rfl (hb hby d10_16)
  have f6w := f7.same W6
  have K6 : Keep h0 h6 [oa] := K3.wr W6 (Or.inl (List.mem_of_getElem? (i := 0) rfl))
  have N6 := Fr.snoc X6 N3 g_
  have sz6 : n0 ≤ h6.size := Nat.le_trans sz3 (Keep.of_wr W6).1
  have f10 : Fld Z h6 oa "java/util/ImmutableCollections$ListItr" "isListIterator" "Z" u3 := (((F3.other W2 (Or.inr (slot_ne (Or.inr (tw hw (i := 79) rfl)) (Or.inr (tw hw (i := 73) rfl)) (by decide) (t := .boolean) (t' := (.object "java/util/List")) (by decide) (by decide)))).other W3 (Or.inr (slot_ne (Or.inr (tw hw (i := 79) rfl)) (Or.inr (tw hw (i := 75) rfl)) (by decide) (t := .boolean) (t' := .int) (by decide) (by decide)))).other W6 (Or.inr (slot_ne (Or.inr (tw hw (i := 79) rfl)) (Or.inl (tw hw (i := 77) rfl)) (by decide) (t := .boolean) (t' := .int) (by decide) (by decide))))
  have f11 : Exa Z h6 oa "java/util/ImmutableCollections$ListItr" := (f8.wr W6)
  obtain ⟨T9, h9, X9, e9, W9, st9⟩ := putFN X6 hx hZ hown (tw hw (i := 78) rfl) Via.refl e6 f10 f11 (Or.inr ⟨(tw hw (i := 79) rfl), rfl, hnm⟩) (tw hw (i := 56) rfl) (ty := .boolean) (v' := (.int (0 : Int32))) (by decide) rfl rfl (g := (mkF m 21 #[rv oa, rv ol, iv xs] [(.int (0 : Int32)), (.ref oa)])) rfl rfl (hb hby d10_21)
  have f9w := f10.same W9
  have K9 : Keep h0 h9 [oa] := K6.wr W9 (Or.inl (List.mem_of_getElem? (i := 0) rfl))
  have N9 := Fr.snoc X9 N6 g_
  have sz9 : n0 ≤ h9.size := Nat.le_trans sz6 (Keep.of_wr W9).1
  have pre12 : ∀ t, own_K p e below m T9 24 #[rv oa, rv ol, iv xs] [] t → G t := by
    intro t k
    refine pre0 t ?_
    show own_K p e below m s₁ 0 #[rv oa, rv ol, iv xs] [] _
    refine XS.aloadN X0.here hx rfl (hb hby d10_0) rfl rfl ?_
    show own_K p e below m s₁ 1 #[rv oa, rv ol, iv xs] [(.ref oa)] _
    refine st1 _ ?_
    show own_K p e below m T1 4 #[rv oa, rv ol, iv xs] [] _
    refine XS.aloadN X1.here hx rfl (hb hby d10_4) rfl rfl ?_
    show own_K p e below m T1 5 #[rv oa, rv ol, iv xs] [(.ref oa)] _
    refine XS.aloadN X1.here hx rfl (hb hby d10_5) rfl rfl ?_
    show own_K p e below m T1 6 #[rv oa, rv ol, iv xs] [(.ref ol), (.ref oa)] _
    refine st2 _ ?_
    show own_K p e below m T2 9 #[rv oa, rv ol, iv xs] [] _
    refine XS.aloadN X2.here hx rfl (hb hby d10_9) rfl rfl ?_
    show own_K p e below m T2 10 #[rv oa, rv ol, iv xs] [(.ref oa)] _
    refine XS.iloadN X2.here hx rfl (hb hby d10_10) rfl ?_
    show own_K p e below m T2 11 #[rv oa, rv ol, iv xs] [(.int xs), (.ref oa)] _
    refine st3 _ ?_
    show own_K p e below m T3 14 #[rv oa, rv ol, iv xs] [] _
    refine XS.aloadN X3.here hx rfl (hb hby d10_14) rfl rfl ?_
    show own_K p e below m T3 15 #[rv oa, rv ol, iv xs] [(.ref oa)] _
    refine XS.iconst X3.here hx rfl (hb hby d10_15) ?_
    show own_K p e below m T3 16 #[rv oa, rv ol, iv xs] [(.int (0 : Int32)), (.ref oa)] _
    refine st6 _ ?_
    show own_K p e below m T6 19 #[rv oa, rv ol, iv xs] [] _
    refine XS.aloadN X6.here hx rfl (hb hby d10_19) rfl rfl ?_
    show own_K p e below m T6 20 #[rv oa, rv ol, iv xs] [(.ref oa)] _
    refine XS.iconst X6.here hx rfl (hb hby d10_20) ?_
    show own_K p e below m T6 21 #[rv oa, rv ol, iv xs] [(.int (0 : Int32)), (.ref oa)] _
    refine st9 _ ?_
    exact k
  have f13 : Fld Z h9 oa "java/util/ImmutableCollections$ListItr" "size" "I" (.int xs) := ((f3w.other W6 (Or.inr (slot_ne (Or.inr (tw hw (i := 75) rfl)) (Or.inl (tw hw (i := 77) rfl)) (by decide) (t := .int) (t' := .int) (by decide) (by decide)))).other W9 (Or.inr (slot_ne (Or.inr (tw hw (i := 75) rfl)) (Or.inr (tw hw (i := 79) rfl)) (by decide) (t := .int) (t' := .boolean) (by decide) (by decide))))
  have f14 : Fld Z h9 oa "java/util/ImmutableCollections$ListItr" "cursor" "I" (.int (0 : Int32)) := (f6w.other W9 (Or.inr (slot_ne (Or.inl (tw hw (i := 77) rfl)) (Or.inr (tw hw (i := 79) rfl)) (by decide) (t := .int) (t' := .boolean) (by decide) (by decide))))
  obtain ⟨fs, hr, hrun, hended, hW, hsame⟩ := X9.leave (v := none) (fun _ => rfl)
  refine ⟨_, _, hG _ (pre12 _ ?_), hrun, hended, _, _, rfl, ?_, ⟨_, rfl⟩, hW, hsame.mono (by decide) (by decide)⟩
  · show own_K p e below m T9 24 #[rv oa, rv ol, iv xs] [] _
    exact X9.returnOut hx Bd.returns (hb hby d10_24) hr
  · show Q10 Z oa ol xs u0 u1 u2 u3 h0 n0 _ T9.heap _
    rw [e9]
    exact ⟨rfl, N9, K9, f13, f14⟩

theorem d8_0 : decode jdk_46_method_10_code 0 = .ok (.new 61, 3) := by decide +kernel
theorem d8_3 : decode jdk_46_method_10_code 3 = .ok (.dup, 1) := by decide +kernel
theorem d8_4 : decode jdk_46_method_10_code 4 = .ok (.aload_n 0, 1) := by decide +kernel
theorem d8_5 : decode jdk_46_method_10_code 5 = .ok (.aload_n 0, 1) := by decide +kernel
theorem d8_6 : decode jdk_46_method_10_code 6 = .ok (.invokevirtual 13, 3) := by decide +kernel
theorem pd_1 : parseMethodDescriptor "()I" = some ⟨[], some .int⟩ := by decide +kernel
theorem d8_9 : decode jdk_46_method_10_code 9 = .ok (.invokespecial 63, 3) := by decide +kernel
theorem pd_2 : parseMethodDescriptor "(Ljava/util/List;I)V" = some ⟨[(.object "java/util/List"), .int], none⟩ := by decide +kernel
theorem d8_12 : decode jdk_46_method_10_code 12 = .ok (.areturn, 1) := by decide +kernel
theorem pn_5 : plainName "java/util/ImmutableCollections$AbstractImmutableList" = true := by first | (simp [plainName, overriddenIn]; done) | decide +kernel
theorem ef_8 (m : MethodId) (x0 : Addr) : entryFrame m #[(.ref x0)] 1 = mkF m 0 #[rv x0] [] := by first | (simp [entryFrame, mkF, argsToLocals, Value.category]; done) | rfl
def Q8 (Z : State) (oa : Addr) (oe : Addr) (rk : ClassId) (xn : Int32) (vs : List Value) (dv : Value) (h0 : Heap) (n0 : Nat) (rv_ : Option Value) (h_ : Heap) (L_ : List Loc) : Prop := ∃ (ri : Addr), rv_ = some (.ref ri) ∧ Fr n0 L_ ∧ Keep h0 h_ [] ∧ h0.size ≤ ri ∧ Exa Z h_ ri "java/util/ImmutableCollections$ListItr" ∧ Fld Z h_ ri "java/util/ImmutableCollections$ListItr" "size" "I" (.int xn) ∧ Fld Z h_ ri "java/util/ImmutableCollections$ListItr" "cursor" "I" (.int (0 : Int32))
set_option maxRecDepth 65536 in
set_option maxHeartbeats 40000000 in
theorem rm8 (l : Launch) (Z : State) (a0 : Array Value) (hw : ∀ d ∈ tables_1, d.before a0 Z = true) (ws : List Jvm.Cond) (oa : Addr) (oe : Addr) (rk : ClassId) (xn : Int32) (vs : List Value) (dv : Value) (h0 : Heap) (n0 : Nat) (Z0 : n0 ≤ h0.size) (E_ : Exa Z h0 oa "java/util/ImmutableCollections$ListN") (Fe : Fld Z h0 oa "java/util/ImmutableCollections$ListN" "elements" "[Ljava/lang/Object;" (.ref oe)) (Ve : Arv Z h0 oe rk (.object "java/lang/Object") xn vs dv) :
    MetFree l (⟨"java/util/ImmutableCollections$AbstractImmutableList", "iterator", "()Ljava/util/Iterator;"⟩ : MethodName) (head1 (Jvm.Cond.code (⟨"java/util/ImmutableCollections$AbstractImmutableList", "iterator", "()Ljava/util/Iterator;"⟩ : MethodName) jdk_46_method_10_code 1 (some (.object "java/util/Iterator")) :: ws) ({ frames := 2, cells := 1, slots := 4, locals := 27 } : Room)) (fun a U => a = #[(.ref oa)] ∧ Z.Warmed39 U.vm ∧ U.heap = h0) (fun _ _ _ _ _ => True) (fun _ U o U' => ∃ v L, o = .returned v ∧ Q8 Z oa oe rk xn vs dv h0 n0 v U'.heap L ∧ FrameEnd U o U' L ({ frames := 2, cells := 1, slots := 4, locals := 27 } : Room).cells ({ frames := 2, cells := 1, slots := 4, locals := 27 } : Room).slots) := by
  refine MetFree.of_bodySF (plainFor_of_name pn_5) hisR ?_
  intro p e s m args below meth c s₁ Bd hml0 hP hK
  obtain ⟨rfl, hZ, hh⟩ := hP
  have hx := Bd.exec
  have hby := Bd.bytes
  have hml : c.maxLocals = 1 := hml0
  have hown : s.vm.findClass "java/util/ImmutableCollections$AbstractImmutableList" = some m.cls := findClass_of_methodNamed Bd.named
  have hnm := (name_of_methodNamed Bd.named Bd.method).1
  have X0 : Stand p l e ({ frames := 2, cells := 1, slots := 4, locals := 27 } : Room) s m #[(.ref oa)] below meth c s₁ [] 0 0 := Stand.of_body Bd
  have e0 : s₁.heap = h0 := by rw [← hh, Bd.state]; rfl
  have N0 := Fr.nil n0
  obtain ⟨G, hG, pre0⟩ : ∃ G : State → Prop, (∀ t, G t → Steps p.tables e below (s₁.setTop (entryFrame m #[(.ref oa)] 1)) t) ∧ ∀ t, own_K p e below m s₁ 0 #[rv oa] [] t → G t := ⟨fun t => Steps p.tables e below (s₁.setTop (entryFrame m #[(.ref oa)] 1)) t, fun _ k => k, fun t k => castTop (ef_8 m oa) k⟩
  obtain ⟨T1, h1, X1, e1, E1, A1, D1, -, st1⟩ := newO X0 hx hZ hown (tw hw (i := 55) rfl) (tw hw (i := 56) rfl) (tw hw (i := 57) rfl) e0 (g := (mkF m 0 #[rv oa] [])) rfl (hb hby d8_0) (by decide) (by decide)
  obtain ⟨b1, g1⟩ : ∃ z, z = h0.size := ⟨_, rfl⟩
  rw [← g1] at A1 D1 st1
  have ne1_oa : oa ≠ b1 := Nat.ne_of_lt (Nat.lt_of_lt_of_le E_.lt (Nat.le_of_eq g1.symm))
  have ne1_oe : oe ≠ b1 := Nat.ne_of_lt (Nat.lt_of_lt_of_le Ve.lt (Nat.le_of_eq g1.symm))
  have ge_b1 : n0 ≤ b1 := Nat.le_trans Z0 (Nat.le_of_eq g1.symm)
  have sz_b1 : h0.size ≤ b1 := Nat.le_trans (Keep.refl h0 []).1 (Nat.le_of_eq g1.symm)
  have K1 : Keep h0 h1 [] := (Keep.refl h0 []).ext E1
  have sz1 : n0 ≤ h1.size := Nat.le_trans Z0 E1.1
  have f2 : Fld Z h1 b1 "java/util/ImmutableCollections$ListItr" "list" "Ljava/util/List;" .null := D1 (Or.inr (tw hw (i := 73) rfl)) (ty := (.object "java/util/List")) (by decide)
  have f3 : Fld Z h1 b1 "java/util/ImmutableCollections$ListItr" "size" "I" (.int (0 : Int32)) := D1 (Or.inr (tw hw (i := 75) rfl)) (ty := .int) (by decide)
  have f4 : Fld Z h1 b1 "java/util/ImmutableCollections$ListItr" "cursor" "I" (.int (0 : Int32)) := D1 (Or.inl (tw hw (i := 77) rfl)) (ty := .int) (by decide)
  have f5 : Fld Z h1 b1 "java/util/ImmutableCollections$ListItr" "isListIterator" "Z" (.int (0 : Int32)) := D1 (Or.inr (tw hw (i := 79) rfl)) (ty := .boolean) (by decide)
  have f7 : Fld Z h1 oa "java/util/ImmutableCollections$ListN" "elements" "[Ljava/lang/Object;" (.ref oe) := (Fe.ext E1)
  have f8 : Arv Z h1 oe rk (.object "java/lang/Object") xn vs dv := (Ve.ext E1)
  have f9 : Exa Z h1 oa "java/util/ImmutableCollections$ListN" := (E_.ext E1)
  obtain ⟨cq6, kq6, q6a, q6b, q6c⟩ := isOf hZ e1 f9
  obtain ⟨_, _, ⟨T6, L6, k6, n6⟩, -, X6, ⟨Lc6, hQ6, l6, y6, z6⟩, st6⟩ := X1.virtualBackUp hx (owner := "java/util/AbstractCollection") (x := (⟨"java/util/ImmutableCollections$AbstractImmutableList", "size", "()I"⟩ : MethodName)) (y := (⟨"java/util/ImmutableCollections$ListN", "size", "()I"⟩ : MethodName)) hown (mvT hZ (tw hw (i := 58) rfl)) (mvT hZ (tw hw (i := 59) rfl)) (mvT hZ (tw hw (i := 60) rfl)) (by decide) (mvT hZ (tw hw (i := 61) rfl)) (mvT hZ (tw hw (i := 62) rfl)) (backOf (W := 3) (rm9 l Z a0 hw [] oa oe rk xn vs dv h1 n0 sz1 f7 f8) hZ (tw hw (i := 64) rfl) (tw hw (i := 63) rfl) (by decide) (by decide)) q6a q6c (g := (mkF m 6 #[rv oa] [(.ref oa), (.ref oa), (.ref b1), (.ref b1)])) rfl (by rw [hml]; rfl) (Steps.refl _) (argsL := []) (rest := [(.ref oa), (.ref b1), (.ref b1)]) (lenOf pd_1 rfl) rfl (by show 2 * 0 + _ ≤ _; exact Nat.le_of_eq rfl) (hb hby d8_6) (fun _ _ => ⟨rfl, e1, (by decide : 1 + 0 ≤ _), (by decide : 4 + 0 ≤ _)⟩)
  dsimp only [Pt.U, Pt.locs, Pt.cells, Pt.slots] at X6 l6 y6 z6 st6 hQ6
  subst l6 y6 z6
  obtain ⟨rfl, Nq6, eh6⟩ := hQ6
  have N6 := Fr.app N0 Nq6
  obtain ⟨_, _, ⟨T10, L10, k10, n10⟩, -, X10, ⟨Lc10, hQ10, l10, y10, z10⟩, st10⟩ := X6.specialBack hx (y := (⟨"java/util/ImmutableCollections$ListItr", "<init>", "(Ljava/util/List;I)V"⟩ : MethodName)) rfl hown (mvT hZ (tw hw (i := 67) rfl)) (mvT hZ (tw hw (i := 68) rfl)) (mvT hZ (tw hw (i := 70) rfl)) (by decide) (backOf (W := 1) (rm10 l Z a0 hw [] b1 oa xn .null (.int (0 : Int32)) (.int (0 : Int32)) (.int (0 : Int32)) h1 n0 sz1 A1 f2 f3 f4 f5 ge_b1) hZ (tw hw (i := 70) rfl) (tw hw (i := 57) rfl) (by decide) (by decide)) (g := (mkF m 9 #[rv oa] [(.int xn), (.ref oa), (.ref b1), (.ref b1)])) rfl (by rw [hml]; rfl) (Steps.refl _) (a := b1) (argsL := [(.ref oa), (.int xn)]) (rest := [(.ref b1)]) (lenOf pd_2 rfl) rfl (by show 2 * 0 + _ ≤ _; exact Nat.le_of_eq rfl) (hb hby d8_9) (fun _ _ => ⟨rfl, eh6, (by decide : 1 + 0 ≤ _), (by decide : 4 + 0 ≤ _)⟩)
  dsimp only [Pt.U, Pt.locs, Pt.cells, Pt.slots] at X10 l10 y10 z10 st10 hQ10
  subst l10 y10 z10
  obtain ⟨rfl, Nq10, Kc10, Fs_10, Fc_10⟩ := hQ10
  have N10 := Fr.app N6 Nq10
  have K10 : Keep h0 T10.heap [] := K1.trans Kc10 (allS (Or.inr sz_b1) all0)
  have sz10 : n0 ≤ T10.heap.size := Nat.le_trans sz1 Kc10.1
  have pre11 : ∀ t, own_K p e below m T10 12 #[rv oa] [(.ref b1)] t → G t := by
    intro t k
    refine pre0 t ?_
    show own_K p e below m s₁ 0 #[rv oa] [] _
    refine st1 _ ?_
    show own_K p e below m T1 3 #[rv oa] [(.ref b1)] _
    refine XS.dup X1.here hx rfl (hb hby d8_3) rfl rfl ?_
    show own_K p e below m T1 4 #[rv oa] [(.ref b1), (.ref b1)] _
    refine XS.aloadN X1.here hx rfl (hb hby d8_4) rfl rfl ?_
    show own_K p e below m T1 5 #[rv oa] [(.ref oa), (.ref b1), (.ref b1)] _
    refine XS.aloadN X1.here hx rfl (hb hby d8_5) rfl rfl ?_
    show own_K p e below m T1 6 #[rv oa] [(.ref oa), (.ref oa), (.ref b1), (.ref b1)] _
    refine st6.trans ?_
    show own_K p e below m T6 9 #[rv oa] [(.int xn), (.ref oa), (.ref b1), (.ref b1)] _
    refine st10.trans ?_
    exact k
  have f12 : Exa Z T10.heap b1 "java/util/ImmutableCollections$ListItr" := (A1.keep Kc10)
  obtain ⟨fs, hr, hrun, hended, hW, hsame⟩ := X10.leave (v := some (.ref b1)) (fun h => by rw [Bd.returns] at h; cases h)
  refine ⟨_, _, hG _ (pre11 _ ?_), hrun, hended, _, _, rfl, ?_, ⟨_, rfl⟩, hW, hsame.mono (by decide) (by decide)⟩
  · show own_K p e below m T10 12 #[rv oa] [(.ref b1)] _
    exact retOut X10 hx Bd.returns rfl (Or.inr (Or.inr (Or.inr (Or.inr ⟨rfl, rfl, rfl⟩)))) (hb hby d8_12) hr
  · show Q8 Z oa oe rk xn vs dv h0 n0 _ T10.heap _
    exact ⟨b1, rfl, N10, K10, sz_b1, f12, Fs_10, Fc_10⟩

theorem d11_0 : decode jdk_53_method_3_code 0 = .ok (.aload_n 0, 1) := by decide +kernel
theorem d11_1 : decode jdk_53_method_3_code 1 = .ok (.getfield 17, 3) := by decide +kernel
theorem d11_4 : decode jdk_53_method_3_code 4 = .ok (.aload_n 0, 1) := by decide +kernel
theorem d11_5 : decode jdk_53_method_3_code 5 = .ok (.getfield 13, 3) := by decide +kernel
theorem d11_8 : decode jdk_53_method_3_code 8 = .ok (.if_icmp .eq 7, 3) := by decide +kernel
theorem d11_15 : decode jdk_53_method_3_code 15 = .ok (.iconst 0, 1) := by decide +kernel
theorem d11_16 : decode jdk_53_method_3_code 16 = .ok (.ireturn, 1) := by decide +kernel
theorem d11_11 : decode jdk_53_method_3_code 11 = .ok (.iconst 1, 1) := by decide +kernel
theorem d11_12 : decode jdk_53_method_3_code 12 = .ok (.goto 4, 3) := by decide +kernel
theorem ef_11 (m : MethodId) (x0 : Addr) : entryFrame m #[(.ref x0)] 1 = mkF m 0 #[rv x0] [] := by first | (simp [entryFrame, mkF, argsToLocals, Value.category]; done) | rfl
def Q11 (Z : State) (oa : Addr) (xc : Int32) (xs : Int32) (h0 : Heap) (n0 : Nat) (rv_ : Option Value) (h_ : Heap) (L_ : List Loc) : Prop := rv_ = some (.int (if xc = xs then (0 : Int32) else (1 : Int32))) ∧ Fr n0 L_ ∧ h_ = h0
set_option maxRecDepth 65536 in
set_option maxHeartbeats 40000000 in
theorem rm11 (l : Launch) (Z : State) (a0 : Array Value) (hw : ∀ d ∈ tables_1, d.before a0 Z = true) (ws : List Jvm.Cond) (oa : Addr) (xc : Int32) (xs : Int32) (h0 : Heap) (n0 : Nat) (Z0 : n0 ≤ h0.size) (Fc : Fld Z h0 oa "java/util/ImmutableCollections$ListItr" "cursor" "I" (.int xc)) (Fs : Fld Z h0 oa "java/util/ImmutableCollections$ListItr" "size" "I" (.int xs)) :
    MetFree l (⟨"java/util/ImmutableCollections$ListItr", "hasNext", "()Z"⟩ : MethodName) (head1 (Jvm.Cond.code (⟨"java/util/ImmutableCollections$ListItr", "hasNext", "()Z"⟩ : MethodName) jdk_53_method_3_code 1 (some .boolean) :: ws) ({ frames := 0, cells := 0, slots := 0, locals := 0 } : Room)) (fun a U => a = #[(.ref oa)] ∧ Z.Warmed39 U.vm ∧ U.heap = h0) (fun _ _ _ _ _ => True) (fun _ U o U' => ∃ v L, o = .returned v ∧ Q11 Z oa xc xs h0 n0 v U'.heap L ∧ FrameEnd U o U' L ({ frames := 0, cells := 0, slots := 0, locals := 0 } : Room).cells ({ frames := 0, cells := 0, slots := 0, locals := 0 } : Room).slots) := by
  refine MetFree.of_bodySF (plainFor_of_name pn_4) hisR ?_
  intro p e s m args below meth c s₁ Bd hml0 hP hK
  obtain ⟨rfl, hZ, hh⟩ := hP
  have hx := Bd.exec
  have hby := Bd.bytes
  have hml : c.maxLocals = 1 := hml0
  have hown : s.vm.findClass "java/util/ImmutableCollections$ListItr" = some m.cls := findClass_of_methodNamed Bd.named
  have hnm := (name_of_methodNamed Bd.named Bd.method).1
  have X0 : Stand p l e ({ frames := 0, cells := 0, slots := 0, locals := 0 } : Room) s m #[(.ref oa)] below meth c s₁ [] 0 0 := Stand.of_body Bd
  have e0 : s₁.heap = h0 := by rw [← hh, Bd.state]; rfl
  have N0 := Fr.nil n0
  obtain ⟨G, hG, pre0⟩ : ∃ G : State → Prop, (∀ t, G t → Steps p.tables e below (s₁.setTop (entryFrame m #[(.ref oa)] 1)) t) ∧ ∀ t, own_K p e below m s₁ 0 #[rv oa] [] t → G t := ⟨fun t => Steps p.tables e below (s₁.setTop (entryFrame m #[(.ref oa)] 1)) t, fun _ k => k, fun t k => castTop (ef_11 m oa) k⟩
  obtain ⟨T1, X1, e1, st1⟩ := getF X0 hx hZ hown (host := "") (Or.inl (tw hw (i := 76) rfl)) Via.refl e0 Fc (g := (mkF m 1 #[rv oa] [(.ref oa)])) rfl rfl (hb hby d11_1)
  obtain ⟨T2, X2, e2, st2⟩ := getF X1 hx hZ hown (host := "") (Or.inl (tw hw (i := 74) rfl)) Via.refl e1 Fs (g := (mkF m 5 #[rv oa] [(.ref oa), (.int xc)])) rfl rfl (hb hby d11_5)
  have pre3 : ∀ t, own_K p e below m T2 8 #[rv oa] [(.int xs), (.int xc)] t → G t := by
    intro t k
    refine pre0 t ?_
    show own_K p e below m s₁ 0 #[rv oa] [] _
    refine XS.aloadN X0.here hx rfl (hb hby d11_0) rfl rfl ?_
    show own_K p e below m s₁ 1 #[rv oa] [(.ref oa)] _
    refine st1 _ ?_
    show own_K p e below m T1 4 #[rv oa] [(.int xc)] _
    refine XS.aloadN X1.here hx rfl (hb hby d11_4) rfl rfl ?_
    show own_K p e below m T1 5 #[rv oa] [(.ref oa), (.int xc)] _
    refine st2 _ ?_
    exact k
  by_cases hc8_4 : xc = xs
  · have pre5 : ∀ t, own_K p e below m T2 16 #[rv oa] [(.int (0 : Int32))] t → G t := by
      intro t k
      refine pre3 t ?_
      show own_K p e below m T2 8 #[rv oa] [(.int xs), (.int xc)] _
      refine XS.icmpYes X2.here hx rfl (pc0 := 8) (pc' := 15) rfl (hb hby d11_8) rfl (teq hc8_4).1 (by decide) (by decide) ?_
      show own_K p e below m T2 15 #[rv oa] [] _
      refine XS.iconst X2.here hx rfl (hb hby d11_15) ?_
      exact k
    obtain ⟨fs, hr, hrun, hended, hW, hsame⟩ := X2.leave (v := some (.int (0 : Int32))) (fun h => by rw [Bd.returns] at h; cases h)
    refine ⟨_, _, hG _ (pre5 _ ?_), hrun, hended, _, _, rfl, ?_, ⟨_, rfl⟩, hW, hsame.mono (by decide) (by decide)⟩
    · show own_K p e below m T2 16 #[rv oa] [(.int (0 : Int32))] _
      exact retN X2 hx (t := .boolean) Bd.returns (by simp) (hb hby d11_16) hr
    · show Q11 Z oa xc xs h0 n0 _ T2.heap _
      rw [e2]
      exact ⟨(by simp only [if_pos hc8_4]), N0, rfl⟩
  · have pre6 : ∀ t, own_K p e below m T2 16 #[rv oa] [(.int (1 : Int32))] t → G t := by
      intro t k
      refine pre3 t ?_
      show own_K p e below m T2 8 #[rv oa] [(.int xs), (.int xc)] _
      refine XS.icmpNo X2.here hx rfl (hb hby d11_8) rfl (feq hc8_4).1 ?_
      show own_K p e below m T2 11 #[rv oa] [] _
      refine XS.iconst X2.here hx rfl (hb hby d11_11) ?_
      show own_K p e below m T2 12 #[rv oa] [(.int (1 : Int32))] _
      refine XS.goto X2.here hx rfl (pc0 := 12) (pc' := 16) rfl (hb hby d11_12) (by decide) (by decide) ?_
      exact k
    obtain ⟨fs, hr, hrun, hended, hW, hsame⟩ := X2.leave (v := some (.int (1 : Int32))) (fun h => by rw [Bd.returns] at h; cases h)
    refine ⟨_, _, hG _ (pre6 _ ?_), hrun, hended, _, _, rfl, ?_, ⟨_, rfl⟩, hW, hsame.mono (by decide) (by decide)⟩
    · show own_K p e below m T2 16 #[rv oa] [(.int (1 : Int32))] _
      exact retN X2 hx (t := .boolean) Bd.returns (by simp) (hb hby d11_16) hr
    · show Q11 Z oa xc xs h0 n0 _ T2.heap _
      rw [e2]
      exact ⟨(by simp only [if_neg hc8_4]), N0, rfl⟩

theorem d3_0 : decode prog_145_method_1_code 0 = .ok (.aload_n 0, 1) := by decide +kernel
theorem d3_1 : decode prog_145_method_1_code 1 = .ok (.invokespecial 1, 3) := by decide +kernel
theorem pd_3 : parseMethodDescriptor "()V" = some ⟨[], none⟩ := by decide +kernel
theorem d3_4 : decode prog_145_method_1_code 4 = .ok (.aload 4, 2) := by decide +kernel
theorem d3_6 : decode prog_145_method_1_code 6 = .ok (.invokestatic 7, 3) := by decide +kernel
theorem d3_9 : decode prog_145_method_1_code 9 = .ok (.astore 4, 2) := by decide +kernel
theorem d3_11 : decode prog_145_method_1_code 11 = .ok (.aload 5, 2) := by decide +kernel
theorem d3_13 : decode prog_145_method_1_code 13 = .ok (.invokestatic 7, 3) := by decide +kernel
theorem d3_16 : decode prog_145_method_1_code 16 = .ok (.astore 5, 2) := by decide +kernel
theorem d3_18 : decode prog_145_method_1_code 18 = .ok (.lload_n 2, 1) := by decide +kernel
theorem d3_19 : decode prog_145_method_1_code 19 = .ok (.lstore 6, 2) := by decide +kernel
theorem d3_21 : decode prog_145_method_1_code 21 = .ok (.aload 4, 2) := by decide +kernel
theorem d3_23 : decode prog_145_method_1_code 23 = .ok (.invokeinterface 13 1, 5) := by decide +kernel
theorem pd_4 : parseMethodDescriptor "()Ljava/util/Iterator;" = some ⟨[], some (.object "java/util/Iterator")⟩ := by decide +kernel
theorem d3_28 : decode prog_145_method_1_code 28 = .ok (.astore 8, 2) := by decide +kernel
theorem d3_30 : decode prog_145_method_1_code 30 = .ok (.aload 8, 2) := by decide +kernel
theorem d3_32 : decode prog_145_method_1_code 32 = .ok (.invokeinterface 17 1, 5) := by decide +kernel
theorem pd_5 : parseMethodDescriptor "()Z" = some ⟨[], some .boolean⟩ := by decide +kernel
theorem d3_37 : decode prog_145_method_1_code 37 = .ok (.ifCond .eq 29, 3) := by decide +kernel
theorem d3_66 : decode prog_145_method_1_code 66 = .ok (.lload_n 2, 1) := by decide +kernel
theorem d3_67 : decode prog_145_method_1_code 67 = .ok (.lstore 8, 2) := by decide +kernel
theorem d3_69 : decode prog_145_method_1_code 69 = .ok (.aload 5, 2) := by decide +kernel
theorem d3_71 : decode prog_145_method_1_code 71 = .ok (.invokeinterface 13 1, 5) := by decide +kernel
theorem d3_76 : decode prog_145_method_1_code 76 = .ok (.astore 10, 2) := by decide +kernel
theorem d3_78 : decode prog_145_method_1_code 78 = .ok (.aload 10, 2) := by decide +kernel
theorem d3_80 : decode prog_145_method_1_code 80 = .ok (.invokeinterface 17 1, 5) := by decide +kernel
theorem d3_85 : decode prog_145_method_1_code 85 = .ok (.ifCond .eq 29, 3) := by decide +kernel
theorem d3_114 : decode prog_145_method_1_code 114 = .ok (.aload_n 0, 1) := by decide +kernel
theorem d3_115 : decode prog_145_method_1_code 115 = .ok (.aload_n 1, 1) := by decide +kernel
theorem d3_116 : decode prog_145_method_1_code 116 = .ok (.putfield 41, 3) := by decide +kernel
theorem d3_119 : decode prog_145_method_1_code 119 = .ok (.aload_n 0, 1) := by decide +kernel
theorem d3_120 : decode prog_145_method_1_code 120 = .ok (.lload_n 2, 1) := by decide +kernel
theorem d3_121 : decode prog_145_method_1_code 121 = .ok (.putfield 45, 3) := by decide +kernel
theorem d3_124 : decode prog_145_method_1_code 124 = .ok (.aload_n 0, 1) := by decide +kernel
theorem d3_125 : decode prog_145_method_1_code 125 = .ok (.aload 4, 2) := by decide +kernel
theorem d3_127 : decode prog_145_method_1_code 127 = .ok (.putfield 48, 3) := by decide +kernel
theorem d3_130 : decode prog_145_method_1_code 130 = .ok (.aload_n 0, 1) := by decide +kernel
theorem d3_131 : decode prog_145_method_1_code 131 = .ok (.aload 5, 2) := by decide +kernel
theorem d3_133 : decode prog_145_method_1_code 133 = .ok (.putfield 52, 3) := by decide +kernel
theorem d3_136 : decode prog_145_method_1_code 136 = .ok (.return_, 1) := by decide +kernel
theorem pn_6 : plainName "evenkeel/model/CommittedOffset" = true := by first | (simp [plainName, overriddenIn]; done) | decide +kernel
theorem ef_3 (m : MethodId) (x0 : Addr) (x2 : Int64) (x3 : Addr) (x4 : Addr) : entryFrame m #[(.ref x0), .null, (.long x2), (.ref x3), (.ref x4)] 12 = mkF m 0 #[rv x0, .val .null, lv x2, .second, rv x3, rv x4, .unset, .unset, .unset, .unset, .unset, .unset] [] := by first | (simp [entryFrame, mkF, argsToLocals, Value.category]; done) | rfl
def Q3 (Z : State) (oa : Addr) (qn : Int64) (la : Addr) (lb : Addr) (u0 : Value) (u1 : Value) (u2 : Value) (u3 : Value) (ea : Addr) (ka : ClassId) (eb : Addr) (kb : ClassId) (h0 : Heap) (n0 : Nat) (rv_ : Option Value) (h_ : Heap) (L_ : List Loc) : Prop := rv_ = none ∧ Fr n0 L_ ∧ Keep h0 h_ [oa] ∧ Fld Z h_ oa "evenkeel/model/CommittedOffset" "next" "J" (.long qn) ∧ Fld Z h_ oa "evenkeel/model/CommittedOffset" "ahead" "Ljava/util/List;" (.ref la) ∧ Fld Z h_ oa "evenkeel/model/CommittedOffset" "failed" "Ljava/util/List;" (.ref lb)
set_option maxRecDepth 65536 in
set_option maxHeartbeats 40000000 in
theorem rm3 (l : Launch) (Z : State) (a0 : Array Value) (hw : ∀ d ∈ tables_1, d.before a0 Z = true) (ws : List Jvm.Cond) (oa : Addr) (qn : Int64) (la : Addr) (lb : Addr) (u0 : Value) (u1 : Value) (u2 : Value) (u3 : Value) (ea : Addr) (ka : ClassId) (eb : Addr) (kb : ClassId) (h0 : Heap) (n0 : Nat) (Z0 : n0 ≤ h0.size) (E_ : Exa Z h0 oa "evenkeel/model/CommittedOffset") (F0 : Fld Z h0 oa "evenkeel/model/CommittedOffset" "queue" "Levenkeel/model/TopicQueue;" u0) (F1 : Fld Z h0 oa "evenkeel/model/CommittedOffset" "next" "J" u1) (F2 : Fld Z h0 oa "evenkeel/model/CommittedOffset" "ahead" "Ljava/util/List;" u2) (F3 : Fld Z h0 oa "evenkeel/model/CommittedOffset" "failed" "Ljava/util/List;" u3) (g_ : n0 ≤ oa) (Ela : Exa Z h0 la "java/util/ImmutableCollections$ListN") (Ala : Fld Z h0 la "java/util/ImmutableCollections$ListN" "allowNulls" "Z" (.int (0 : Int32))) (Fla : Fld Z h0 la "java/util/ImmutableCollections$ListN" "elements" "[Ljava/lang/Object;" (.ref ea)) (Vla : Arv Z h0 ea ka (.object "java/lang/Object") (0 : Int32) [] .null) (Elb : Exa Z h0 lb "java/util/ImmutableCollections$ListN") (Alb : Fld Z h0 lb "java/util/ImmutableCollections$ListN" "allowNulls" "Z" (.int (0 : Int32))) (Flb : Fld Z h0 lb "java/util/ImmutableCollections$ListN" "elements" "[Ljava/lang/Object;" (.ref eb)) (Vlb : Arv Z h0 eb kb (.object "java/lang/Object") (0 : Int32) [] .null) :
    MetFree l (⟨"evenkeel/model/CommittedOffset", "<init>", "(Levenkeel/model/TopicQueue;JLjava/util/List;Ljava/util/List;)V"⟩ : MethodName) (head1 (Jvm.Cond.code (⟨"evenkeel/model/CommittedOffset", "<init>", "(Levenkeel/model/TopicQueue;JLjava/util/List;Ljava/util/List;)V"⟩ : MethodName) prog_145_method_1_code 12 none :: ws) ({ frames := 3, cells := 2, slots := 8, locals := 39 } : Room)) (fun a U => a = #[(.ref oa), .null, (.long qn), (.ref la), (.ref lb)] ∧ Z.Warmed39 U.vm ∧ U.heap = h0) (fun _ _ _ _ _ => True) (fun _ U o U' => ∃ v L, o = .returned v ∧ Q3 Z oa qn la lb u0 u1 u2 u3 ea ka eb kb h0 n0 v U'.heap L ∧ FrameEnd U o U' L ({ frames := 3, cells := 2, slots := 8, locals := 39 } : Room).cells ({ frames := 3, cells := 2, slots := 8, locals := 39 } : Room).slots) := by
  refine MetFree.of_bodySF (plainFor_of_name pn_6) hisR ?_
  intro p e s m args below meth c s₁ Bd hml0 hP hK
  obtain ⟨rfl, hZ, hh⟩ := hP
  have hx := Bd.exec
  have hby := Bd.bytes
  have hml : c.maxLocals = 12 := hml0
  have hown : s.vm.findClass "evenkeel/model/CommittedOffset" = some m.cls := findClass_of_methodNamed Bd.named
  have hnm := (name_of_methodNamed Bd.named Bd.method).1
  have X0 : Stand p l e ({ frames := 3, cells := 2, slots := 8, locals := 39 } : Room) s m #[(.ref oa), .null, (.long qn), (.ref la), (.ref lb)] below meth c s₁ [] 0 0 := Stand.of_body Bd
  have e0 : s₁.heap = h0 := by rw [← hh, Bd.state]; rfl
  have N0 := Fr.nil n0
  obtain ⟨G, hG, pre0⟩ : ∃ G : State → Prop, (∀ t, G t → Steps p.tables e below (s₁.setTop (entryFrame m #[(.ref oa), .null, (.long qn), (.ref la), (.ref lb)] 12)) t) ∧ ∀ t, own_K p e below m s₁ 0 #[rv oa, .val .null, lv qn, .second, rv la, rv lb, .unset, .unset, .unset, .unset, .unset, .unset] [] t → G t := ⟨fun t => Steps p.tables e below (s₁.setTop (entryFrame m #[(.ref oa), .null, (.long qn), (.ref la), (.ref lb)] 12)) t, fun _ k => k, fun t k => castTop (ef_3 m oa qn la lb) k⟩
  obtain ⟨_, _, ⟨T1, L1, k1, n1⟩, -, X1, ⟨Lc1, hQ1, l1, y1, z1⟩, st1⟩ := X0.specialBack hx (y := (⟨"java/lang/Record", "<init>", "()V"⟩ : MethodName)) rfl hown (mvT hZ (tw hw (i := 20) rfl)) (mvT hZ (tw hw (i := 21) rfl)) (mvT hZ (tw hw (i := 24) rfl)) (by decide) (backOf (W := 0) (rm4 l Z a0 hw [] oa h0 n0 Z0 ) hZ (tw hw (i := 24) rfl) (tw hw (i := 23) rfl) (by decide) (by decide)) (g := (mkF m 1 #[rv oa, .val .null, lv qn, .second, rv la, rv lb, .unset, .unset, .unset, .unset, .unset, .unset] [(.ref oa)])) rfl (by rw [hml]; rfl) (Steps.refl _) (a := oa) (argsL := []) (rest := []) (lenOf pd_3 rfl) rfl (by show 2 * 0 + _ ≤ _; exact Nat.le_of_eq rfl) (hb hby d3_1) (fun _ _ => ⟨rfl, e0, (by decide : 0 + 0 ≤ _), (by decide : 0 + 0 ≤ _)⟩)
  dsimp only [Pt.U, Pt.locs, Pt.cells, Pt.slots] at X1 l1 y1 z1 st1 hQ1
  subst l1 y1 z1
  obtain ⟨rfl, Nq1, eh1⟩ := hQ1
  have N1 := Fr.app N0 Nq1
  obtain ⟨_, _, ⟨T2, L2, k2, n2⟩, -, X2, ⟨Lc2, hQ2, l2, y2, z2⟩, st2⟩ := Jvm.LawKit.callS X1 hx (y := (⟨"java/util/List", "copyOf", "(Ljava/util/Collection;)Ljava/util/List;"⟩ : MethodName)) hown (mvT hZ (tw hw (i := 28) rfl)) (mvT hZ (tw hw (i := 29) rfl)) (mvT hZ (tw hw (i := 13) rfl)) (mvT hZ (tw hw (i := 30) rfl)) (by decide) (backOf (W := 0) (rm6 l Z a0 hw [] la h0 n0 Z0 Ela Ala) hZ (tw hw (i := 30) rfl) (tw hw (i := 13) rfl) (by decide) (by decide)) (g := (mkF m 6 #[rv oa, .val .null, lv qn, .second, rv la, rv lb, .unset, .unset, .unset, .unset, .unset, .unset] [(.ref la)])) rfl (by rw [hml]; rfl) (argsL := [(.ref la)]) (rest := []) (lenOf pd_0 rfl) rfl (by show 2 * 0 + _ ≤ _; exact Nat.le_of_eq rfl) (hb hby d3_6) (fun _ _ => ⟨rfl, eh1, (by decide : 0 + 0 ≤ _), (by decide : 0 + 0 ≤ _)⟩)
  dsimp only [Pt.U, Pt.locs, Pt.cells, Pt.slots] at X2 l2 y2 z2 st2 hQ2
  subst l2 y2 z2
  obtain ⟨rfl, Nq2, eh2⟩ := hQ2
  have N2 := Fr.app N1 Nq2
  obtain ⟨_, _, ⟨T3, L3, k3, n3⟩, -, X3, ⟨Lc3, hQ3, l3, y3, z3⟩, st3⟩ := Jvm.LawKit.callS X2 hx (y := (⟨"java/util/List", "copyOf", "(Ljava/util/Collection;)Ljava/util/List;"⟩ : MethodName)) hown (mvT hZ (tw hw (i := 28) rfl)) (mvT hZ (tw hw (i := 29) rfl)) (mvT hZ (tw hw (i := 13) rfl)) (mvT hZ (tw hw (i := 30) rfl)) (by decide) (backOf (W := 0) (rm6 l Z a0 hw [] lb h0 n0 Z0 Elb Alb) hZ (tw hw (i := 30) rfl) (tw hw (i := 13) rfl) (by decide) (by decide)) (g := (mkF m 13 #[rv oa, .val .null, lv qn, .second, rv la, rv lb, .unset, .unset, .unset, .unset, .unset, .unset] [(.ref lb)])) rfl (by rw [hml]; rfl) (argsL := [(.ref lb)]) (rest := []) (lenOf pd_0 rfl) rfl (by show 2 * 0 + _ ≤ _; exact Nat.le_of_eq rfl) (hb hby d3_13) (fun _ _ => ⟨rfl, eh2, (by decide : 0 + 0 ≤ _), (by decide : 0 + 0 ≤ _)⟩)
  dsimp only [Pt.U, Pt.locs, Pt.cells, Pt.slots] at X3 l3 y3 z3 st3 hQ3
  subst l3 y3 z3
  obtain ⟨rfl, Nq3, eh3⟩ := hQ3
  have N3 := Fr.app N2 Nq3
  obtain ⟨cq4, kq4, q4a, q4b, q4c⟩ := isOf hZ eh3 Ela
  obtain ⟨_, _, ⟨T4, L4, k4, n4⟩, -, X4, ⟨Lc4, hQ4, l4, y4, z4⟩, st4⟩ := X3.interfaceBack hx (xi := (⟨"java/util/List", "iterator", "()Ljava/util/Iterator;"⟩ : MethodName)) (y := (⟨"java/util/ImmutableCollections$AbstractImmutableList", "iterator", "()Ljava/util/Iterator;"⟩ : MethodName)) hown (mvT hZ (tw hw (i := 46) rfl)) (mvT hZ (tw hw (i := 47) rfl)) (mvT hZ (tw hw (i := 48) rfl)) (mvT hZ (tw hw (i := 49) rfl)) (mvT hZ (tw hw (i := 50) rfl)) (mvT hZ (tw hw (i := 51) rfl)) (mvT hZ (tw hw (i := 52) rfl)) (mvT hZ (tw hw (i := 45) rfl)) (by decide) (backOf (W := 0) (rm8 l Z a0 hw [] la ea ka (0 : Int32) [] .null h0 n0 Z0 Ela Fla Vla) hZ (tw hw (i := 54) rfl) (tw hw (i := 53) rfl) (by decide) (by decide)) q4a q4b q4c (g := (mkF m 23 #[rv oa, .val .null, lv qn, .second, rv la, rv lb, lv qn, .second, .unset, .unset, .unset, .unset] [(.ref la)])) rfl (by rw [hml]; rfl) (Steps.refl _) (argsL := []) (rest := []) (lenOf pd_4 rfl) rfl (by show 2 * 0 + _ ≤ _; exact Nat.le_of_eq rfl) (hb hby d3_23) (fun _ _ => ⟨rfl, eh3, (by decide : 0 + 1 ≤ _), (by decide : 0 + 4 ≤ _)⟩)
  dsimp only [Pt.U, Pt.locs, Pt.cells, Pt.slots] at X4 l4 y4 z4 st4 hQ4
  subst l4 y4 z4
  obtain ⟨ri4, rfl, Nq4, Kc4, gt_4, Ei_4, Fs_4, Fc_4⟩ := hQ4
  have N4 := Fr.app N3 Nq4
  have K4 : Keep h0 T4.heap [oa] := (Keep.refl h0 [oa]).trans Kc4 all0
  have sz4 : n0 ≤ T4.heap.size := Nat.le_trans Z0 Kc4.1
  have ge_ri4 : n0 ≤ ri4 := Nat.le_trans Z0 gt_4
  have sz_ri4 : h0.size ≤ ri4 := Nat.le_trans (Keep.refl h0 [oa]).1 gt_4
  have ne_oa_ri4 : oa ≠ ri4 := Nat.ne_of_lt (Nat.lt_of_lt_of_le E_.lt gt_4)
  have ne_la_ri4 : la ≠ ri4 := Nat.ne_of_lt (Nat.lt_of_lt_of_le Ela.lt gt_4)
  have ne_ea_ri4 : ea ≠ ri4 := Nat.ne_of_lt (Nat.lt_of_lt_of_le Vla.lt gt_4)
  have ne_lb_ri4 : lb ≠ ri4 := Nat.ne_of_lt (Nat.lt_of_lt_of_le Elb.lt gt_4)
  have ne_eb_ri4 : eb ≠ ri4 := Nat.ne_of_lt (Nat.lt_of_lt_of_le Vlb.lt gt_4)
  obtain ⟨cq5, kq5, q5a, q5b, q5c⟩ := isOf hZ rfl Ei_4
  obtain ⟨_, _, ⟨T5, L5, k5, n5⟩, -, X5, ⟨Lc5, hQ5, l5, y5, z5⟩, st5⟩ := X4.interfaceBack hx (xi := (⟨"java/util/Iterator", "hasNext", "()Z"⟩ : MethodName)) (y := (⟨"java/util/ImmutableCollections$ListItr", "hasNext", "()Z"⟩ : MethodName)) hown (mvT hZ (tw hw (i := 80) rfl)) (mvT hZ (tw hw (i := 81) rfl)) (mvT hZ (tw hw (i := 82) rfl)) (mvT hZ (tw hw (i := 83) rfl)) (mvT hZ (tw hw (i := 84) rfl)) (mvT hZ (tw hw (i := 85) rfl)) (mvT hZ (tw hw (i := 86) rfl)) (mvT hZ (tw hw (i := 87) rfl)) (by decide) (backOf (W := 0) (rm11 l Z a0 hw [] ri4 (0 : Int32) (0 : Int32) T4.heap n0 sz4 Fc_4 Fs_4) hZ (tw hw (i := 88) rfl) (tw hw (i := 57) rfl) (by decide) (by decide)) q5a q5b q5c (g := (mkF m 32 #[rv oa, .val .null, lv qn, .second, rv la, rv lb, lv qn, .second, rv ri4, .unset, .unset, .unset] [(.ref ri4)])) rfl (by rw [hml]; rfl) (Steps.refl _) (argsL := []) (rest := []) (lenOf pd_5 rfl) rfl (by show 2 * 0 + _ ≤ _; exact Nat.le_of_eq rfl) (hb hby d3_32) (fun _ _ => ⟨rfl, rfl, (by decide : 1 + 0 ≤ _), (by decide : 4 + 0 ≤ _)⟩)
  dsimp only [Pt.U, Pt.locs, Pt.cells, Pt.slots] at X5 l5 y5 z5 st5 hQ5
  subst l5 y5 z5
  obtain ⟨rfl, Nq5, eh5⟩ := hQ5
  have N5 := Fr.app N4 Nq5
  have f7 : Exa Z T4.heap lb "java/util/ImmutableCollections$ListN" := (Elb.keep Kc4)
  have f8 : Fld Z T4.heap lb "java/util/ImmutableCollections$ListN" "elements" "[Ljava/lang/Object;" (.ref eb) := (Flb.keep Kc4 nin0)
  have f9 : Arv Z T4.heap eb kb (.object "java/lang/Object") (0 : Int32) [] .null := (Vlb.keep Kc4 nin0)
  have f10 : Exa Z T4.heap oa "evenkeel/model/CommittedOffset" := (E_.keep Kc4)
  have f11 : Exa Z T4.heap la "java/util/ImmutableCollections$ListN" := (Ela.keep Kc4)
  have f12 : Arv Z T4.heap ea ka (.object "java/lang/Object") (0 : Int32) [] .null := (Vla.keep Kc4 nin0)
  obtain ⟨cq6, kq6, q6a, q6b, q6c⟩ := isOf hZ eh5 f7
  obtain ⟨_, _, ⟨T6, L6, k6, n6⟩, -, X6, ⟨Lc6, hQ6, l6, y6, z6⟩, st6⟩ := X5.interfaceBack hx (xi := (⟨"java/util/List", "iterator", "()Ljava/util/Iterator;"⟩ : MethodName)) (y := (⟨"java/util/ImmutableCollections$AbstractImmutableList", "iterator", "()Ljava/util/Iterator;"⟩ : MethodName)) hown (mvT hZ (tw hw (i := 46) rfl)) (mvT hZ (tw hw (i := 47) rfl)) (mvT hZ (tw hw (i := 48) rfl)) (mvT hZ (tw hw (i := 49) rfl)) (mvT hZ (tw hw (i := 50) rfl)) (mvT hZ (tw hw (i := 51) rfl)) (mvT hZ (tw hw (i := 52) rfl)) (mvT hZ (tw hw (i := 45) rfl)) (by decide) (backOf (W := 0) (rm8 l Z a0 hw [] lb eb kb (0 : Int32) [] .null T4.heap n0 sz4 f7 f8 f9) hZ (tw hw (i := 54) rfl) (tw hw (i := 53) rfl) (by decide) (by decide)) q6a q6b q6c (g := (mkF m 71 #[rv oa, .val .null, lv qn, .second, rv la, rv lb, lv qn, .second, lv qn, .second, .unset, .unset] [(.ref lb)])) rfl (by rw [hml]; rfl) (Steps.refl _) (argsL := []) (rest := []) (lenOf pd_4 rfl) rfl (by show 2 * 0 + _ ≤ _; exact Nat.le_of_eq rfl) (hb hby d3_71) (fun _ _ => ⟨rfl, eh5, (by decide : 1 + 1 ≤ _), (by decide : 4 + 4 ≤ _)⟩)
  dsimp only [Pt.U, Pt.locs, Pt.cells, Pt.slots] at X6 l6 y6 z6 st6 hQ6
  subst l6 y6 z6
  obtain ⟨ri6, rfl, Nq6, Kc6, gt_6, Ei_6, Fs_6, Fc_6⟩ := hQ6
  have N6 := Fr.app N5 Nq6
  have K6 : Keep h0 T6.heap [oa] := K4.trans Kc6 all0
  have sz6 : n0 ≤ T6.heap.size := Nat.le_trans sz4 Kc6.1
  have ge_ri6 : n0 ≤ ri6 := Nat.le_trans sz4 gt_6
  have sz_ri6 : h0.size ≤ ri6 := Nat.le_trans K4.1 gt_6
  have ne_oa_ri6 : oa ≠ ri6 := Nat.ne_of_lt (Nat.lt_of_lt_of_le f10.lt gt_6)
  have ne_la_ri6 : la ≠ ri6 := Nat.ne_of_lt (Nat.lt_of_lt_of_le f11.lt gt_6)
  have ne_ea_ri6 : ea ≠ ri6 := Nat.ne_of_lt (Nat.lt_of_lt_of_le f12.lt gt_6)
  have ne_lb_ri6 : lb ≠ ri6 := Nat.ne_of_lt (Nat.lt_of_lt_of_le f7.lt gt_6)
  have ne_eb_ri6 : eb ≠ ri6 := Nat.ne_of_lt (Nat.lt_of_lt_of_le f9.lt gt_6)
  have ne_ri4_ri6 : ri4 ≠ ri6 := Nat.ne_of_lt (Nat.lt_of_lt_of_le Ei_4.lt gt_6)
  obtain ⟨cq13, kq13, q13a, q13b, q13c⟩ := isOf hZ rfl Ei_6
  obtain ⟨_, _, ⟨T13, L13, k13, n13⟩, -, X13, ⟨Lc13, hQ13, l13, y13, z13⟩, st13⟩ := X6.interfaceBack hx (xi := (⟨"java/util/Iterator", "hasNext", "()Z"⟩ : MethodName)) (y := (⟨"java/util/ImmutableCollections$ListItr", "hasNext", "()Z"⟩ : MethodName)) hown (mvT hZ (tw hw (i := 80) rfl)) (mvT hZ (tw hw (i := 81) rfl)) (mvT hZ (tw hw (i := 82) rfl)) (mvT hZ (tw hw (i := 83) rfl)) (mvT hZ (tw hw (i := 84) rfl)) (mvT hZ (tw hw (i := 85) rfl)) (mvT hZ (tw hw (i := 86) rfl)) (mvT hZ (tw hw (i := 87) rfl)) (by decide) (backOf (W := 0) (rm11 l Z a0 hw [] ri6 (0 : Int32) (0 : Int32) T6.heap n0 sz6 Fc_6 Fs_6) hZ (tw hw (i := 88) rfl) (tw hw (i := 57) rfl) (by decide) (by decide)) q13a q13b q13c (g := (mkF m 80 #[rv oa, .val .null, lv qn, .second, rv la, rv lb, lv qn, .second, lv qn, .second, rv ri6, .unset] [(.ref ri6)])) rfl (by rw [hml]; rfl) (Steps.refl _) (argsL := []) (rest := []) (lenOf pd_5 rfl) rfl (by show 2 * 0 + _ ≤ _; exact Nat.le_of_eq rfl) (hb hby d3_80) (fun _ _ => ⟨rfl, rfl, (by decide : 2 + 0 ≤ _), (by decide : 8 + 0 ≤ _)⟩)
  dsimp only [Pt.U, Pt.locs, Pt.cells, Pt.slots] at X13 l13 y13 z13 st13 hQ13
  subst l13 y13 z13
  obtain ⟨rfl, Nq13, eh13⟩ := hQ13
  have N13 := Fr.app N6 Nq13
  have f15 : Fld Z T6.heap oa "evenkeel/model/CommittedOffset" "queue" "Levenkeel/model/TopicQueue;" u0 := ((F0.keep Kc4 nin0).keep Kc6 nin0)
  have f16 : Exa Z T6.heap oa "evenkeel/model/CommittedOffset" := (f10.keep Kc6)
  obtain ⟨T14, h14, X14, e14, W14, st14⟩ := putF X13 hx hZ hown (host := "") (Or.inl (tw hw (i := 89) rfl)) Via.refl eh13 f15 f16 (Or.inr ⟨(tw hw (i := 90) rfl), rfl, hnm⟩) (tw hw (i := 6) rfl) (ty := (.object "evenkeel/model/TopicQueue")) (by decide) rfl rfl (g := (mkF m 116 #[rv oa, .val .null, lv qn, .second, rv la, rv lb, lv qn, .second, lv qn, .second, rv ri6, .unset] [.null, (.ref oa)])) rfl rfl (hb hby d3_116)
  have f14w := f15.same W14
  have K14 : Keep h0 h14 [oa] := K6.wr W14 (Or.inl (List.mem_of_getElem? (i := 0) rfl))
  have N14 := Fr.snoc X14 N13 g_
  have sz14 : n0 ≤ h14.size := Nat.le_trans sz6 (Keep.of_wr W14).1
  have f18 : Fld Z h14 oa "evenkeel/model/CommittedOffset" "next" "J" u1 := (((F1.keep Kc4 nin0).keep Kc6 nin0).other W14 (Or.inr (slot_ne (Or.inr (tw hw (i := 92) rfl)) (Or.inr (tw hw (i := 90) rfl)) (by decide) (t := .long) (t' := (.object "evenkeel/model/TopicQueue")) (by decide) (by decide))))
  have f19 : Exa Z h14 oa "evenkeel/model/CommittedOffset" := (f16.wr W14)
  obtain ⟨T17, h17, X17, e17, W17, st17⟩ := putF X14 hx hZ hown (host := "") (Or.inl (tw hw (i := 91) rfl)) Via.refl e14 f18 f19 (Or.inr ⟨(tw hw (i := 92) rfl), rfl, hnm⟩) (tw hw (i := 6) rfl) (ty := .long) (by decide) rfl rfl (g := (mkF m 121 #[rv oa, .val .null, lv qn, .second, rv la, rv lb, lv qn, .second, lv qn, .second, rv ri6, .unset] [(.long qn), (.ref oa)])) rfl rfl (hb hby d3_121)
  have f17w := f18.same W17
  have K17 : Keep h0 h17 [oa] := K14.wr W17 (Or.inl (List.mem_of_getElem? (i := 0) rfl))
  have N17 := Fr.snoc X17 N14 g_
  have sz17 : n0 ≤ h17.size := Nat.le_trans sz14 (Keep.of_wr W17).1
  have f21 : Fld Z h17 oa "evenkeel/model/CommittedOffset" "ahead" "Ljava/util/List;" u2 := ((((F2.keep Kc4 nin0).keep Kc6 nin0).other W14 (Or.inr (slot_ne (Or.inr (tw hw (i := 94) rfl)) (Or.inr (tw hw (i := 90) rfl)) (by decide) (t := (.object "java/util/List")) (t' := (.object "evenkeel/model/TopicQueue")) (by decide) (by decide)))).other W17 (Or.inr (slot_ne (Or.inr (tw hw (i := 94) rfl)) (Or.inr (tw hw (i := 92) rfl)) (by decide) (t := (.object "java/util/List")) (t' := .long) (by decide) (by decide))))
  have f22 : Exa Z h17 oa "evenkeel/model/CommittedOffset" := (f19.wr W17)
  obtain ⟨T20, h20, X20, e20, W20, st20⟩ := putF X17 hx hZ hown (host := "") (Or.inl (tw hw (i := 93) rfl)) Via.refl e17 f21 f22 (Or.inr ⟨(tw hw (i := 94) rfl), rfl, hnm⟩) (tw hw (i := 6) rfl) (ty := (.object "java/util/List")) (by decide) rfl rfl (g := (mkF m 127 #[rv oa, .val .null, lv qn, .second, rv la, rv lb, lv qn, .second, lv qn, .second, rv ri6, .unset] [(.ref la), (.ref oa)])) rfl rfl (hb hby d3_127)
  have f20w := f21.same W20
  have K20 : Keep h0 h20 [oa] := K17.wr W20 (Or.inl (List.mem_of_getElem? (i := 0) rfl))
  have N20 := Fr.snoc X20 N17 g_
  have sz20 : n0 ≤ h20.size := Nat.le_trans sz17 (Keep.of_wr W20).1
  have f24 : Fld Z h20 oa "evenkeel/model/CommittedOffset" "failed" "Ljava/util/List;" u3 := (((((F3.keep Kc4 nin0).keep Kc6 nin0).other W14 (Or.inr (slot_ne (Or.inr (tw hw (i := 96) rfl)) (Or.inr (tw hw (i := 90) rfl)) (by decide) (t := (.object "java/util/List")) (t' := (.object "evenkeel/model/TopicQueue")) (by decide) (by decide)))).other W17 (Or.inr (slot_ne (Or.inr (tw hw (i := 96) rfl)) (Or.inr (tw hw (i := 92) rfl)) (by decide) (t := (.object "java/util/List")) (t' := .long) (by decide) (by decide)))).other W20 (Or.inr (slot_ne (Or.inr (tw hw (i := 96) rfl)) (Or.inr (tw hw (i := 94) rfl)) (by decide) (t := (.object "java/util/List")) (t' := (.object "java/util/List")) (by decide) (by decide))))
  have f25 : Exa Z h20 oa "evenkeel/model/CommittedOffset" := (f22.wr W20)
  obtain ⟨T23, h23, X23, e23, W23, st23⟩ := putF X20 hx hZ hown (host := "") (Or.inl (tw hw (i := 95) rfl)) Via.refl e20 f24 f25 (Or.inr ⟨(tw hw (i := 96) rfl), rfl, hnm⟩) (tw hw (i := 6) rfl) (ty := (.object "java/util/List")) (by decide) rfl rfl (g := (mkF m 133 #[rv oa, .val .null, lv qn, .second, rv la, rv lb, lv qn, .second, lv qn, .second, rv ri6, .unset] [(.ref lb), (.ref oa)])) rfl rfl (hb hby d3_133)
  have f23w := f24.same W23
  have K23 : Keep h0 h23 [oa] := K20.wr W23 (Or.inl (List.mem_of_getElem? (i := 0) rfl))
  have N23 := Fr.snoc X23 N20 g_
  have sz23 : n0 ≤ h23.size := Nat.le_trans sz20 (Keep.of_wr W23).1
  have pre26 : ∀ t, own_K p e below m T23 136 #[rv oa, .val .null, lv qn, .second, rv la, rv lb, lv qn, .second, lv qn, .second, rv ri6, .unset] [] t → G t := by
    intro t k
    refine pre0 t ?_
    show own_K p e below m s₁ 0 #[rv oa, .val .null, lv qn, .second, rv la, rv lb, .unset, .unset, .unset, .unset, .unset, .unset] [] _
    refine XS.aloadN X0.here hx rfl (hb hby d3_0) rfl rfl ?_
    show own_K p e below m s₁ 1 #[rv oa, .val .null, lv qn, .second, rv la, rv lb, .unset, .unset, .unset, .unset, .unset, .unset] [(.ref oa)] _
    refine st1.trans ?_
    show own_K p e below m T1 4 #[rv oa, .val .null, lv qn, .second, rv la, rv lb, .unset, .unset, .unset, .unset, .unset, .unset] [] _
    refine XS.aload X1.here hx rfl (hb hby d3_4) rfl rfl ?_
    show own_K p e below m T1 6 #[rv oa, .val .null, lv qn, .second, rv la, rv lb, .unset, .unset, .unset, .unset, .unset, .unset] [(.ref la)] _
    refine st2 _ ?_
    show own_K p e below m T2 9 #[rv oa, .val .null, lv qn, .second, rv la, rv lb, .unset, .unset, .unset, .unset, .unset, .unset] [(.ref la)] _
    refine XS.astore X2.here hx rfl (hb hby d3_9) rfl rfl (l' := #[rv oa, .val .null, lv qn, .second, rv la, rv lb, .unset, .unset, .unset, .unset, .unset, .unset]) rfl ?_
    show own_K p e below m T2 11 #[rv oa, .val .null, lv qn, .second, rv la, rv lb, .unset, .unset, .unset, .unset, .unset, .unset] [] _
    refine XS.aload X2.here hx rfl (hb hby d3_11) rfl rfl ?_
    show own_K p e below m T2 13 #[rv oa, .val .null, lv qn, .second, rv la, rv lb, .unset, .unset, .unset, .unset, .unset, .unset] [(.ref lb)] _
    refine st3 _ ?_
    show own_K p e below m T3 16 #[rv oa, .val .null, lv qn, .second, rv la, rv lb, .unset, .unset, .unset, .unset, .unset, .unset] [(.ref lb)] _
    refine XS.astore X3.here hx rfl (hb hby d3_16) rfl rfl (l' := #[rv oa, .val .null, lv qn, .second, rv la, rv lb, .unset, .unset, .unset, .unset, .unset, .unset]) rfl ?_
    show own_K p e below m T3 18 #[rv oa, .val .null, lv qn, .second, rv la, rv lb, .unset, .unset, .unset, .unset, .unset, .unset] [] _
    refine XS.lloadN X3.here hx rfl (hb hby d3_18) rfl ?_
    show own_K p e below m T3 19 #[rv oa, .val .null, lv qn, .second, rv la, rv lb, .unset, .unset, .unset, .unset, .unset, .unset] [(.long qn)] _
    refine XS.lstore X3.here hx rfl (hb hby d3_19) rfl (l' := #[rv oa, .val .null, lv qn, .second, rv la, rv lb, lv qn, .second, .unset, .unset, .unset, .unset]) rfl ?_
    show own_K p e below m T3 21 #[rv oa, .val .null, lv qn, .second, rv la, rv lb, lv qn, .second, .unset, .unset, .unset, .unset] [] _
    refine XS.aload X3.here hx rfl (hb hby d3_21) rfl rfl ?_
    show own_K p e below m T3 23 #[rv oa, .val .null, lv qn, .second, rv la, rv lb, lv qn, .second, .unset, .unset, .unset, .unset] [(.ref la)] _
    refine st4.trans ?_
    show own_K p e below m T4 28 #[rv oa, .val .null, lv qn, .second, rv la, rv lb, lv qn, .second, .unset, .unset, .unset, .unset] [(.ref ri4)] _
    refine XS.astore X4.here hx rfl (hb hby d3_28) rfl rfl (l' := #[rv oa, .val .null, lv qn, .second, rv la, rv lb, lv qn, .second, rv ri4, .unset, .unset, .unset]) rfl ?_
    show own_K p e below m T4 30 #[rv oa, .val .null, lv qn, .second, rv la, rv lb, lv qn, .second, rv ri4, .unset, .unset, .unset] [] _
    refine XS.aload X4.here hx rfl (hb hby d3_30) rfl rfl ?_
    show own_K p e below m T4 32 #[rv oa, .val .null, lv qn, .second, rv la, rv lb, lv qn, .second, rv ri4, .unset, .unset, .unset] [(.ref ri4)] _
    refine st5.trans ?_
    show own_K p e below m T5 37 #[rv oa, .val .null, lv qn, .second, rv la, rv lb, lv qn, .second, rv ri4, .unset, .unset, .unset] [(.int (if (0 : Int32) = (0 : Int32) then (0 : Int32) else (1 : Int32)))] _
    refine XS.ifYes X5.here hx rfl (pc0 := 37) (pc' := 66) rfl (hb hby d3_37) rfl ((if0 _ _).trans (teq (if_pos rfl)).1) (by decide) (by decide) ?_
    show own_K p e below m T5 66 #[rv oa, .val .null, lv qn, .second, rv la, rv lb, lv qn, .second, rv ri4, .unset, .unset, .unset] [] _
    refine XS.lloadN X5.here hx rfl (hb hby d3_66) rfl ?_
    show own_K p e below m T5 67 #[rv oa, .val .null, lv qn, .second, rv la, rv lb, lv qn, .second, rv ri4, .unset, .unset, .unset] [(.long qn)] _
    refine XS.lstore X5.here hx rfl (hb hby d3_67) rfl (l' := #[rv oa, .val .null, lv qn, .second, rv la, rv lb, lv qn, .second, lv qn, .second, .unset, .unset]) rfl ?_
    show own_K p e below m T5 69 #[rv oa, .val .null, lv qn, .second, rv la, rv lb, lv qn, .second, lv qn, .second, .unset, .unset] [] _
    refine XS.aload X5.here hx rfl (hb hby d3_69) rfl rfl ?_
    show own_K p e below m T5 71 #[rv oa, .val .null, lv qn, .second, rv la, rv lb, lv qn, .second, lv qn, .second, .unset, .unset] [(.ref lb)] _
    refine st6.trans ?_
    show own_K p e below m T6 76 #[rv oa, .val .null, lv qn, .second, rv la, rv lb, lv qn, .second, lv qn, .second, .unset, .unset] [(.ref ri6)] _
    refine XS.astore X6.here hx rfl (hb hby d3_76) rfl rfl (l' := #[rv oa, .val .null, lv qn, .second, rv la, rv lb, lv qn, .second, lv qn, .second, rv ri6, .unset]) rfl ?_
    show own_K p e below m T6 78 #[rv oa, .val .null, lv qn, .second, rv la, rv lb, lv qn, .second, lv qn, .second, rv ri6, .unset] [] _
    refine XS.aload X6.here hx rfl (hb hby d3_78) rfl rfl ?_
    show own_K p e below m T6 80 #[rv oa, .val .null, lv qn, .second, rv la, rv lb, lv qn, .second, lv qn, .second, rv ri6, .unset] [(.ref ri6)] _
    refine st13.trans ?_
    show own_K p e below m T13 85 #[rv oa, .val .null, lv qn, .second, rv la, rv lb, lv qn, .second, lv qn, .second, rv ri6, .unset] [(.int (if (0 : Int32) = (0 : Int32) then (0 : Int32) else (1 : Int32)))] _
    refine XS.ifYes X13.here hx rfl (pc0 := 85) (pc' := 114) rfl (hb hby d3_85) rfl ((if0 _ _).trans (teq (if_pos rfl)).1) (by decide) (by decide) ?_
    show own_K p e below m T13 114 #[rv oa, .val .null, lv qn, .second, rv la, rv lb, lv qn, .second, lv qn, .second, rv ri6, .unset] [] _
    refine XS.aloadN X13.here hx rfl (hb hby d3_114) rfl rfl ?_
    show own_K p e below m T13 115 #[rv oa, .val .null, lv qn, .second, rv la, rv lb, lv qn, .second, lv qn, .second, rv ri6, .unset] [(.ref oa)] _
    refine XS.aloadN X13.here hx rfl (hb hby d3_115) rfl rfl ?_
    show own_K p e below m T13 116 #[rv oa, .val .null, lv qn, .second, rv la, rv lb, lv qn, .second, lv qn, .second, rv ri6, .unset] [.null, (.ref oa)] _
    refine st14 _ ?_
    show own_K p e below m T14 119 #[rv oa, .val .null, lv qn, .second, rv la, rv lb, lv qn, .second, lv qn, .second, rv ri6, .unset] [] _
    refine XS.aloadN X14.here hx rfl (hb hby d3_119) rfl rfl ?_
    show own_K p e below m T14 120 #[rv oa, .val .null, lv qn, .second, rv la, rv lb, lv qn, .second, lv qn, .second, rv ri6, .unset] [(.ref oa)] _
    refine XS.lloadN X14.here hx rfl (hb hby d3_120) rfl ?_
    show own_K p e below m T14 121 #[rv oa, .val .null, lv qn, .second, rv la, rv lb, lv qn, .second, lv qn, .second, rv ri6, .unset] [(.long qn), (.ref oa)] _
    refine st17 _ ?_
    show own_K p e below m T17 124 #[rv oa, .val .null, lv qn, .second, rv la, rv lb, lv qn, .second, lv qn, .second, rv ri6, .unset] [] _
    refine XS.aloadN X17.here hx rfl (hb hby d3_124) rfl rfl ?_
    show own_K p e below m T17 125 #[rv oa, .val .null, lv qn, .second, rv la, rv lb, lv qn, .second, lv qn, .second, rv ri6, .unset] [(.ref oa)] _
    refine XS.aload X17.here hx rfl (hb hby d3_125) rfl rfl ?_
    show own_K p e below m T17 127 #[rv oa, .val .null, lv qn, .second, rv la, rv lb, lv qn, .second, lv qn, .second, rv ri6, .unset] [(.ref la), (.ref oa)] _
    refine st20 _ ?_
    show own_K p e below m T20 130 #[rv oa, .val .null, lv qn, .second, rv la, rv lb, lv qn, .second, lv qn, .second, rv ri6, .unset] [] _
    refine XS.aloadN X20.here hx rfl (hb hby d3_130) rfl rfl ?_
    show own_K p e below m T20 131 #[rv oa, .val .null, lv qn, .second, rv la, rv lb, lv qn, .second, lv qn, .second, rv ri6, .unset] [(.ref oa)] _
    refine XS.aload X20.here hx rfl (hb hby d3_131) rfl rfl ?_
    show own_K p e below m T20 133 #[rv oa, .val .null, lv qn, .second, rv la, rv lb, lv qn, .second, lv qn, .second, rv ri6, .unset] [(.ref lb), (.ref oa)] _
    refine st23 _ ?_
    exact k
  have f27 : Fld Z h23 oa "evenkeel/model/CommittedOffset" "next" "J" (.long qn) := ((f17w.other W20 (Or.inr (slot_ne (Or.inr (tw hw (i := 92) rfl)) (Or.inr (tw hw (i := 94) rfl)) (by decide) (t := .long) (t' := (.object "java/util/List")) (by decide) (by decide)))).other W23 (Or.inr (slot_ne (Or.inr (tw hw (i := 92) rfl)) (Or.inr (tw hw (i := 96) rfl)) (by decide) (t := .long) (t' := (.object "java/util/List")) (by decide) (by decide))))
  have f28 : Fld Z h23 oa "evenkeel/model/CommittedOffset" "ahead" "Ljava/util/List;" (.ref la) := (f20w.other W23 (Or.inr (slot_ne (Or.inr (tw hw (i := 94) rfl)) (Or.inr (tw hw (i := 96) rfl)) (by decide) (t := (.object "java/util/List")) (t' := (.object "java/util/List")) (by decide) (by decide))))
  obtain ⟨fs, hr, hrun, hended, hW, hsame⟩ := X23.leave (v := none) (fun _ => rfl)
  refine ⟨_, _, hG _ (pre26 _ ?_), hrun, hended, _, _, rfl, ?_, ⟨_, rfl⟩, hW, hsame.mono (by decide) (by decide)⟩
  · show own_K p e below m T23 136 #[rv oa, .val .null, lv qn, .second, rv la, rv lb, lv qn, .second, lv qn, .second, rv ri6, .unset] [] _
    exact X23.returnOut hx Bd.returns (hb hby d3_136) hr
  · show Q3 Z oa qn la lb u0 u1 u2 u3 ea ka eb kb h0 n0 _ T23.heap _
    rw [e23]
    exact ⟨rfl, N23, K23, f27, f28, f23w⟩

theorem d1_0 : decode prog_145_method_2_code 0 = .ok (.aload_n 0, 1) := by decide +kernel
theorem d1_1 : decode prog_145_method_2_code 1 = .ok (.aload_n 1, 1) := by decide +kernel
theorem d1_2 : decode prog_145_method_2_code 2 = .ok (.lload_n 2, 1) := by decide +kernel
theorem d1_3 : decode prog_145_method_2_code 3 = .ok (.invokestatic 93, 3) := by decide +kernel
theorem pd_6 : parseMethodDescriptor "()Ljava/util/List;" = some ⟨[], some (.object "java/util/List")⟩ := by decide +kernel
theorem d1_6 : decode prog_145_method_2_code 6 = .ok (.invokestatic 93, 3) := by decide +kernel
theorem d1_9 : decode prog_145_method_2_code 9 = .ok (.invokespecial 97, 3) := by decide +kernel
theorem pd_7 : parseMethodDescriptor "(Levenkeel/model/TopicQueue;JLjava/util/List;Ljava/util/List;)V" = some ⟨[(.object "evenkeel/model/TopicQueue"), .long, (.object "java/util/List"), (.object "java/util/List")], none⟩ := by decide +kernel
theorem d1_12 : decode prog_145_method_2_code 12 = .ok (.return_, 1) := by decide +kernel
theorem ef_1 (m : MethodId) (x0 : Addr) (x2 : Int64) : entryFrame m #[(.ref x0), .null, (.long x2)] 4 = mkF m 0 #[rv x0, .val .null, lv x2, .second] [] := by first | (simp [entryFrame, mkF, argsToLocals, Value.category]; done) | rfl
def Q1 (Z : State) (oa : Addr) (qn : Int64) (u0 : Value) (u1 : Value) (u2 : Value) (u3 : Value) (el : Addr) (ea : Addr) (kE : ClassId) (h0 : Heap) (n0 : Nat) (rv_ : Option Value) (h_ : Heap) (L_ : List Loc) : Prop := rv_ = none ∧ Fr n0 L_ ∧ Keep h0 h_ [oa] ∧ Fld Z h_ oa "evenkeel/model/CommittedOffset" "next" "J" (.long qn) ∧ Fld Z h_ oa "evenkeel/model/CommittedOffset" "ahead" "Ljava/util/List;" (.ref el) ∧ Fld Z h_ oa "evenkeel/model/CommittedOffset" "failed" "Ljava/util/List;" (.ref el)
set_option maxRecDepth 65536 in
set_option maxHeartbeats 40000000 in
theorem rm1 (l : Launch) (Z : State) (a0 : Array Value) (hw : ∀ d ∈ tables_1, d.before a0 Z = true) (ws : List Jvm.Cond) (oa : Addr) (qn : Int64) (u0 : Value) (u1 : Value) (u2 : Value) (u3 : Value) (el : Addr) (ea : Addr) (kE : ClassId) (h0 : Heap) (n0 : Nat) (Z0 : n0 ≤ h0.size) (E_ : Exa Z h0 oa "evenkeel/model/CommittedOffset") (F0 : Fld Z h0 oa "evenkeel/model/CommittedOffset" "queue" "Levenkeel/model/TopicQueue;" u0) (F1 : Fld Z h0 oa "evenkeel/model/CommittedOffset" "next" "J" u1) (F2 : Fld Z h0 oa "evenkeel/model/CommittedOffset" "ahead" "Ljava/util/List;" u2) (F3 : Fld Z h0 oa "evenkeel/model/CommittedOffset" "failed" "Ljava/util/List;" u3) (g_ : n0 ≤ oa) (O_ : Old Z n0 h0) (P_ : own_P Z el ea kE) :
    MetFree l (⟨"evenkeel/model/CommittedOffset", "<init>", "(Levenkeel/model/TopicQueue;J)V"⟩ : MethodName) (head1 (Jvm.Cond.code (⟨"evenkeel/model/CommittedOffset", "<init>", "(Levenkeel/model/TopicQueue;J)V"⟩ : MethodName) prog_145_method_2_code 4 none :: ws) ({ frames := 4, cells := 2, slots := 8, locals := 62 } : Room)) (fun a U => a = #[(.ref oa), .null, (.long qn)] ∧ Z.Warmed39 U.vm ∧ U.heap = h0) (fun _ _ _ _ _ => True) (fun _ U o U' => ∃ v L, o = .returned v ∧ Q1 Z oa qn u0 u1 u2 u3 el ea kE h0 n0 v U'.heap L ∧ FrameEnd U o U' L ({ frames := 4, cells := 2, slots := 8, locals := 62 } : Room).cells ({ frames := 4, cells := 2, slots := 8, locals := 62 } : Room).slots) := by
  refine MetFree.of_bodySF (plainFor_of_name pn_6) hisR ?_
  intro p e s m args below meth c s₁ Bd hml0 hP hK
  obtain ⟨rfl, hZ, hh⟩ := hP
  have hx := Bd.exec
  have hby := Bd.bytes
  have hml : c.maxLocals = 4 := hml0
  have hown : s.vm.findClass "evenkeel/model/CommittedOffset" = some m.cls := findClass_of_methodNamed Bd.named
  have hnm := (name_of_methodNamed Bd.named Bd.method).1
  have X0 : Stand p l e ({ frames := 4, cells := 2, slots := 8, locals := 62 } : Room) s m #[(.ref oa), .null, (.long qn)] below meth c s₁ [] 0 0 := Stand.of_body Bd
  have e0 : s₁.heap = h0 := by rw [← hh, Bd.state]; rfl
  have N0 := Fr.nil n0
  obtain ⟨G, hG, pre0⟩ : ∃ G : State → Prop, (∀ t, G t → Steps p.tables e below (s₁.setTop (entryFrame m #[(.ref oa), .null, (.long qn)] 4)) t) ∧ ∀ t, own_K p e below m s₁ 0 #[rv oa, .val .null, lv qn, .second] [] t → G t := ⟨fun t => Steps p.tables e below (s₁.setTop (entryFrame m #[(.ref oa), .null, (.long qn)] 4)) t, fun _ k => k, fun t k => castTop (ef_1 m oa qn) k⟩
  obtain ⟨_, _, ⟨T1, L1, k1, n1⟩, -, X1, ⟨Lc1, hQ1, l1, y1, z1⟩, st1⟩ := Jvm.LawKit.callS X0 hx (y := (⟨"java/util/List", "of", "()Ljava/util/List;"⟩ : MethodName)) hown (mvT hZ (tw hw (i := 11) rfl)) (mvT hZ (tw hw (i := 12) rfl)) (mvT hZ (tw hw (i := 13) rfl)) (mvT hZ (tw hw (i := 14) rfl)) (by decide) (backOf (W := 4) (rm2 l Z a0 hw [] el ea kE h0 n0 Z0 O_ P_) hZ (tw hw (i := 14) rfl) (tw hw (i := 13) rfl) (by decide) (by decide)) (g := (mkF m 3 #[rv oa, .val .null, lv qn, .second] [(.long qn), .null, (.ref oa)])) rfl (by rw [hml]; rfl) (argsL := []) (rest := [(.long qn), .null, (.ref oa)]) (lenOf pd_6 rfl) rfl (by show 2 * 0 + _ ≤ _; exact Nat.le_of_eq rfl) (hb hby d1_3) (fun _ _ => ⟨rfl, e0, (by decide : 0 + 0 ≤ _), (by decide : 0 + 0 ≤ _)⟩)
  dsimp only [Pt.U, Pt.locs, Pt.cells, Pt.slots] at X1 l1 y1 z1 st1 hQ1
  subst l1 y1 z1
  obtain ⟨rfl, Nq1, eh1⟩ := hQ1
  have N1 := Fr.app N0 Nq1
  obtain ⟨_, _, ⟨T2, L2, k2, n2⟩, -, X2, ⟨Lc2, hQ2, l2, y2, z2⟩, st2⟩ := Jvm.LawKit.callS X1 hx (y := (⟨"java/util/List", "of", "()Ljava/util/List;"⟩ : MethodName)) hown (mvT hZ (tw hw (i := 11) rfl)) (mvT hZ (tw hw (i := 12) rfl)) (mvT hZ (tw hw (i := 13) rfl)) (mvT hZ (tw hw (i := 14) rfl)) (by decide) (backOf (W := 5) (rm2 l Z a0 hw [] el ea kE h0 n0 Z0 O_ P_) hZ (tw hw (i := 14) rfl) (tw hw (i := 13) rfl) (by decide) (by decide)) (g := (mkF m 6 #[rv oa, .val .null, lv qn, .second] [(.ref el), (.long qn), .null, (.ref oa)])) rfl (by rw [hml]; rfl) (argsL := []) (rest := [(.ref el), (.long qn), .null, (.ref oa)]) (lenOf pd_6 rfl) rfl (by show 2 * 0 + _ ≤ _; exact Nat.le_of_eq rfl) (hb hby d1_6) (fun _ _ => ⟨rfl, eh1, (by decide : 0 + 0 ≤ _), (by decide : 0 + 0 ≤ _)⟩)
  dsimp only [Pt.U, Pt.locs, Pt.cells, Pt.slots] at X2 l2 y2 z2 st2 hQ2
  subst l2 y2 z2
  obtain ⟨rfl, Nq2, eh2⟩ := hQ2
  have N2 := Fr.app N1 Nq2
  have pre3 : ∀ t, own_K p e below m T2 9 #[rv oa, .val .null, lv qn, .second] [(.ref el), (.ref el), (.long qn), .null, (.ref oa)] t → G t := by
    intro t k
    refine pre0 t ?_
    show own_K p e below m s₁ 0 #[rv oa, .val .null, lv qn, .second] [] _
    refine XS.aloadN X0.here hx rfl (hb hby d1_0) rfl rfl ?_
    show own_K p e below m s₁ 1 #[rv oa, .val .null, lv qn, .second] [(.ref oa)] _
    refine XS.aloadN X0.here hx rfl (hb hby d1_1) rfl rfl ?_
    show own_K p e below m s₁ 2 #[rv oa, .val .null, lv qn, .second] [.null, (.ref oa)] _
    refine XS.lloadN X0.here hx rfl (hb hby d1_2) rfl ?_
    show own_K p e below m s₁ 3 #[rv oa, .val .null, lv qn, .second] [(.long qn), .null, (.ref oa)] _
    refine st1 _ ?_
    show own_K p e below m T1 6 #[rv oa, .val .null, lv qn, .second] [(.ref el), (.long qn), .null, (.ref oa)] _
    refine st2 _ ?_
    exact k
  obtain ⟨_, _, ⟨T4, L4, k4, n4⟩, -, X4, ⟨Lc4, hQ4, l4, y4, z4⟩, st4⟩ := X2.specialBack hx (y := (⟨"evenkeel/model/CommittedOffset", "<init>", "(Levenkeel/model/TopicQueue;JLjava/util/List;Ljava/util/List;)V"⟩ : MethodName)) rfl hown (mvT hZ (tw hw (i := 17) rfl)) (mvT hZ (tw hw (i := 18) rfl)) (mvT hZ (tw hw (i := 19) rfl)) (by decide) (backOf (W := 0) (rm3 l Z a0 hw [] oa qn el el u0 u1 u2 u3 ea kE ea kE h0 n0 Z0 E_ F0 F1 F2 F3 g_ (Exa.ext O_.2 P_.2.1) (Fld.ext O_.2 P_.2.2.2.2.1) (Fld.ext O_.2 P_.2.2.1) (P_.2.2.2.1.ext O_.2) (Exa.ext O_.2 P_.2.1) (Fld.ext O_.2 P_.2.2.2.2.1) (Fld.ext O_.2 P_.2.2.1) (P_.2.2.2.1.ext O_.2)) hZ (tw hw (i := 19) rfl) (tw hw (i := 7) rfl) (by decide) (by decide)) (g := (mkF m 9 #[rv oa, .val .null, lv qn, .second] [(.ref el), (.ref el), (.long qn), .null, (.ref oa)])) rfl (by rw [hml]; rfl) (Steps.refl _) (a := oa) (argsL := [.null, (.long qn), (.ref el), (.ref el)]) (rest := []) (lenOf pd_7 rfl) rfl (by show 2 * 0 + _ ≤ _; exact Nat.le_of_eq rfl) (hb hby d1_9) (fun _ _ => ⟨rfl, eh2, (by decide : 0 + 2 ≤ _), (by decide : 0 + 8 ≤ _)⟩)
  dsimp only [Pt.U, Pt.locs, Pt.cells, Pt.slots] at X4 l4 y4 z4 st4 hQ4
  subst l4 y4 z4
  obtain ⟨rfl, Nq4, Kc4, Fn_4, Fh_4, Ff_4⟩ := hQ4
  have N4 := Fr.app N2 Nq4
  have K4 : Keep h0 T4.heap [oa] := (Keep.refl h0 [oa]).trans Kc4 (allS (Or.inl (List.mem_of_getElem? (i := 0) rfl)) all0)
  have sz4 : n0 ≤ T4.heap.size := Nat.le_trans Z0 Kc4.1
  have pre5 : ∀ t, own_K p e below m T4 12 #[rv oa, .val .null, lv qn, .second] [] t → G t := by
    intro t k
    refine pre3 t ?_
    show own_K p e below m T2 9 #[rv oa, .val .null, lv qn, .second] [(.ref el), (.ref el), (.long qn), .null, (.ref oa)] _
    refine st4.trans ?_
    exact k
  obtain ⟨fs, hr, hrun, hended, hW, hsame⟩ := X4.leave (v := none) (fun _ => rfl)
  refine ⟨_, _, hG _ (pre5 _ ?_), hrun, hended, _, _, rfl, ?_, ⟨_, rfl⟩, hW, hsame.mono (by decide) (by decide)⟩
  · show own_K p e below m T4 12 #[rv oa, .val .null, lv qn, .second] [] _
    exact X4.returnOut hx Bd.returns (hb hby d1_12) hr
  · show Q1 Z oa qn u0 u1 u2 u3 el ea kE h0 n0 _ T4.heap _
    exact ⟨rfl, N4, K4, Fn_4, Fh_4, Ff_4⟩

theorem d16_0 : decode prog_145_method_17_code 0 = .ok (.aload_n 0, 1) := by decide +kernel
theorem d16_1 : decode prog_145_method_17_code 1 = .ok (.getfield 45, 3) := by decide +kernel
theorem d16_4 : decode prog_145_method_17_code 4 = .ok (.lreturn, 1) := by decide +kernel
theorem ef_16 (m : MethodId) (x0 : Addr) : entryFrame m #[(.ref x0)] 1 = mkF m 0 #[rv x0] [] := by first | (simp [entryFrame, mkF, argsToLocals, Value.category]; done) | rfl
def Q16 (Z : State) (oa : Addr) (xv : Int64) (h0 : Heap) (n0 : Nat) (rv_ : Option Value) (h_ : Heap) (L_ : List Loc) : Prop := rv_ = some (.long xv) ∧ Fr n0 L_ ∧ h_ = h0
set_option maxRecDepth 65536 in
set_option maxHeartbeats 40000000 in
theorem rm16 (l : Launch) (Z : State) (a0 : Array Value) (hw : ∀ d ∈ tables_1, d.before a0 Z = true) (ws : List Jvm.Cond) (oa : Addr) (xv : Int64) (h0 : Heap) (n0 : Nat) (Z0 : n0 ≤ h0.size) (Fv : Fld Z h0 oa "evenkeel/model/CommittedOffset" "next" "J" (.long xv)) :
    MetFree l (⟨"evenkeel/model/CommittedOffset", "next", "()J"⟩ : MethodName) (head1 (Jvm.Cond.code (⟨"evenkeel/model/CommittedOffset", "next", "()J"⟩ : MethodName) prog_145_method_17_code 1 (some .long) :: ws) ({ frames := 0, cells := 0, slots := 0, locals := 0 } : Room)) (fun a U => a = #[(.ref oa)] ∧ Z.Warmed39 U.vm ∧ U.heap = h0) (fun _ _ _ _ _ => True) (fun _ U o U' => ∃ v L, o = .returned v ∧ Q16 Z oa xv h0 n0 v U'.heap L ∧ FrameEnd U o U' L ({ frames := 0, cells := 0, slots := 0, locals := 0 } : Room).cells ({ frames := 0, cells := 0, slots := 0, locals := 0 } : Room).slots) := by
  refine MetFree.of_bodySF (plainFor_of_name pn_6) hisR ?_
  intro p e s m args below meth c s₁ Bd hml0 hP hK
  obtain ⟨rfl, hZ, hh⟩ := hP
  have hx := Bd.exec
  have hby := Bd.bytes
  have hml : c.maxLocals = 1 := hml0
  have hown : s.vm.findClass "evenkeel/model/CommittedOffset" = some m.cls := findClass_of_methodNamed Bd.named
  have hnm := (name_of_methodNamed Bd.named Bd.method).1
  have X0 : Stand p l e ({ frames := 0, cells := 0, slots := 0, locals := 0 } : Room) s m #[(.ref oa)] below meth c s₁ [] 0 0 := Stand.of_body Bd
  have e0 : s₁.heap = h0 := by rw [← hh, Bd.state]; rfl
  have N0 := Fr.nil n0
  obtain ⟨G, hG, pre0⟩ : ∃ G : State → Prop, (∀ t, G t → Steps p.tables e below (s₁.setTop (entryFrame m #[(.ref oa)] 1)) t) ∧ ∀ t, own_K p e below m s₁ 0 #[rv oa] [] t → G t := ⟨fun t => Steps p.tables e below (s₁.setTop (entryFrame m #[(.ref oa)] 1)) t, fun _ k => k, fun t k => castTop (ef_16 m oa) k⟩
  obtain ⟨T1, X1, e1, st1⟩ := getF X0 hx hZ hown (host := "") (Or.inl (tw hw (i := 91) rfl)) Via.refl e0 Fv (g := (mkF m 1 #[rv oa] [(.ref oa)])) rfl rfl (hb hby d16_1)
  have pre2 : ∀ t, own_K p e below m T1 4 #[rv oa] [(.long xv)] t → G t := by
    intro t k
    refine pre0 t ?_
    show own_K p e below m s₁ 0 #[rv oa] [] _
    refine XS.aloadN X0.here hx rfl (hb hby d16_0) rfl rfl ?_
    show own_K p e below m s₁ 1 #[rv oa] [(.ref oa)] _
    refine st1 _ ?_
    exact k
  obtain ⟨fs, hr, hrun, hended, hW, hsame⟩ := X1.leave (v := some (.long xv)) (fun h => by rw [Bd.returns] at h; cases h)
  refine ⟨_, _, hG _ (pre2 _ ?_), hrun, hended, _, _, rfl, ?_, ⟨_, rfl⟩, hW, hsame.mono (by decide) (by decide)⟩
  · show own_K p e below m T1 4 #[rv oa] [(.long xv)] _
    exact retOut X1 hx Bd.returns rfl (Or.inr (Or.inl ⟨rfl, rfl, _, rfl⟩)) (hb hby d16_4) hr
  · show Q16 Z oa xv h0 n0 _ T1.heap _
    rw [e1]
    exact ⟨rfl, N0, rfl⟩

theorem d17_0 : decode prog_145_method_18_code 0 = .ok (.aload_n 0, 1) := by decide +kernel
theorem d17_1 : decode prog_145_method_18_code 1 = .ok (.getfield 48, 3) := by decide +kernel
theorem d17_4 : decode prog_145_method_18_code 4 = .ok (.areturn, 1) := by decide +kernel
theorem ef_17 (m : MethodId) (x0 : Addr) : entryFrame m #[(.ref x0)] 1 = mkF m 0 #[rv x0] [] := by first | (simp [entryFrame, mkF, argsToLocals, Value.category]; done) | rfl
def Q17 (Z : State) (oa : Addr) (xv : Addr) (h0 : Heap) (n0 : Nat) (rv_ : Option Value) (h_ : Heap) (L_ : List Loc) : Prop := rv_ = some (.ref xv) ∧ Fr n0 L_ ∧ h_ = h0
set_option maxRecDepth 65536 in
set_option maxHeartbeats 40000000 in
theorem rm17 (l : Launch) (Z : State) (a0 : Array Value) (hw : ∀ d ∈ tables_1, d.before a0 Z = true) (ws : List Jvm.Cond) (oa : Addr) (xv : Addr) (h0 : Heap) (n0 : Nat) (Z0 : n0 ≤ h0.size) (Fv : Fld Z h0 oa "evenkeel/model/CommittedOffset" "ahead" "Ljava/util/List;" (.ref xv)) :
    MetFree l (⟨"evenkeel/model/CommittedOffset", "ahead", "()Ljava/util/List;"⟩ : MethodName) (head1 (Jvm.Cond.code (⟨"evenkeel/model/CommittedOffset", "ahead", "()Ljava/util/List;"⟩ : MethodName) prog_145_method_18_code 1 (some (.object "java/util/List")) :: ws) ({ frames := 0, cells := 0, slots := 0, locals := 0 } : Room)) (fun a U => a = #[(.ref oa)] ∧ Z.Warmed39 U.vm ∧ U.heap = h0) (fun _ _ _ _ _ => True) (fun _ U o U' => ∃ v L, o = .returned v ∧ Q17 Z oa xv h0 n0 v U'.heap L ∧ FrameEnd U o U' L ({ frames := 0, cells := 0, slots := 0, locals := 0 } : Room).cells ({ frames := 0, cells := 0, slots := 0, locals := 0 } : Room).slots) := by
  refine MetFree.of_bodySF (plainFor_of_name pn_6) hisR ?_
  intro p e s m args below meth c s₁ Bd hml0 hP hK
  obtain ⟨rfl, hZ, hh⟩ := hP
  have hx := Bd.exec
  have hby := Bd.bytes
  have hml : c.maxLocals = 1 := hml0
  have hown : s.vm.findClass "evenkeel/model/CommittedOffset" = some m.cls := findClass_of_methodNamed Bd.named
  have hnm := (name_of_methodNamed Bd.named Bd.method).1
  have X0 : Stand p l e ({ frames := 0, cells := 0, slots := 0, locals := 0 } : Room) s m #[(.ref oa)] below meth c s₁ [] 0 0 := Stand.of_body Bd
  have e0 : s₁.heap = h0 := by rw [← hh, Bd.state]; rfl
  have N0 := Fr.nil n0
  obtain ⟨G, hG, pre0⟩ : ∃ G : State → Prop, (∀ t, G t → Steps p.tables e below (s₁.setTop (entryFrame m #[(.ref oa)] 1)) t) ∧ ∀ t, own_K p e below m s₁ 0 #[rv oa] [] t → G t := ⟨fun t => Steps p.tables e below (s₁.setTop (entryFrame m #[(.ref oa)] 1)) t, fun _ k => k, fun t k => castTop (ef_17 m oa) k⟩
  obtain ⟨T1, X1, e1, st1⟩ := getF X0 hx hZ hown (host := "") (Or.inl (tw hw (i := 93) rfl)) Via.refl e0 Fv (g := (mkF m 1 #[rv oa] [(.ref oa)])) rfl rfl (hb hby d17_1)
  have pre2 : ∀ t, own_K p e below m T1 4 #[rv oa] [(.ref xv)] t → G t := by
    intro t k
    refine pre0 t ?_
    show own_K p e below m s₁ 0 #[rv oa] [] _
    refine XS.aloadN X0.here hx rfl (hb hby d17_0) rfl rfl ?_
    show own_K p e below m s₁ 1 #[rv oa] [(.ref oa)] _
    refine st1 _ ?_
    exact k
  obtain ⟨fs, hr, hrun, hended, hW, hsame⟩ := X1.leave (v := some (.ref xv)) (fun h => by rw [Bd.returns] at h; cases h)
  refine ⟨_, _, hG _ (pre2 _ ?_), hrun, hended, _, _, rfl, ?_, ⟨_, rfl⟩, hW, hsame.mono (by decide) (by decide)⟩
  · show own_K p e below m T1 4 #[rv oa] [(.ref xv)] _
    exact retOut X1 hx Bd.returns rfl (Or.inr (Or.inr (Or.inr (Or.inr ⟨rfl, rfl, rfl⟩)))) (hb hby d17_4) hr
  · show Q17 Z oa xv h0 n0 _ T1.heap _
    rw [e1]
    exact ⟨rfl, N0, rfl⟩

theorem d18_0 : decode prog_145_method_19_code 0 = .ok (.aload_n 0, 1) := by decide +kernel
theorem d18_1 : decode prog_145_method_19_code 1 = .ok (.getfield 52, 3) := by decide +kernel
theorem d18_4 : decode prog_145_method_19_code 4 = .ok (.areturn, 1) := by decide +kernel
theorem ef_18 (m : MethodId) (x0 : Addr) : entryFrame m #[(.ref x0)] 1 = mkF m 0 #[rv x0] [] := by first | (simp [entryFrame, mkF, argsToLocals, Value.category]; done) | rfl
def Q18 (Z : State) (oa : Addr) (xv : Addr) (h0 : Heap) (n0 : Nat) (rv_ : Option Value) (h_ : Heap) (L_ : List Loc) : Prop := rv_ = some (.ref xv) ∧ Fr n0 L_ ∧ h_ = h0
set_option maxRecDepth 65536 in
set_option maxHeartbeats 40000000 in
theorem rm18 (l : Launch) (Z : State) (a0 : Array Value) (hw : ∀ d ∈ tables_1, d.before a0 Z = true) (ws : List Jvm.Cond) (oa : Addr) (xv : Addr) (h0 : Heap) (n0 : Nat) (Z0 : n0 ≤ h0.size) (Fv : Fld Z h0 oa "evenkeel/model/CommittedOffset" "failed" "Ljava/util/List;" (.ref xv)) :
    MetFree l (⟨"evenkeel/model/CommittedOffset", "failed", "()Ljava/util/List;"⟩ : MethodName) (head1 (Jvm.Cond.code (⟨"evenkeel/model/CommittedOffset", "failed", "()Ljava/util/List;"⟩ : MethodName) prog_145_method_19_code 1 (some (.object "java/util/List")) :: ws) ({ frames := 0, cells := 0, slots := 0, locals := 0 } : Room)) (fun a U => a = #[(.ref oa)] ∧ Z.Warmed39 U.vm ∧ U.heap = h0) (fun _ _ _ _ _ => True) (fun _ U o U' => ∃ v L, o = .returned v ∧ Q18 Z oa xv h0 n0 v U'.heap L ∧ FrameEnd U o U' L ({ frames := 0, cells := 0, slots := 0, locals := 0 } : Room).cells ({ frames := 0, cells := 0, slots := 0, locals := 0 } : Room).slots) := by
  refine MetFree.of_bodySF (plainFor_of_name pn_6) hisR ?_
  intro p e s m args below meth c s₁ Bd hml0 hP hK
  obtain ⟨rfl, hZ, hh⟩ := hP
  have hx := Bd.exec
  have hby := Bd.bytes
  have hml : c.maxLocals = 1 := hml0
  have hown : s.vm.findClass "evenkeel/model/CommittedOffset" = some m.cls := findClass_of_methodNamed Bd.named
  have hnm := (name_of_methodNamed Bd.named Bd.method).1
  have X0 : Stand p l e ({ frames := 0, cells := 0, slots := 0, locals := 0 } : Room) s m #[(.ref oa)] below meth c s₁ [] 0 0 := Stand.of_body Bd
  have e0 : s₁.heap = h0 := by rw [← hh, Bd.state]; rfl
  have N0 := Fr.nil n0
  obtain ⟨G, hG, pre0⟩ : ∃ G : State → Prop, (∀ t, G t → Steps p.tables e below (s₁.setTop (entryFrame m #[(.ref oa)] 1)) t) ∧ ∀ t, own_K p e below m s₁ 0 #[rv oa] [] t → G t := ⟨fun t => Steps p.tables e below (s₁.setTop (entryFrame m #[(.ref oa)] 1)) t, fun _ k => k, fun t k => castTop (ef_18 m oa) k⟩
  obtain ⟨T1, X1, e1, st1⟩ := getF X0 hx hZ hown (host := "") (Or.inl (tw hw (i := 95) rfl)) Via.refl e0 Fv (g := (mkF m 1 #[rv oa] [(.ref oa)])) rfl rfl (hb hby d18_1)
  have pre2 : ∀ t, own_K p e below m T1 4 #[rv oa] [(.ref xv)] t → G t := by
    intro t k
    refine pre0 t ?_
    show own_K p e below m s₁ 0 #[rv oa] [] _
    refine XS.aloadN X0.here hx rfl (hb hby d18_0) rfl rfl ?_
    show own_K p e below m s₁ 1 #[rv oa] [(.ref oa)] _
    refine st1 _ ?_
    exact k
  obtain ⟨fs, hr, hrun, hended, hW, hsame⟩ := X1.leave (v := some (.ref xv)) (fun h => by rw [Bd.returns] at h; cases h)
  refine ⟨_, _, hG _ (pre2 _ ?_), hrun, hended, _, _, rfl, ?_, ⟨_, rfl⟩, hW, hsame.mono (by decide) (by decide)⟩
  · show own_K p e below m T1 4 #[rv oa] [(.ref xv)] _
    exact retOut X1 hx Bd.returns rfl (Or.inr (Or.inr (Or.inr (Or.inr ⟨rfl, rfl, rfl⟩)))) (hb hby d18_4) hr
  · show Q18 Z oa xv h0 n0 _ T1.heap _
    rw [e1]
    exact ⟨rfl, N0, rfl⟩

theorem d15_0 : decode jdk_92_method_1_code 0 = .ok (.iload_n 0, 1) := by decide +kernel
theorem d15_1 : decode jdk_92_method_1_code 1 = .ok (.bipush 6, 2) := by decide +kernel
theorem d15_3 : decode jdk_92_method_1_code 3 = .ok (.ishr, 1) := by decide +kernel
theorem d15_4 : decode jdk_92_method_1_code 4 = .ok (.ireturn, 1) := by decide +kernel
theorem pn_7 : plainName "java/util/BitSet" = true := by first | (simp [plainName, overriddenIn]; done) | decide +kernel
theorem ef_15 (m : MethodId) (x0 : Int32) : entryFrame m #[(.int x0)] 1 = mkF m 0 #[iv x0] [] := by first | (simp [entryFrame, mkF, argsToLocals, Value.category]; done) | rfl
def Q15 (Z : State) (xi : Int32) (h0 : Heap) (n0 : Nat) (rv_ : Option Value) (h_ : Heap) (L_ : List Loc) : Prop := rv_ = some (.int (xi >>> ((6 : Int32) &&& 31))) ∧ Fr n0 L_ ∧ h_ = h0
set_option maxRecDepth 65536 in
set_option maxHeartbeats 40000000 in
theorem rm15 (l : Launch) (Z : State) (a0 : Array Value) (hw : ∀ d ∈ tables_1, d.before a0 Z = true) (ws : List Jvm.Cond) (xi : Int32) (h0 : Heap) (n0 : Nat) (Z0 : n0 ≤ h0.size) :
    MetFree l (⟨"java/util/BitSet", "wordIndex", "(I)I"⟩ : MethodName) (head1 (Jvm.Cond.code (⟨"java/util/BitSet", "wordIndex", "(I)I"⟩ : MethodName) jdk_92_method_1_code 1 (some .int) :: ws) ({ frames := 0, cells := 0, slots := 0, locals := 0 } : Room)) (fun a U => a = #[(.int xi)] ∧ Z.Warmed39 U.vm ∧ U.heap = h0) (fun _ _ _ _ _ => True) (fun _ U o U' => ∃ v L, o = .returned v ∧ Q15 Z xi h0 n0 v U'.heap L ∧ FrameEnd U o U' L ({ frames := 0, cells := 0, slots := 0, locals := 0 } : Room).cells ({ frames := 0, cells := 0, slots := 0, locals := 0 } : Room).slots) := by
  refine MetFree.of_bodySF (plainFor_of_name pn_7) hisR ?_
  intro p e s m args below meth c s₁ Bd hml0 hP hK
  obtain ⟨rfl, hZ, hh⟩ := hP
  have hx := Bd.exec
  have hby := Bd.bytes
  have hml : c.maxLocals = 1 := hml0
  have hown : s.vm.findClass "java/util/BitSet" = some m.cls := findClass_of_methodNamed Bd.named
  have hnm := (name_of_methodNamed Bd.named Bd.method).1
  have X0 : Stand p l e ({ frames := 0, cells := 0, slots := 0, locals := 0 } : Room) s m #[(.int xi)] below meth c s₁ [] 0 0 := Stand.of_body Bd
  have e0 : s₁.heap = h0 := by rw [← hh, Bd.state]; rfl
  have N0 := Fr.nil n0
  obtain ⟨G, hG, pre0⟩ : ∃ G : State → Prop, (∀ t, G t → Steps p.tables e below (s₁.setTop (entryFrame m #[(.int xi)] 1)) t) ∧ ∀ t, own_K p e below m s₁ 0 #[iv xi] [] t → G t := ⟨fun t => Steps p.tables e below (s₁.setTop (entryFrame m #[(.int xi)] 1)) t, fun _ k => k, fun t k => castTop (ef_15 m xi) k⟩
  have pre1 : ∀ t, own_K p e below m s₁ 4 #[iv xi] [(.int (xi >>> ((6 : Int32) &&& 31)))] t → G t := by
    intro t k
    refine pre0 t ?_
    show own_K p e below m s₁ 0 #[iv xi] [] _
    refine XS.iloadN X0.here hx rfl (hb hby d15_0) rfl ?_
    show own_K p e below m s₁ 1 #[iv xi] [(.int xi)] _
    refine XS.bipush X0.here hx rfl (hb hby d15_1) ?_
    show own_K p e below m s₁ 3 #[iv xi] [(.int (6 : Int32)), (.int xi)] _
    refine XS.ishr X0.here hx rfl (hb hby d15_3) rfl ?_
    exact k
  obtain ⟨fs, hr, hrun, hended, hW, hsame⟩ := X0.leave (v := some (.int (xi >>> ((6 : Int32) &&& 31)))) (fun h => by rw [Bd.returns] at h; cases h)
  refine ⟨_, _, hG _ (pre1 _ ?_), hrun, hended, _, _, rfl, ?_, ⟨_, rfl⟩, hW, hsame.mono (by decide) (by decide)⟩
  · show own_K p e below m s₁ 4 #[iv xi] [(.int (xi >>> ((6 : Int32) &&& 31)))] _
    exact retI X0 hx Bd.returns (hb hby d15_4) hr
  · show Q15 Z xi h0 n0 _ s₁.heap _
    rw [e0]
    exact ⟨rfl, N0, rfl⟩

theorem d14_0 : decode jdk_92_method_6_code 0 = .ok (.aload_n 0, 1) := by decide +kernel
theorem d14_1 : decode jdk_92_method_6_code 1 = .ok (.iload_n 1, 1) := by decide +kernel
theorem d14_2 : decode jdk_92_method_6_code 2 = .ok (.iconst 1, 1) := by decide +kernel
theorem d14_3 : decode jdk_92_method_6_code 3 = .ok (.isub, 1) := by decide +kernel
theorem d14_4 : decode jdk_92_method_6_code 4 = .ok (.invokestatic 52, 3) := by decide +kernel
theorem pd_8 : parseMethodDescriptor "(I)I" = some ⟨[.int], some .int⟩ := by decide +kernel
theorem d14_7 : decode jdk_92_method_6_code 7 = .ok (.iconst 1, 1) := by decide +kernel
theorem d14_8 : decode jdk_92_method_6_code 8 = .ok (.iadd, 1) := by decide +kernel
theorem d14_9 : decode jdk_92_method_6_code 9 = .ok (.newarray .long, 2) := by decide +kernel
theorem d14_11 : decode jdk_92_method_6_code 11 = .ok (.putfield 11, 3) := by decide +kernel
theorem d14_14 : decode jdk_92_method_6_code 14 = .ok (.return_, 1) := by decide +kernel
theorem ef_14 (m : MethodId) (x0 : Addr) (x1 : Int32) : entryFrame m #[(.ref x0), (.int x1)] 2 = mkF m 0 #[rv x0, iv x1] [] := by first | (simp [entryFrame, mkF, argsToLocals, Value.category]; done) | rfl
def Q14 (Z : State) (oa : Addr) (xn : Int32) (u2 : Value) (uf_oa_wordsInUse : Value) (uf_oa_sizeIsSticky : Value) (h0 : Heap) (n0 : Nat) (rv_ : Option Value) (h_ : Heap) (L_ : List Loc) : Prop := ∃ (ow : Addr) (kw : ClassId), rv_ = none ∧ Fr n0 L_ ∧ Keep h0 h_ [oa] ∧ h0.size ≤ ow ∧ Fld Z h_ oa "java/util/BitSet" "words" "[J" (.ref ow) ∧ Arv Z h_ ow kw .long (1 : Int32) [(.long (0 : Int64))] (.long (0 : Int64)) ∧ Fld Z h_ oa "java/util/BitSet" "wordsInUse" "I" uf_oa_wordsInUse ∧ Fld Z h_ oa "java/util/BitSet" "sizeIsSticky" "Z" uf_oa_sizeIsSticky
set_option maxRecDepth 65536 in
set_option maxHeartbeats 40000000 in
theorem rm14 (l : Launch) (Z : State) (a0 : Array Value) (hw : ∀ d ∈ tables_1, d.before a0 Z = true) (ws : List Jvm.Cond) (oa : Addr) (xn : Int32) (u2 : Value) (uf_oa_wordsInUse : Value) (uf_oa_sizeIsSticky : Value) (h0 : Heap) (n0 : Nat) (Z0 : n0 ≤ h0.size) (E_ : Exa Z h0 oa "java/util/BitSet") (F2 : Fld Z h0 oa "java/util/BitSet" "words" "[J" u2) (g_ : n0 ≤ oa) (hn : xn = (64 : Int32)) (F_oa_wordsInUse : Fld Z h0 oa "java/util/BitSet" "wordsInUse" "I" uf_oa_wordsInUse) (F_oa_sizeIsSticky : Fld Z h0 oa "java/util/BitSet" "sizeIsSticky" "Z" uf_oa_sizeIsSticky) :
    MetFree l (⟨"java/util/BitSet", "initWords", "(I)V"⟩ : MethodName) (head1 (Jvm.Cond.code (⟨"java/util/BitSet", "initWords", "(I)V"⟩ : MethodName) jdk_92_method_6_code 2 none :: ws) ({ frames := 1, cells := 1, slots := 1, locals := 13 } : Room)) (fun a U => a = #[(.ref oa), (.int xn)] ∧ Z.Warmed39 U.vm ∧ U.heap = h0) (fun _ _ _ _ _ => True) (fun _ U o U' => ∃ v L, o = .returned v ∧ Q14 Z oa xn u2 uf_oa_wordsInUse uf_oa_sizeIsSticky h0 n0 v U'.heap L ∧ FrameEnd U o U' L ({ frames := 1, cells := 1, slots := 1, locals := 13 } : Room).cells ({ frames := 1, cells := 1, slots := 1, locals := 13 } : Room).slots) := by
  refine MetFree.of_bodySF (plainFor_of_name pn_7) hisR ?_
  intro p e s m args below meth c s₁ Bd hml0 hP hK
  obtain ⟨rfl, hZ, hh⟩ := hP
  have hx := Bd.exec
  have hby := Bd.bytes
  have hml : c.maxLocals = 2 := hml0
  have hown : s.vm.findClass "java/util/BitSet" = some m.cls := findClass_of_methodNamed Bd.named
  have hnm := (name_of_methodNamed Bd.named Bd.method).1
  have X0 : Stand p l e ({ frames := 1, cells := 1, slots := 1, locals := 13 } : Room) s m #[(.ref oa), (.int xn)] below meth c s₁ [] 0 0 := Stand.of_body Bd
  have e0 : s₁.heap = h0 := by rw [← hh, Bd.state]; rfl
  have N0 := Fr.nil n0
  obtain ⟨G, hG, pre0⟩ : ∃ G : State → Prop, (∀ t, G t → Steps p.tables e below (s₁.setTop (entryFrame m #[(.ref oa), (.int xn)] 2)) t) ∧ ∀ t, own_K p e below m s₁ 0 #[rv oa, iv xn] [] t → G t := ⟨fun t => Steps p.tables e below (s₁.setTop (entryFrame m #[(.ref oa), (.int xn)] 2)) t, fun _ k => k, fun t k => castTop (ef_14 m oa xn) k⟩
  obtain ⟨_, _, ⟨T1, L1, k1, n1⟩, -, X1, ⟨Lc1, hQ1, l1, y1, z1⟩, st1⟩ := Jvm.LawKit.callS X0 hx (y := (⟨"java/util/BitSet", "wordIndex", "(I)I"⟩ : MethodName)) hown (mvT hZ (tw hw (i := 120) rfl)) (mvT hZ (tw hw (i := 121) rfl)) (mvT hZ (tw hw (i := 106) rfl)) (mvT hZ (tw hw (i := 122) rfl)) (by decide) (backOf (W := 1) (rm15 l Z a0 hw [] (xn - (1 : Int32)) h0 n0 Z0 ) hZ (tw hw (i := 122) rfl) (tw hw (i := 106) rfl) (by decide) (by decide)) (g := (mkF m 4 #[rv oa, iv xn] [(.int (xn - (1 : Int32))), (.ref oa)])) rfl (by rw [hml]; rfl) (argsL := [(.int (xn - (1 : Int32)))]) (rest := [(.ref oa)]) (lenOf pd_8 rfl) rfl (by show 2 * 0 + _ ≤ _; exact Nat.le_of_eq rfl) (hb hby d14_4) (fun _ _ => ⟨rfl, e0, (by decide : 0 + 0 ≤ _), (by decide : 0 + 0 ≤ _)⟩)
  dsimp only [Pt.U, Pt.locs, Pt.cells, Pt.slots] at X1 l1 y1 z1 st1 hQ1
  subst l1 y1 z1
  obtain ⟨rfl, Nq1, eh1⟩ := hQ1
  have N1 := Fr.app N0 Nq1
  have pre2 : ∀ t, own_K p e below m T1 9 #[rv oa, iv xn] [(.int (((xn - (1 : Int32)) >>> ((6 : Int32) &&& 31)) + (1 : Int32))), (.ref oa)] t → G t := by
    intro t k
    refine pre0 t ?_
    show own_K p e below m s₁ 0 #[rv oa, iv xn] [] _
    refine XS.aloadN X0.here hx rfl (hb hby d14_0) rfl rfl ?_
    show own_K p e below m s₁ 1 #[rv oa, iv xn] [(.ref oa)] _
    refine XS.iloadN X0.here hx rfl (hb hby d14_1) rfl ?_
    show own_K p e below m s₁ 2 #[rv oa, iv xn] [(.int xn), (.ref oa)] _
    refine XS.iconst X0.here hx rfl (hb hby d14_2) ?_
    show own_K p e below m s₁ 3 #[rv oa, iv xn] [(.int (1 : Int32)), (.int xn), (.ref oa)] _
    refine XS.isub X0.here hx rfl (hb hby d14_3) rfl ?_
    show own_K p e below m s₁ 4 #[rv oa, iv xn] [(.int (xn - (1 : Int32))), (.ref oa)] _
    refine st1 _ ?_
    show own_K p e below m T1 7 #[rv oa, iv xn] [(.int ((xn - (1 : Int32)) >>> ((6 : Int32) &&& 31))), (.ref oa)] _
    refine XS.iconst X1.here hx rfl (hb hby d14_7) ?_
    show own_K p e below m T1 8 #[rv oa, iv xn] [(.int (1 : Int32)), (.int ((xn - (1 : Int32)) >>> ((6 : Int32) &&& 31))), (.ref oa)] _
    refine XS.iadd X1.here hx rfl (hb hby d14_8) rfl ?_
    exact k
  have hq3 : (((xn - (1 : Int32)) >>> ((6 : Int32) &&& 31)) + (1 : Int32)) = (1 : Int32) := (by rw [hn]; decide)
  have pre3 : ∀ t, own_K p e below m T1 9 #[rv oa, iv xn] [(.int (1 : Int32)), (.ref oa)] t → G t := fun t k => pre2 t (by rw [hq3]; exact k)
  obtain ⟨T4, h4, k4, X4, e4, E4, A4, st4⟩ := newP X1 hx hZ (tw hw (i := 123) rfl) eh1 (g := (mkF m 9 #[rv oa, iv xn] [(.int (1 : Int32)), (.ref oa)])) rfl (hb hby d14_9) rfl (by decide) (cap := 1) (by decide) (by decide) (by decide) (by decide)
  obtain ⟨b4, g4⟩ : ∃ z, z = h0.size := ⟨_, rfl⟩
  rw [← g4] at A4 st4
  have ne4_oa : oa ≠ b4 := Nat.ne_of_lt (Nat.lt_of_lt_of_le E_.lt (Nat.le_of_eq g4.symm))
  have ge_b4 : n0 ≤ b4 := Nat.le_trans Z0 (Nat.le_of_eq g4.symm)
  have sz_b4 : h0.size ≤ b4 := Nat.le_trans (Keep.refl h0 [oa]).1 (Nat.le_of_eq g4.symm)
  have K4 : Keep h0 h4 [oa] := (Keep.refl h0 [oa]).ext E4
  have sz4 : n0 ≤ h4.size := Nat.le_trans Z0 E4.1
  have V4 : Arv Z h4 b4 k4 .long (1 : Int32) [(.long (0 : Int64))] (.long (0 : Int64)) := (Arv.new A4 (by decide)).pad (pad_rep [] (.long (0 : Int64)) 1)
  have f6 : Fld Z h4 oa "java/util/BitSet" "words" "[J" u2 := (F2.ext E4)
  have f7 : Exa Z h4 oa "java/util/BitSet" := (E_.ext E4)
  obtain ⟨T5, h5, X5, e5, W5, st5⟩ := putF X4 hx hZ hown (host := "") (Or.inl (tw hw (i := 124) rfl)) Via.refl e4 f6 f7 (Or.inl (tw hw (i := 125) rfl)) (tw hw (i := 105) rfl) (ty := (.array .long)) (by decide) rfl rfl (g := (mkF m 11 #[rv oa, iv xn] [(.ref b4), (.ref oa)])) rfl rfl (hb hby d14_11)
  have f5w := f6.same W5
  have K5 : Keep h0 h5 [oa] := K4.wr W5 (Or.inl (List.mem_of_getElem? (i := 0) rfl))
  have N5 := Fr.snoc X5 N1 g_
  have sz5 : n0 ≤ h5.size := Nat.le_trans sz4 (Keep.of_wr W5).1
  have pre8 : ∀ t, own_K p e below m T5 14 #[rv oa, iv xn] [] t → G t := by
    intro t k
    refine pre3 t ?_
    show own_K p e below m T1 9 #[rv oa, iv xn] [(.int (1 : Int32)), (.ref oa)] _
    refine st4 _ ?_
    show own_K p e below m T4 11 #[rv oa, iv xn] [(.ref b4), (.ref oa)] _
    refine st5 _ ?_
    exact k
  have f9 : Arv Z h5 b4 k4 .long (1 : Int32) [(.long (0 : Int64))] (.long (0 : Int64)) := (V4.other W5 (Ne.symm ne4_oa))
  have f10 : Fld Z h5 oa "java/util/BitSet" "wordsInUse" "I" uf_oa_wordsInUse := ((F_oa_wordsInUse.ext E4).other W5 (Or.inr (slot_ne (Or.inl (tw hw (i := 112) rfl)) (Or.inl (tw hw (i := 125) rfl)) (by decide) (t := .int) (t' := (.array .long)) (by decide) (by decide))))
  have f11 : Fld Z h5 oa "java/util/BitSet" "sizeIsSticky" "Z" uf_oa_sizeIsSticky := ((F_oa_sizeIsSticky.ext E4).other W5 (Or.inr (slot_ne (Or.inl (tw hw (i := 114) rfl)) (Or.inl (tw hw (i := 125) rfl)) (by decide) (t := .boolean) (t' := (.array .long)) (by decide) (by decide))))
  obtain ⟨fs, hr, hrun, hended, hW, hsame⟩ := X5.leave (v := none) (fun _ => rfl)
  refine ⟨_, _, hG _ (pre8 _ ?_), hrun, hended, _, _, rfl, ?_, ⟨_, rfl⟩, hW, hsame.mono (by decide) (by decide)⟩
  · show own_K p e below m T5 14 #[rv oa, iv xn] [] _
    exact X5.returnOut hx Bd.returns (hb hby d14_14) hr
  · show Q14 Z oa xn u2 uf_oa_wordsInUse uf_oa_sizeIsSticky h0 n0 _ T5.heap _
    rw [e5]
    exact ⟨b4, k4, rfl, N5, K5, sz_b4, f5w, f9, f10, f11⟩

theorem d13_0 : decode jdk_92_method_4_code 0 = .ok (.aload_n 0, 1) := by decide +kernel
theorem d13_1 : decode jdk_92_method_4_code 1 = .ok (.invokespecial 21, 3) := by decide +kernel
theorem d13_4 : decode jdk_92_method_4_code 4 = .ok (.aload_n 0, 1) := by decide +kernel
theorem d13_5 : decode jdk_92_method_4_code 5 = .ok (.iconst 0, 1) := by decide +kernel
theorem d13_6 : decode jdk_92_method_4_code 6 = .ok (.putfield 7, 3) := by decide +kernel
theorem d13_9 : decode jdk_92_method_4_code 9 = .ok (.aload_n 0, 1) := by decide +kernel
theorem d13_10 : decode jdk_92_method_4_code 10 = .ok (.iconst 0, 1) := by decide +kernel
theorem d13_11 : decode jdk_92_method_4_code 11 = .ok (.putfield 24, 3) := by decide +kernel
theorem d13_14 : decode jdk_92_method_4_code 14 = .ok (.aload_n 0, 1) := by decide +kernel
theorem d13_15 : decode jdk_92_method_4_code 15 = .ok (.bipush 64, 2) := by decide +kernel
theorem d13_17 : decode jdk_92_method_4_code 17 = .ok (.invokevirtual 27, 3) := by decide +kernel
theorem pd_9 : parseMethodDescriptor "(I)V" = some ⟨[.int], none⟩ := by decide +kernel
theorem d13_20 : decode jdk_92_method_4_code 20 = .ok (.aload_n 0, 1) := by decide +kernel
theorem d13_21 : decode jdk_92_method_4_code 21 = .ok (.iconst 0, 1) := by decide +kernel
theorem d13_22 : decode jdk_92_method_4_code 22 = .ok (.putfield 24, 3) := by decide +kernel
theorem d13_25 : decode jdk_92_method_4_code 25 = .ok (.return_, 1) := by decide +kernel
theorem ef_13 (m : MethodId) (x0 : Addr) : entryFrame m #[(.ref x0)] 1 = mkF m 0 #[rv x0] [] := by first | (simp [entryFrame, mkF, argsToLocals, Value.category]; done) | rfl
def Q13 (Z : State) (oa : Addr) (u0 : Value) (u1 : Value) (u2 : Value) (h0 : Heap) (n0 : Nat) (rv_ : Option Value) (h_ : Heap) (L_ : List Loc) : Prop := ∃ (ow : Addr) (kw : ClassId), rv_ = none ∧ Fr n0 L_ ∧ Keep h0 h_ [oa] ∧ h0.size ≤ ow ∧ Fld Z h_ oa "java/util/BitSet" "words" "[J" (.ref ow) ∧ Arv Z h_ ow kw .long (1 : Int32) [(.long (0 : Int64))] (.long (0 : Int64)) ∧ Fld Z h_ oa "java/util/BitSet" "wordsInUse" "I" (.int (0 : Int32)) ∧ Fld Z h_ oa "java/util/BitSet" "sizeIsSticky" "Z" (.int (0 : Int32))
set_option maxRecDepth 65536 in
set_option maxHeartbeats 40000000 in
theorem rm13 (l : Launch) (Z : State) (a0 : Array Value) (hw : ∀ d ∈ tables_1, d.before a0 Z = true) (ws : List Jvm.Cond) (oa : Addr) (u0 : Value) (u1 : Value) (u2 : Value) (h0 : Heap) (n0 : Nat) (Z0 : n0 ≤ h0.size) (E_ : Exa Z h0 oa "java/util/BitSet") (F0 : Fld Z h0 oa "java/util/BitSet" "wordsInUse" "I" u0) (F1 : Fld Z h0 oa "java/util/BitSet" "sizeIsSticky" "Z" u1) (F2 : Fld Z h0 oa "java/util/BitSet" "words" "[J" u2) (g_ : n0 ≤ oa) :
    MetFree l (⟨"java/util/BitSet", "<init>", "()V"⟩ : MethodName) (head1 (Jvm.Cond.code (⟨"java/util/BitSet", "<init>", "()V"⟩ : MethodName) jdk_92_method_4_code 1 none :: ws) ({ frames := 2, cells := 1, slots := 1, locals := 26 } : Room)) (fun a U => a = #[(.ref oa)] ∧ Z.Warmed39 U.vm ∧ U.heap = h0) (fun _ _ _ _ _ => True) (fun _ U o U' => ∃ v L, o = .returned v ∧ Q13 Z oa u0 u1 u2 h0 n0 v U'.heap L ∧ FrameEnd U o U' L ({ frames := 2, cells := 1, slots := 1, locals := 26 } : Room).cells ({ frames := 2, cells := 1, slots := 1, locals := 26 } : Room).slots) := by
  refine MetFree.of_bodySF (plainFor_of_name pn_7) hisR ?_
  intro p e s m args below meth c s₁ Bd hml0 hP hK
  obtain ⟨rfl, hZ, hh⟩ := hP
  have hx := Bd.exec
  have hby := Bd.bytes
  have hml : c.maxLocals = 1 := hml0
  have hown : s.vm.findClass "java/util/BitSet" = some m.cls := findClass_of_methodNamed Bd.named
  have hnm := (name_of_methodNamed Bd.named Bd.method).1
  have X0 : Stand p l e ({ frames := 2, cells := 1, slots := 1, locals := 26 } : Room) s m #[(.ref oa)] below meth c s₁ [] 0 0 := Stand.of_body Bd
  have e0 : s₁.heap = h0 := by rw [← hh, Bd.state]; rfl
  have N0 := Fr.nil n0
  obtain ⟨G, hG, pre0⟩ : ∃ G : State → Prop, (∀ t, G t → Steps p.tables e below (s₁.setTop (entryFrame m #[(.ref oa)] 1)) t) ∧ ∀ t, own_K p e below m s₁ 0 #[rv oa] [] t → G t := ⟨fun t => Steps p.tables e below (s₁.setTop (entryFrame m #[(.ref oa)] 1)) t, fun _ k => k, fun t k => castTop (ef_13 m oa) k⟩
  obtain ⟨T1, X1, e1, st1⟩ := initO X0 hx hZ hown (tw hw (i := 110) rfl) (tw hw (i := 26) rfl) (tw hw (i := 27) rfl) e0 (g := (mkF m 1 #[rv oa] [(.ref oa)])) rfl (by rw [hml]; rfl) rfl (hb hby d13_1) (by decide) (W := 0) (by show 2 * 0 + _ ≤ _; exact Nat.le_of_eq rfl) (by decide)
  obtain ⟨T2, h2, X2, e2, W2, st2⟩ := putF X1 hx hZ hown (host := "") (Or.inl (tw hw (i := 111) rfl)) Via.refl e1 F0 E_ (Or.inl (tw hw (i := 112) rfl)) (tw hw (i := 105) rfl) (ty := .int) (by decide) rfl rfl (g := (mkF m 6 #[rv oa] [(.int (0 : Int32)), (.ref oa)])) rfl rfl (hb hby d13_6)
  have f2w := F0.same W2
  have K2 : Keep h0 h2 [oa] := (Keep.refl h0 [oa]).wr W2 (Or.inl (List.mem_of_getElem? (i := 0) rfl))
  have N2 := Fr.snoc X2 N0 g_
  have sz2 : n0 ≤ h2.size := Nat.le_trans Z0 (Keep.of_wr W2).1
  have f4 : Fld Z h2 oa "java/util/BitSet" "sizeIsSticky" "Z" u1 := (F1.other W2 (Or.inr (slot_ne (Or.inl (tw hw (i := 114) rfl)) (Or.inl (tw hw (i := 112) rfl)) (by decide) (t := .boolean) (t' := .int) (by decide) (by decide))))
  have f5 : Exa Z h2 oa "java/util/BitSet" := (E_.wr W2)
  obtain ⟨T3, h3, X3, e3, W3, st3⟩ := putFN X2 hx hZ hown (tw hw (i := 113) rfl) Via.refl e2 f4 f5 (Or.inl (tw hw (i := 114) rfl)) (tw hw (i := 105) rfl) (ty := .boolean) (v' := (.int (0 : Int32))) (by decide) rfl rfl (g := (mkF m 11 #[rv oa] [(.int (0 : Int32)), (.ref oa)])) rfl rfl (hb hby d13_11)
  have f3w := f4.same W3
  have K3 : Keep h0 h3 [oa] := K2.wr W3 (Or.inl (List.mem_of_getElem? (i := 0) rfl))
  have N3 := Fr.snoc X3 N2 g_
  have sz3 : n0 ≤ h3.size := Nat.le_trans sz2 (Keep.of_wr W3).1
  have f7 : Exa Z h3 oa "java/util/BitSet" := (f5.wr W3)
  have f8 : Fld Z h3 oa "java/util/BitSet" "words" "[J" u2 := ((F2.other W2 (Or.inr (slot_ne (Or.inl (tw hw (i := 125) rfl)) (Or.inl (tw hw (i := 112) rfl)) (by decide) (t := (.array .long)) (t' := .int) (by decide) (by decide)))).other W3 (Or.inr (slot_ne (Or.inl (tw hw (i := 125) rfl)) (Or.inl (tw hw (i := 114) rfl)) (by decide) (t := (.array .long)) (t' := .boolean) (by decide) (by decide))))
  have f9 : Fld Z h3 oa "java/util/BitSet" "wordsInUse" "I" (.int (0 : Int32)) := (f2w.other W3 (Or.inr (slot_ne (Or.inl (tw hw (i := 112) rfl)) (Or.inl (tw hw (i := 114) rfl)) (by decide) (t := .int) (t' := .boolean) (by decide) (by decide))))
  obtain ⟨cq6, q6, q6'⟩ := f7.cell
  obtain ⟨_, _, ⟨T6, L6, k6, n6⟩, -, X6, ⟨Lc6, hQ6, l6, y6, z6⟩, st6⟩ := X3.privateBack hx (y := (⟨"java/util/BitSet", "initWords", "(I)V"⟩ : MethodName)) hown (mvT hZ (tw hw (i := 115) rfl)) (mvT hZ (tw hw (i := 116) rfl)) (mvT hZ (tw hw (i := 118) rfl)) (Cond.privateMethod_at (mvP hZ (tw hw (i := 117) rfl) (args := #[]))) (mvT hZ (tw hw (i := 119) rfl)) (by decide) (backOf (W := 0) (rm14 l Z a0 hw [] oa (64 : Int32) u2 (.int (0 : Int32)) (.int (0 : Int32)) h3 n0 sz3 f7 f8 g_ rfl f9 f3w) hZ (tw hw (i := 119) rfl) (tw hw (i := 106) rfl) (by decide) (by decide)) (g := (mkF m 17 #[rv oa] [(.int (64 : Int32)), (.ref oa)])) rfl (by rw [hml]; rfl) (Steps.refl _) (a := oa) (by rw [e3]; exact q6) q6' (argsL := [(.int (64 : Int32))]) (rest := []) (lenOf pd_9 rfl) rfl (by show 2 * 0 + _ ≤ _; exact Nat.le_of_eq rfl) (hb hby d13_17) (fun _ _ => ⟨rfl, e3, (by decide : 0 + 1 ≤ _), (by decide : 0 + 1 ≤ _)⟩)
  dsimp only [Pt.U, Pt.locs, Pt.cells, Pt.slots] at X6 l6 y6 z6 st6 hQ6
  subst l6 y6 z6
  obtain ⟨ow6, kw6, rfl, Nq6, Kc6, gt_6, Fw_6, Vw_6, P_oa_wordsInUse_6, P_oa_sizeIsSticky_6⟩ := hQ6
  have N6 := Fr.app N3 Nq6
  have K6 : Keep h0 T6.heap [oa] := K3.trans Kc6 (allS (Or.inl (List.mem_of_getElem? (i := 0) rfl)) all0)
  have sz6 : n0 ≤ T6.heap.size := Nat.le_trans sz3 Kc6.1
  have ge_ow6 : n0 ≤ ow6 := Nat.le_trans sz3 gt_6
  have sz_ow6 : h0.size ≤ ow6 := Nat.le_trans K3.1 gt_6
  have ne_oa_ow6 : oa ≠ ow6 := Nat.ne_of_lt (Nat.lt_of_lt_of_le f7.lt gt_6)
  have f11 : Exa Z T6.heap oa "java/util/BitSet" := (f7.keep Kc6)
  obtain ⟨T10, h10, X10, e10, W10, st10⟩ := putFN X6 hx hZ hown (tw hw (i := 113) rfl) Via.refl rfl P_oa_sizeIsSticky_6 f11 (Or.inl (tw hw (i := 114) rfl)) (tw hw (i := 105) rfl) (ty := .boolean) (v' := (.int (0 : Int32))) (by decide) rfl rfl (g := (mkF m 22 #[rv oa] [(.int (0 : Int32)), (.ref oa)])) rfl rfl (hb hby d13_22)
  have f10w := P_oa_sizeIsSticky_6.same W10
  have K10 : Keep h0 h10 [oa] := K6.wr W10 (Or.inl (List.mem_of_getElem? (i := 0) rfl))
  have N10 := Fr.snoc X10 N6 g_
  have sz10 : n0 ≤ h10.size := Nat.le_trans sz6 (Keep.of_wr W10).1
  have pre12 : ∀ t, own_K p e below m T10 25 #[rv oa] [] t → G t := by
    intro t k
    refine pre0 t ?_
    show own_K p e below m s₁ 0 #[rv oa] [] _
    refine XS.aloadN X0.here hx rfl (hb hby d13_0) rfl rfl ?_
    show own_K p e below m s₁ 1 #[rv oa] [(.ref oa)] _
    refine st1 _ ?_
    show own_K p e below m T1 4 #[rv oa] [] _
    refine XS.aloadN X1.here hx rfl (hb hby d13_4) rfl rfl ?_
    show own_K p e below m T1 5 #[rv oa] [(.ref oa)] _
    refine XS.iconst X1.here hx rfl (hb hby d13_5) ?_
    show own_K p e below m T1 6 #[rv oa] [(.int (0 : Int32)), (.ref oa)] _
    refine st2 _ ?_
    show own_K p e below m T2 9 #[rv oa] [] _
    refine XS.aloadN X2.here hx rfl (hb hby d13_9) rfl rfl ?_
    show own_K p e below m T2 10 #[rv oa] [(.ref oa)] _
    refine XS.iconst X2.here hx rfl (hb hby d13_10) ?_
    show own_K p e below m T2 11 #[rv oa] [(.int (0 : Int32)), (.ref oa)] _
    refine st3 _ ?_
    show own_K p e below m T3 14 #[rv oa] [] _
    refine XS.aloadN X3.here hx rfl (hb hby d13_14) rfl rfl ?_
    show own_K p e below m T3 15 #[rv oa] [(.ref oa)] _
    refine XS.bipush X3.here hx rfl (hb hby d13_15) ?_
    show own_K p e below m T3 17 #[rv oa] [(.int (64 : Int32)), (.ref oa)] _
    refine st6.trans ?_
    show own_K p e below m T6 20 #[rv oa] [] _
    refine XS.aloadN X6.here hx rfl (hb hby d13_20) rfl rfl ?_
    show own_K p e below m T6 21 #[rv oa] [(.ref oa)] _
    refine XS.iconst X6.here hx rfl (hb hby d13_21) ?_
    show own_K p e below m T6 22 #[rv oa] [(.int (0 : Int32)), (.ref oa)] _
    refine st10 _ ?_
    exact k
  have f13 : Fld Z h10 oa "java/util/BitSet" "words" "[J" (.ref ow6) := (Fw_6.other W10 (Or.inr (slot_ne (Or.inl (tw hw (i := 125) rfl)) (Or.inl (tw hw (i := 114) rfl)) (by decide) (t := (.array .long)) (t' := .boolean) (by decide) (by decide))))
  have f14 : Arv Z h10 ow6 kw6 .long (1 : Int32) [(.long (0 : Int64))] (.long (0 : Int64)) := (Vw_6.other W10 (Ne.symm ne_oa_ow6))
  have f15 : Fld Z h10 oa "java/util/BitSet" "wordsInUse" "I" (.int (0 : Int32)) := (P_oa_wordsInUse_6.other W10 (Or.inr (slot_ne (Or.inl (tw hw (i := 112) rfl)) (Or.inl (tw hw (i := 114) rfl)) (by decide) (t := .int) (t' := .boolean) (by decide) (by decide))))
  obtain ⟨fs, hr, hrun, hended, hW, hsame⟩ := X10.leave (v := none) (fun _ => rfl)
  refine ⟨_, _, hG _ (pre12 _ ?_), hrun, hended, _, _, rfl, ?_, ⟨_, rfl⟩, hW, hsame.mono (by decide) (by decide)⟩
  · show own_K p e below m T10 25 #[rv oa] [] _
    exact X10.returnOut hx Bd.returns (hb hby d13_25) hr
  · show Q13 Z oa u0 u1 u2 h0 n0 _ T10.heap _
    rw [e10]
    exact ⟨ow6, kw6, rfl, N10, K10, sz_ow6, f13, f14, f15, f10w⟩

theorem d12_0 : decode prog_141_method_1_code 0 = .ok (.aload_n 0, 1) := by decide +kernel
theorem d12_1 : decode prog_141_method_1_code 1 = .ok (.invokespecial 1, 3) := by decide +kernel
theorem d12_4 : decode prog_141_method_1_code 4 = .ok (.aload_n 0, 1) := by decide +kernel
theorem d12_5 : decode prog_141_method_1_code 5 = .ok (.invokestatic 7, 3) := by decide +kernel
theorem d12_8 : decode prog_141_method_1_code 8 = .ok (.putfield 13, 3) := by decide +kernel
theorem d12_11 : decode prog_141_method_1_code 11 = .ok (.aload_n 0, 1) := by decide +kernel
theorem d12_12 : decode prog_141_method_1_code 12 = .ok (.new 19, 3) := by decide +kernel
theorem d12_15 : decode prog_141_method_1_code 15 = .ok (.dup, 1) := by decide +kernel
theorem d12_16 : decode prog_141_method_1_code 16 = .ok (.invokespecial 21, 3) := by decide +kernel
theorem d12_19 : decode prog_141_method_1_code 19 = .ok (.putfield 22, 3) := by decide +kernel
theorem d12_22 : decode prog_141_method_1_code 22 = .ok (.aload_n 0, 1) := by decide +kernel
theorem d12_23 : decode prog_141_method_1_code 23 = .ok (.ldc2_w 26, 3) := by decide +kernel
theorem d12_26 : decode prog_141_method_1_code 26 = .ok (.putfield 28, 3) := by decide +kernel
theorem d12_29 : decode prog_141_method_1_code 29 = .ok (.aload_n 0, 1) := by decide +kernel
theorem d12_30 : decode prog_141_method_1_code 30 = .ok (.new 19, 3) := by decide +kernel
theorem d12_33 : decode prog_141_method_1_code 33 = .ok (.dup, 1) := by decide +kernel
theorem d12_34 : decode prog_141_method_1_code 34 = .ok (.invokespecial 21, 3) := by decide +kernel
theorem d12_37 : decode prog_141_method_1_code 37 = .ok (.putfield 32, 3) := by decide +kernel
theorem d12_40 : decode prog_141_method_1_code 40 = .ok (.aload_n 0, 1) := by decide +kernel
theorem d12_41 : decode prog_141_method_1_code 41 = .ok (.iload_n 1, 1) := by decide +kernel
theorem d12_42 : decode prog_141_method_1_code 42 = .ok (.putfield 35, 3) := by decide +kernel
theorem d12_45 : decode prog_141_method_1_code 45 = .ok (.aload_n 0, 1) := by decide +kernel
theorem d12_46 : decode prog_141_method_1_code 46 = .ok (.aload_n 2, 1) := by decide +kernel
theorem d12_47 : decode prog_141_method_1_code 47 = .ok (.invokevirtual 39, 3) := by decide +kernel
theorem pd_10 : parseMethodDescriptor "()J" = some ⟨[], some .long⟩ := by decide +kernel
theorem d12_50 : decode prog_141_method_1_code 50 = .ok (.putfield 45, 3) := by decide +kernel
theorem d12_53 : decode prog_141_method_1_code 53 = .ok (.aload_n 0, 1) := by decide +kernel
theorem d12_54 : decode prog_141_method_1_code 54 = .ok (.aload_n 0, 1) := by decide +kernel
theorem d12_55 : decode prog_141_method_1_code 55 = .ok (.getfield 45, 3) := by decide +kernel
theorem d12_58 : decode prog_141_method_1_code 58 = .ok (.putfield 48, 3) := by decide +kernel
theorem d12_61 : decode prog_141_method_1_code 61 = .ok (.aload_n 0, 1) := by decide +kernel
theorem d12_62 : decode prog_141_method_1_code 62 = .ok (.aload_n 0, 1) := by decide +kernel
theorem d12_63 : decode prog_141_method_1_code 63 = .ok (.getfield 45, 3) := by decide +kernel
theorem d12_66 : decode prog_141_method_1_code 66 = .ok (.putfield 51, 3) := by decide +kernel
theorem d12_69 : decode prog_141_method_1_code 69 = .ok (.aload_n 0, 1) := by decide +kernel
theorem d12_70 : decode prog_141_method_1_code 70 = .ok (.aload_n 2, 1) := by decide +kernel
theorem d12_71 : decode prog_141_method_1_code 71 = .ok (.invokevirtual 53, 3) := by decide +kernel
theorem d12_74 : decode prog_141_method_1_code 74 = .ok (.putfield 56, 3) := by decide +kernel
theorem d12_77 : decode prog_141_method_1_code 77 = .ok (.aload_n 0, 1) := by decide +kernel
theorem d12_78 : decode prog_141_method_1_code 78 = .ok (.aload_n 2, 1) := by decide +kernel
theorem d12_79 : decode prog_141_method_1_code 79 = .ok (.invokevirtual 59, 3) := by decide +kernel
theorem d12_82 : decode prog_141_method_1_code 82 = .ok (.putfield 62, 3) := by decide +kernel
theorem d12_85 : decode prog_141_method_1_code 85 = .ok (.aload_n 2, 1) := by decide +kernel
theorem d12_86 : decode prog_141_method_1_code 86 = .ok (.invokevirtual 59, 3) := by decide +kernel
theorem d12_89 : decode prog_141_method_1_code 89 = .ok (.invokeinterface 65 1, 5) := by decide +kernel
theorem d12_94 : decode prog_141_method_1_code 94 = .ok (.ifCond .ne 71, 3) := by decide +kernel
theorem d12_165 : decode prog_141_method_1_code 165 = .ok (.return_, 1) := by decide +kernel
theorem pn_8 : plainName "evenkeel/client/Window" = true := by first | (simp [plainName, overriddenIn]; done) | decide +kernel
theorem ef_12 (m : MethodId) (x0 : Addr) (x1 : Int32) (x2 : Addr) : entryFrame m #[(.ref x0), (.int x1), (.ref x2)] 5 = mkF m 0 #[rv x0, iv x1, rv x2, .unset, .unset] [] := by first | (simp [entryFrame, mkF, argsToLocals, Value.category]; done) | rfl
def Q12 (Z : State) (oa : Addr) (xs : Int32) (oc : Addr) (u0 : Value) (u1 : Value) (u2 : Value) (u3 : Value) (u4 : Value) (u5 : Value) (u6 : Value) (u7 : Value) (u9 : Value) (u11 : Value) (qn : Int64) (el : Addr) (ea : Addr) (kE : ClassId) (h0 : Heap) (n0 : Nat) (rv_ : Option Value) (h_ : Heap) (L_ : List Loc) : Prop := ∃ (bf : Addr) (wf : Addr) (kf : ClassId) (bl : Addr) (wl : Addr) (kl : ClassId), rv_ = none ∧ Fr n0 L_ ∧ Keep h0 h_ [oa] ∧ Fld Z h_ oa "evenkeel/client/Window" "size" "I" (.int xs) ∧ Fld Z h_ oa "evenkeel/client/Window" "committed" "J" (.long qn) ∧ Fld Z h_ oa "evenkeel/client/Window" "unfinished" "J" (.long qn) ∧ Fld Z h_ oa "evenkeel/client/Window" "next" "J" (.long qn) ∧ Fld Z h_ oa "evenkeel/client/Window" "restart" "J" (.long (-1 : Int64)) ∧ Fld Z h_ oa "evenkeel/client/Window" "consumed" "Ljava/util/List;" (.ref el) ∧ Fld Z h_ oa "evenkeel/client/Window" "consumedAt" "I" (.int (0 : Int32)) ∧ Fld Z h_ oa "evenkeel/client/Window" "failing" "Ljava/util/TreeMap;" .null ∧ Fld Z h_ oa "evenkeel/client/Window" "committedAhead" "Ljava/util/List;" (.ref el) ∧ Fld Z h_ oa "evenkeel/client/Window" "committedFailures" "Ljava/util/List;" (.ref el) ∧ h0.size ≤ bf ∧ h0.size ≤ wf ∧ Fld Z h_ oa "evenkeel/client/Window" "finished" "Ljava/util/BitSet;" (.ref bf) ∧ Exa Z h_ bf "java/util/BitSet" ∧ Fld Z h_ bf "java/util/BitSet" "wordsInUse" "I" (.int (0 : Int32)) ∧ Fld Z h_ bf "java/util/BitSet" "sizeIsSticky" "Z" (.int (0 : Int32)) ∧ Fld Z h_ bf "java/util/BitSet" "words" "[J" (.ref wf) ∧ Arv Z h_ wf kf .long (1 : Int32) [(.long (0 : Int64))] (.long (0 : Int64)) ∧ h0.size ≤ bl ∧ h0.size ≤ wl ∧ Fld Z h_ oa "evenkeel/client/Window" "left" "Ljava/util/BitSet;" (.ref bl) ∧ Exa Z h_ bl "java/util/BitSet" ∧ Fld Z h_ bl "java/util/BitSet" "wordsInUse" "I" (.int (0 : Int32)) ∧ Fld Z h_ bl "java/util/BitSet" "sizeIsSticky" "Z" (.int (0 : Int32)) ∧ Fld Z h_ bl "java/util/BitSet" "words" "[J" (.ref wl) ∧ Arv Z h_ wl kl .long (1 : Int32) [(.long (0 : Int64))] (.long (0 : Int64)) ∧ bf ≠ bl ∧ bf ≠ wl ∧ wf ≠ bl ∧ wf ≠ wl ∧ bf ≠ wf ∧ bl ≠ wl
set_option maxRecDepth 65536 in
set_option maxHeartbeats 40000000 in
theorem rm12 (l : Launch) (Z : State) (a0 : Array Value) (hw : ∀ d ∈ tables_1, d.before a0 Z = true) (ws : List Jvm.Cond) (oa : Addr) (xs : Int32) (oc : Addr) (u0 : Value) (u1 : Value) (u2 : Value) (u3 : Value) (u4 : Value) (u5 : Value) (u6 : Value) (u7 : Value) (u9 : Value) (u11 : Value) (qn : Int64) (el : Addr) (ea : Addr) (kE : ClassId) (h0 : Heap) (n0 : Nat) (Z0 : n0 ≤ h0.size) (E_ : Exa Z h0 oa "evenkeel/client/Window") (F0 : Fld Z h0 oa "evenkeel/client/Window" "size" "I" u0) (F1 : Fld Z h0 oa "evenkeel/client/Window" "committed" "J" u1) (F2 : Fld Z h0 oa "evenkeel/client/Window" "committedAhead" "Ljava/util/List;" u2) (F3 : Fld Z h0 oa "evenkeel/client/Window" "unfinished" "J" u3) (F4 : Fld Z h0 oa "evenkeel/client/Window" "next" "J" u4) (F5 : Fld Z h0 oa "evenkeel/client/Window" "finished" "Ljava/util/BitSet;" u5) (F6 : Fld Z h0 oa "evenkeel/client/Window" "restart" "J" u6) (F7 : Fld Z h0 oa "evenkeel/client/Window" "consumed" "Ljava/util/List;" u7) (F8 : Fld Z h0 oa "evenkeel/client/Window" "consumedAt" "I" (.int (0 : Int32))) (F9 : Fld Z h0 oa "evenkeel/client/Window" "left" "Ljava/util/BitSet;" u9) (F10 : Fld Z h0 oa "evenkeel/client/Window" "failing" "Ljava/util/TreeMap;" .null) (F11 : Fld Z h0 oa "evenkeel/client/Window" "committedFailures" "Ljava/util/List;" u11) (g_ : n0 ≤ oa) (Ec : Exa Z h0 oc "evenkeel/model/CommittedOffset") (Fn : Fld Z h0 oc "evenkeel/model/CommittedOffset" "next" "J" (.long qn)) (Fh : Fld Z h0 oc "evenkeel/model/CommittedOffset" "ahead" "Ljava/util/List;" (.ref el)) (Ff : Fld Z h0 oc "evenkeel/model/CommittedOffset" "failed" "Ljava/util/List;" (.ref el)) (nao : oa ≠ oc) (O_ : Old Z n0 h0) (P_ : own_P Z el ea kE) :
    MetFree l (⟨"evenkeel/client/Window", "<init>", "(ILevenkeel/model/CommittedOffset;)V"⟩ : MethodName) (head1 (Jvm.Cond.code (⟨"evenkeel/client/Window", "<init>", "(ILevenkeel/model/CommittedOffset;)V"⟩ : MethodName) prog_141_method_1_code 5 none :: ws) ({ frames := 3, cells := 4, slots := 8, locals := 40 } : Room)) (fun a U => a = #[(.ref oa), (.int xs), (.ref oc)] ∧ Z.Warmed39 U.vm ∧ U.heap = h0) (fun _ _ _ _ _ => True) (fun _ U o U' => ∃ v L, o = .returned v ∧ Q12 Z oa xs oc u0 u1 u2 u3 u4 u5 u6 u7 u9 u11 qn el ea kE h0 n0 v U'.heap L ∧ FrameEnd U o U' L ({ frames := 3, cells := 4, slots := 8, locals := 40 } : Room).cells ({ frames := 3, cells := 4, slots := 8, locals := 40 } : Room).slots) := by
  refine MetFree.of_bodySF (plainFor_of_name pn_8) hisR ?_
  intro p e s m args below meth c s₁ Bd hml0 hP hK
  obtain ⟨rfl, hZ, hh⟩ := hP
  have hx := Bd.exec
  have hby := Bd.bytes
  have hml : c.maxLocals = 5 := hml0
  have hown : s.vm.findClass "evenkeel/client/Window" = some m.cls := findClass_of_methodNamed Bd.named
  have hnm := (name_of_methodNamed Bd.named Bd.method).1
  have X0 : Stand p l e ({ frames := 3, cells := 4, slots := 8, locals := 40 } : Room) s m #[(.ref oa), (.int xs), (.ref oc)] below meth c s₁ [] 0 0 := Stand.of_body Bd
  have e0 : s₁.heap = h0 := by rw [← hh, Bd.state]; rfl
  have N0 := Fr.nil n0
  obtain ⟨G, hG, pre0⟩ : ∃ G : State → Prop, (∀ t, G t → Steps p.tables e below (s₁.setTop (entryFrame m #[(.ref oa), (.int xs), (.ref oc)] 5)) t) ∧ ∀ t, own_K p e below m s₁ 0 #[rv oa, iv xs, rv oc, .unset, .unset] [] t → G t := ⟨fun t => Steps p.tables e below (s₁.setTop (entryFrame m #[(.ref oa), (.int xs), (.ref oc)] 5)) t, fun _ k => k, fun t k => castTop (ef_12 m oa xs oc) k⟩
  obtain ⟨T1, X1, e1, st1⟩ := initO X0 hx hZ hown (tw hw (i := 100) rfl) (tw hw (i := 26) rfl) (tw hw (i := 27) rfl) e0 (g := (mkF m 1 #[rv oa, iv xs, rv oc, .unset, .unset] [(.ref oa)])) rfl (by rw [hml]; rfl) rfl (hb hby d12_1) (by decide) (W := 0) (by show 2 * 0 + _ ≤ _; exact Nat.le_of_eq rfl) (by decide)
  obtain ⟨_, _, ⟨T2, L2, k2, n2⟩, -, X2, ⟨Lc2, hQ2, l2, y2, z2⟩, st2⟩ := Jvm.LawKit.callS X1 hx (y := (⟨"java/util/List", "of", "()Ljava/util/List;"⟩ : MethodName)) hown (mvT hZ (tw hw (i := 101) rfl)) (mvT hZ (tw hw (i := 12) rfl)) (mvT hZ (tw hw (i := 13) rfl)) (mvT hZ (tw hw (i := 14) rfl)) (by decide) (backOf (W := 1) (rm2 l Z a0 hw [] el ea kE h0 n0 Z0 O_ P_) hZ (tw hw (i := 14) rfl) (tw hw (i := 13) rfl) (by decide) (by decide)) (g := (mkF m 5 #[rv oa, iv xs, rv oc, .unset, .unset] [(.ref oa)])) rfl (by rw [hml]; rfl) (argsL := []) (rest := [(.ref oa)]) (lenOf pd_6 rfl) rfl (by show 2 * 0 + _ ≤ _; exact Nat.le_of_eq rfl) (hb hby d12_5) (fun _ _ => ⟨rfl, e1, (by decide : 0 + 0 ≤ _), (by decide : 0 + 0 ≤ _)⟩)
  dsimp only [Pt.U, Pt.locs, Pt.cells, Pt.slots] at X2 l2 y2 z2 st2 hQ2
  subst l2 y2 z2
  obtain ⟨rfl, Nq2, eh2⟩ := hQ2
  have N2 := Fr.app N0 Nq2
  obtain ⟨T3, h3, X3, e3, W3, st3⟩ := putF X2 hx hZ hown (host := "") (Or.inl (tw hw (i := 102) rfl)) Via.refl eh2 F2 E_ (Or.inl (tw hw (i := 103) rfl)) (tw hw (i := 3) rfl) (ty := (.object "java/util/List")) (by decide) rfl rfl (g := (mkF m 8 #[rv oa, iv xs, rv oc, .unset, .unset] [(.ref el), (.ref oa)])) rfl rfl (hb hby d12_8)
  have f3w := F2.same W3
  have K3 : Keep h0 h3 [oa] := (Keep.refl h0 [oa]).wr W3 (Or.inl (List.mem_of_getElem? (i := 0) rfl))
  have N3 := Fr.snoc X3 N2 g_
  have sz3 : n0 ≤ h3.size := Nat.le_trans Z0 (Keep.of_wr W3).1
  obtain ⟨T4, h4, X4, e4, E4, A4, D4, -, st4⟩ := newO X3 hx hZ hown (tw hw (i := 104) rfl) (tw hw (i := 105) rfl) (tw hw (i := 106) rfl) e3 (g := (mkF m 12 #[rv oa, iv xs, rv oc, .unset, .unset] [(.ref oa)])) rfl (hb hby d12_12) (by decide) (by decide)
  obtain ⟨b4, g4⟩ : ∃ z, z = h3.size := ⟨_, rfl⟩
  rw [← g4] at A4 D4 st4
  have f5 : Exa Z h3 oa "evenkeel/client/Window" := (E_.wr W3)
  have ne4_oa : oa ≠ b4 := Nat.ne_of_lt (Nat.lt_of_lt_of_le f5.lt (Nat.le_of_eq g4.symm))
  have f6 : Exa Z h3 oc "evenkeel/model/CommittedOffset" := (Ec.wr W3)
  have ne4_oc : oc ≠ b4 := Nat.ne_of_lt (Nat.lt_of_lt_of_le f6.lt (Nat.le_of_eq g4.symm))
  have ge_b4 : n0 ≤ b4 := Nat.le_trans sz3 (Nat.le_of_eq g4.symm)
  have sz_b4 : h0.size ≤ b4 := Nat.le_trans K3.1 (Nat.le_of_eq g4.symm)
  have K4 : Keep h0 h4 [oa] := K3.ext E4
  have sz4 : n0 ≤ h4.size := Nat.le_trans sz3 E4.1
  have f7 : Fld Z h4 b4 "java/util/BitSet" "wordsInUse" "I" (.int (0 : Int32)) := D4 (Or.inl (tw hw (i := 112) rfl)) (ty := .int) (by decide)
  have f8 : Fld Z h4 b4 "java/util/BitSet" "sizeIsSticky" "Z" (.int (0 : Int32)) := D4 (Or.inl (tw hw (i := 114) rfl)) (ty := .boolean) (by decide)
  have f9 : Fld Z h4 b4 "java/util/BitSet" "words" "[J" .null := D4 (Or.inl (tw hw (i := 125) rfl)) (ty := (.array .long)) (by decide)
  have f11 : Exa Z h4 oa "evenkeel/client/Window" := (f5.ext E4)
  have f12 : Exa Z h4 oc "evenkeel/model/CommittedOffset" := (f6.ext E4)
  obtain ⟨_, _, ⟨T10, L10, k10, n10⟩, -, X10, ⟨Lc10, hQ10, l10, y10, z10⟩, st10⟩ := X4.specialBack hx (y := (⟨"java/util/BitSet", "<init>", "()V"⟩ : MethodName)) rfl hown (mvT hZ (tw hw (i := 107) rfl)) (mvT hZ (tw hw (i := 108) rfl)) (mvT hZ (tw hw (i := 109) rfl)) (by decide) (backOf (W := 2) (rm13 l Z a0 hw [] b4 (.int (0 : Int32)) (.int (0 : Int32)) .null h4 n0 sz4 A4 f7 f8 f9 ge_b4) hZ (tw hw (i := 109) rfl) (tw hw (i := 106) rfl) (by decide) (by decide)) (g := (mkF m 16 #[rv oa, iv xs, rv oc, .unset, .unset] [(.ref b4), (.ref b4), (.ref oa)])) rfl (by rw [hml]; rfl) (Steps.refl _) (a := b4) (argsL := []) (rest := [(.ref b4), (.ref oa)]) (lenOf pd_3 rfl) rfl (by show 2 * 0 + _ ≤ _; exact Nat.le_of_eq rfl) (hb hby d12_16) (fun _ _ => ⟨rfl, e4, (by decide : 1 + 1 ≤ _), (by decide : 3 + 1 ≤ _)⟩)
  dsimp only [Pt.U, Pt.locs, Pt.cells, Pt.slots] at X10 l10 y10 z10 st10 hQ10
  subst l10 y10 z10
  obtain ⟨ow10, kw10, rfl, Nq10, Kc10, gt_10, Fw_10, Vw_10, Fu_10, Fy_10⟩ := hQ10
  have N10 := Fr.app N3 Nq10
  have K10 : Keep h0 T10.heap [oa] := K4.trans Kc10 (allS (Or.inr sz_b4) all0)
  have sz10 : n0 ≤ T10.heap.size := Nat.le_trans sz4 Kc10.1
  have ge_ow10 : n0 ≤ ow10 := Nat.le_trans sz4 gt_10
  have sz_ow10 : h0.size ≤ ow10 := Nat.le_trans K4.1 gt_10
  have ne_oa_ow10 : oa ≠ ow10 := Nat.ne_of_lt (Nat.lt_of_lt_of_le f11.lt gt_10)
  have ne_oc_ow10 : oc ≠ ow10 := Nat.ne_of_lt (Nat.lt_of_lt_of_le f12.lt gt_10)
  have ne_b4_ow10 : b4 ≠ ow10 := Nat.ne_of_lt (Nat.lt_of_lt_of_le A4.lt gt_10)
  have f14 : Fld Z T10.heap oa "evenkeel/client/Window" "finished" "Ljava/util/BitSet;" u5 := (((F5.other W3 (Or.inr (slot_ne (Or.inr (tw hw (i := 127) rfl)) (Or.inl (tw hw (i := 103) rfl)) (by decide) (t := (.object "java/util/BitSet")) (t' := (.object "java/util/List")) (by decide) (by decide)))).ext E4).keep Kc10 (ninS ne4_oa nin0))
  have f15 : Exa Z T10.heap oa "evenkeel/client/Window" := (f11.keep Kc10)
  obtain ⟨T13, h13, X13, e13, W13, st13⟩ := putF X10 hx hZ hown (host := "") (Or.inl (tw hw (i := 126) rfl)) Via.refl rfl f14 f15 (Or.inr ⟨(tw hw (i := 127) rfl), rfl, hnm⟩) (tw hw (i := 3) rfl) (ty := (.object "java/util/BitSet")) (by decide) rfl rfl (g := (mkF m 19 #[rv oa, iv xs, rv oc, .unset, .unset] [(.ref b4), (.ref oa)])) rfl rfl (hb hby d12_19)
  have f13w := f14.same W13
  have K13 : Keep h0 h13 [oa] := K10.wr W13 (Or.inl (List.mem_of_getElem? (i := 0) rfl))
  have N13 := Fr.snoc X13 N10 g_
  have sz13 : n0 ≤ h13.size := Nat.le_trans sz10 (Keep.of_wr W13).1
  have f17 : Fld Z h13 oa "evenkeel/client/Window" "restart" "J" u6 := ((((F6.other W3 (Or.inr (slot_ne (Or.inl (tw hw (i := 130) rfl)) (Or.inl (tw hw (i := 103) rfl)) (by decide) (t := .long) (t' := (.object "java/util/List")) (by decide) (by decide)))).ext E4).keep Kc10 (ninS ne4_oa nin0)).other W13 (Or.inr (slot_ne (Or.inl (tw hw (i := 130) rfl)) (Or.inr (tw hw (i := 127) rfl)) (by decide) (t := .long) (t' := (.object "java/util/BitSet")) (by decide) (by decide))))
  have f18 : Exa Z h13 oa "evenkeel/client/Window" := (f15.wr W13)
  obtain ⟨T16, h16, X16, e16, W16, st16⟩ := putF X13 hx hZ hown (host := "") (Or.inl (tw hw (i := 129) rfl)) Via.refl e13 f17 f18 (Or.inl (tw hw (i := 130) rfl)) (tw hw (i := 3) rfl) (ty := .long) (by decide) rfl rfl (g := (mkF m 26 #[rv oa, iv xs, rv oc, .unset, .unset] [(.long (-1 : Int64)), (.ref oa)])) rfl rfl (hb hby d12_26)
  have f16w := f17.same W16
  have K16 : Keep h0 h16 [oa] := K13.wr W16 (Or.inl (List.mem_of_getElem? (i := 0) rfl))
  have N16 := Fr.snoc X16 N13 g_
  have sz16 : n0 ≤ h16.size := Nat.le_trans sz13 (Keep.of_wr W16).1
  obtain ⟨T19, h19, X19, e19, E19, A19, D19, -, st19⟩ := newO X16 hx hZ hown (tw hw (i := 104) rfl) (tw hw (i := 105) rfl) (tw hw (i := 106) rfl) e16 (g := (mkF m 30 #[rv oa, iv xs, rv oc, .unset, .unset] [(.ref oa)])) rfl (hb hby d12_30) (by decide) (by decide)
  obtain ⟨b19, g19⟩ : ∃ z, z = h16.size := ⟨_, rfl⟩
  rw [← g19] at A19 D19 st19
  have f20 : Exa Z h16 oa "evenkeel/client/Window" := (f18.wr W16)
  have ne19_oa : oa ≠ b19 := Nat.ne_of_lt (Nat.lt_of_lt_of_le f20.lt (Nat.le_of_eq g19.symm))
  have f21 : Exa Z h16 oc "evenkeel/model/CommittedOffset" := (((f12.keep Kc10).wr W13).wr W16)
  have ne19_oc : oc ≠ b19 := Nat.ne_of_lt (Nat.lt_of_lt_of_le f21.lt (Nat.le_of_eq g19.symm))
  have f22 : Exa Z h16 b4 "java/util/BitSet" := (((A4.keep Kc10).wr W13).wr W16)
  have ne19_b4 : b4 ≠ b19 := Nat.ne_of_lt (Nat.lt_of_lt_of_le f22.lt (Nat.le_of_eq g19.symm))
  have f23 : Arv Z h16 ow10 kw10 .long (1 : Int32) [(.long (0 : Int64))] (.long (0 : Int64)) := ((Vw_10.other W13 (Ne.symm ne_oa_ow10)).other W16 (Ne.symm ne_oa_ow10))
  have ne19_ow10 : ow10 ≠ b19 := Nat.ne_of_lt (Nat.lt_of_lt_of_le f23.lt (Nat.le_of_eq g19.symm))
  have ge_b19 : n0 ≤ b19 := Nat.le_trans sz16 (Nat.le_of_eq g19.symm)
  have sz_b19 : h0.size ≤ b19 := Nat.le_trans K16.1 (Nat.le_of_eq g19.symm)
  have K19 : Keep h0 h19 [oa] := K16.ext E19
  have sz19 : n0 ≤ h19.size := Nat.le_trans sz16 E19.1
  have f24 : Fld Z h19 b19 "java/util/BitSet" "wordsInUse" "I" (.int (0 : Int32)) := D19 (Or.inl (tw hw (i := 112) rfl)) (ty := .int) (by decide)
  have f25 : Fld Z h19 b19 "java/util/BitSet" "sizeIsSticky" "Z" (.int (0 : Int32)) := D19 (Or.inl (tw hw (i := 114) rfl)) (ty := .boolean) (by decide)
  have f26 : Fld Z h19 b19 "java/util/BitSet" "words" "[J" .null := D19 (Or.inl (tw hw (i := 125) rfl)) (ty := (.array .long)) (by decide)
  have f28 : Exa Z h19 oa "evenkeel/client/Window" := (f20.ext E19)
  have f29 : Exa Z h19 oc "evenkeel/model/CommittedOffset" := (f21.ext E19)
  have f30 : Exa Z h19 b4 "java/util/BitSet" := (f22.ext E19)
  have f31 : Arv Z h19 ow10 kw10 .long (1 : Int32) [(.long (0 : Int64))] (.long (0 : Int64)) := (f23.ext E19)
  obtain ⟨_, _, ⟨T27, L27, k27, n27⟩, -, X27, ⟨Lc27, hQ27, l27, y27, z27⟩, st27⟩ := X19.specialBack hx (y := (⟨"java/util/BitSet", "<init>", "()V"⟩ : MethodName)) rfl hown (mvT hZ (tw hw (i := 107) rfl)) (mvT hZ (tw hw (i := 108) rfl)) (mvT hZ (tw hw (i := 109) rfl)) (by decide) (backOf (W := 2) (rm13 l Z a0 hw [] b19 (.int (0 : Int32)) (.int (0 : Int32)) .null h19 n0 sz19 A19 f24 f25 f26 ge_b19) hZ (tw hw (i := 109) rfl) (tw hw (i := 106) rfl) (by decide) (by decide)) (g := (mkF m 34 #[rv oa, iv xs, rv oc, .unset, .unset] [(.ref b19), (.ref b19), (.ref oa)])) rfl (by rw [hml]; rfl) (Steps.refl _) (a := b19) (argsL := []) (rest := [(.ref b19), (.ref oa)]) (lenOf pd_3 rfl) rfl (by show 2 * 0 + _ ≤ _; exact Nat.le_of_eq rfl) (hb hby d12_34) (fun _ _ => ⟨rfl, e19, (by decide : 3 + 1 ≤ _), (by decide : 7 + 1 ≤ _)⟩)
  dsimp only [Pt.U, Pt.locs, Pt.cells, Pt.slots] at X27 l27 y27 z27 st27 hQ27
  subst l27 y27 z27
  obtain ⟨ow27, kw27, rfl, Nq27, Kc27, gt_27, Fw_27, Vw_27, Fu_27, Fy_27⟩ := hQ27
  have N27 := Fr.app N16 Nq27
  have K27 : Keep h0 T27.heap [oa] := K19.trans Kc27 (allS (Or.inr sz_b19) all0)
  have sz27 : n0 ≤ T27.heap.size := Nat.le_trans sz19 Kc27.1
  have ge_ow27 : n0 ≤ ow27 := Nat.le_trans sz19 gt_27
  have sz_ow27 : h0.size ≤ ow27 := Nat.le_trans K19.1 gt_27
  have ne_oa_ow27 : oa ≠ ow27 := Nat.ne_of_lt (Nat.lt_of_lt_of_le f28.lt gt_27)
  have ne_oc_ow27 : oc ≠ ow27 := Nat.ne_of_lt (Nat.lt_of_lt_of_le f29.lt gt_27)
  have ne_b4_ow27 : b4 ≠ ow27 := Nat.ne_of_lt (Nat.lt_of_lt_of_le f30.lt gt_27)
  have ne_ow10_ow27 : ow10 ≠ ow27 := Nat.ne_of_lt (Nat.lt_of_lt_of_le f31.lt gt_27)
  have ne_b19_ow27 : b19 ≠ ow27 := Nat.ne_of_lt (Nat.lt_of_lt_of_le A19.lt gt_27)
  have f33 : Fld Z T27.heap oa "evenkeel/client/Window" "left" "Ljava/util/BitSet;" u9 := (((((((F9.other W3 (Or.inr (slot_ne (Or.inr (tw hw (i := 132) rfl)) (Or.inl (tw hw (i := 103) rfl)) (by decide) (t := (.object "java/util/BitSet")) (t' := (.object "java/util/List")) (by decide) (by decide)))).ext E4).keep Kc10 (ninS ne4_oa nin0)).other W13 (Or.inr (slot_ne (Or.inr (tw hw (i := 132) rfl)) (Or.inr (tw hw (i := 127) rfl)) (by decide) (t := (.object "java/util/BitSet")) (t' := (.object "java/util/BitSet")) (by decide) (by decide)))).other W16 (Or.inr (slot_ne (Or.inr (tw hw (i := 132) rfl)) (Or.inl (tw hw (i := 130) rfl)) (by decide) (t := (.object "java/util/BitSet")) (t' := .long) (by decide) (by decide)))).ext E19).keep Kc27 (ninS ne19_oa nin0))
  have f34 : Exa Z T27.heap oa "evenkeel/client/Window" := (f28.keep Kc27)
  obtain ⟨T32, h32, X32, e32, W32, st32⟩ := putF X27 hx hZ hown (host := "") (Or.inl (tw hw (i := 131) rfl)) Via.refl rfl f33 f34 (Or.inr ⟨(tw hw (i := 132) rfl), rfl, hnm⟩) (tw hw (i := 3) rfl) (ty := (.object "java/util/BitSet")) (by decide) rfl rfl (g := (mkF m 37 #[rv oa, iv xs, rv oc, .unset, .unset] [(.ref b19), (.ref oa)])) rfl rfl (hb hby d12_37)
  have f32w := f33.same W32
  have K32 : Keep h0 h32 [oa] := K27.wr W32 (Or.inl (List.mem_of_getElem? (i := 0) rfl))
  have N32 := Fr.snoc X32 N27 g_
  have sz32 : n0 ≤ h32.size := Nat.le_trans sz27 (Keep.of_wr W32).1
  have f36 : Fld Z h32 oa "evenkeel/client/Window" "size" "I" u0 := ((((((((F0.other W3 (Or.inr (slot_ne (Or.inr (tw hw (i := 134) rfl)) (Or.inl (tw hw (i := 103) rfl)) (by decide) (t := .int) (t' := (.object "java/util/List")) (by decide) (by decide)))).ext E4).keep Kc10 (ninS ne4_oa nin0)).other W13 (Or.inr (slot_ne (Or.inr (tw hw (i := 134) rfl)) (Or.inr (tw hw (i := 127) rfl)) (by decide) (t := .int) (t' := (.object "java/util/BitSet")) (by decide) (by decide)))).other W16 (Or.inr (slot_ne (Or.inr (tw hw (i := 134) rfl)) (Or.inl (tw hw (i := 130) rfl)) (by decide) (t := .int) (t' := .long) (by decide) (by decide)))).ext E19).keep Kc27 (ninS ne19_oa nin0)).other W32 (Or.inr (slot_ne (Or.inr (tw hw (i := 134) rfl)) (Or.inr (tw hw (i := 132) rfl)) (by decide) (t := .int) (t' := (.object "java/util/BitSet")) (by decide) (by decide))))
  have f37 : Exa Z h32 oa "evenkeel/client/Window" := (f34.wr W32)
  obtain ⟨T35, h35, X35, e35, W35, st35⟩ := putF X32 hx hZ hown (host := "") (Or.inl (tw hw (i := 133) rfl)) Via.refl e32 f36 f37 (Or.inr ⟨(tw hw (i := 134) rfl), rfl, hnm⟩) (tw hw (i := 3) rfl) (ty := .int) (by decide) rfl rfl (g := (mkF m 42 #[rv oa, iv xs, rv oc, .unset, .unset] [(.int xs), (.ref oa)])) rfl rfl (hb hby d12_42)
  have f35w := f36.same W35
  have K35 : Keep h0 h35 [oa] := K32.wr W35 (Or.inl (List.mem_of_getElem? (i := 0) rfl))
  have N35 := Fr.snoc X35 N32 g_
  have sz35 : n0 ≤ h35.size := Nat.le_trans sz32 (Keep.of_wr W35).1
  have f39 : Fld Z h35 oc "evenkeel/model/CommittedOffset" "next" "J" (.long qn) := (((((((((Fn.other W3 (Or.inl (Ne.symm nao))).ext E4).keep Kc10 (ninS ne4_oc nin0)).other W13 (Or.inl (Ne.symm nao))).other W16 (Or.inl (Ne.symm nao))).ext E19).keep Kc27 (ninS ne19_oc nin0)).other W32 (Or.inl (Ne.symm nao))).other W35 (Or.inl (Ne.symm nao)))
  have f40 : Exa Z h35 oc "evenkeel/model/CommittedOffset" := (((f29.keep Kc27).wr W32).wr W35)
  obtain ⟨cq38, kq38, q38a, q38b, q38c⟩ := isOf hZ e35 f40
  obtain ⟨_, _, ⟨T38, L38, k38, n38⟩, -, X38, ⟨Lc38, hQ38, l38, y38, z38⟩, st38⟩ := X35.virtualBack hx (y := (⟨"evenkeel/model/CommittedOffset", "next", "()J"⟩ : MethodName)) (z := (⟨"evenkeel/model/CommittedOffset", "next", "()J"⟩ : MethodName)) hown (mvT hZ (tw hw (i := 135) rfl)) (mvT hZ (tw hw (i := 136) rfl)) (notFace_of_selects (args := #[]) (mvT hZ (tw hw (i := 138) rfl))) (mvT hZ (tw hw (i := 138) rfl)) (mvT hZ (tw hw (i := 137) rfl)) (by decide) (backOf (W := 1) (rm16 l Z a0 hw [] oc qn h35 n0 sz35 f39) hZ (tw hw (i := 139) rfl) (tw hw (i := 7) rfl) (by decide) (by decide)) q38a q38c (g := (mkF m 47 #[rv oa, iv xs, rv oc, .unset, .unset] [(.ref oc), (.ref oa)])) rfl (by rw [hml]; rfl) (Steps.refl _) (argsL := []) (rest := [(.ref oa)]) (lenOf pd_10 rfl) rfl (by show 2 * 0 + _ ≤ _; exact Nat.le_of_eq rfl) (hb hby d12_47) (fun _ _ => ⟨rfl, e35, (by decide : 4 + 0 ≤ _), (by decide : 8 + 0 ≤ _)⟩)
  dsimp only [Pt.U, Pt.locs, Pt.cells, Pt.slots] at X38 l38 y38 z38 st38 hQ38
  subst l38 y38 z38
  obtain ⟨rfl, Nq38, eh38⟩ := hQ38
  have N38 := Fr.app N35 Nq38
  have f42 : Fld Z h35 oa "evenkeel/client/Window" "committed" "J" u1 := (((((((((F1.other W3 (Or.inr (slot_ne (Or.inl (tw hw (i := 141) rfl)) (Or.inl (tw hw (i := 103) rfl)) (by decide) (t := .long) (t' := (.object "java/util/List")) (by decide) (by decide)))).ext E4).keep Kc10 (ninS ne4_oa nin0)).other W13 (Or.inr (slot_ne (Or.inl (tw hw (i := 141) rfl)) (Or.inr (tw hw (i := 127) rfl)) (by decide) (t := .long) (t' := (.object "java/util/BitSet")) (by decide) (by decide)))).other W16 (Or.inr (slot_ne (Or.inl (tw hw (i := 141) rfl)) (Or.inl (tw hw (i := 130) rfl)) (by decide) (t := .long) (t' := .long) (by decide) (by decide)))).ext E19).keep Kc27 (ninS ne19_oa nin0)).other W32 (Or.inr (slot_ne (Or.inl (tw hw (i := 141) rfl)) (Or.inr (tw hw (i := 132) rfl)) (by decide) (t := .long) (t' := (.object "java/util/BitSet")) (by decide) (by decide)))).other W35 (Or.inr (slot_ne (Or.inl (tw hw (i := 141) rfl)) (Or.inr (tw hw (i := 134) rfl)) (by decide) (t := .long) (t' := .int) (by decide) (by decide))))
  have f43 : Exa Z h35 oa "evenkeel/client/Window" := (f37.wr W35)
  obtain ⟨T41, h41, X41, e41, W41, st41⟩ := putF X38 hx hZ hown (host := "") (Or.inl (tw hw (i := 140) rfl)) Via.refl eh38 f42 f43 (Or.inl (tw hw (i := 141) rfl)) (tw hw (i := 3) rfl) (ty := .long) (by decide) rfl rfl (g := (mkF m 50 #[rv oa, iv xs, rv oc, .unset, .unset] [(.long qn), (.ref oa)])) rfl rfl (hb hby d12_50)
  have f41w := f42.same W41
  have K41 : Keep h0 h41 [oa] := K35.wr W41 (Or.inl (List.mem_of_getElem? (i := 0) rfl))
  have N41 := Fr.snoc X41 N38 g_
  have sz41 : n0 ≤ h41.size := Nat.le_trans sz35 (Keep.of_wr W41).1
  obtain ⟨T44, X44, e44, st44⟩ := getF X41 hx hZ hown (host := "") (Or.inl (tw hw (i := 140) rfl)) Via.refl e41 f41w (g := (mkF m 55 #[rv oa, iv xs, rv oc, .unset, .unset] [(.ref oa), (.ref oa)])) rfl rfl (hb hby d12_55)
  have f46 : Fld Z h41 oa "evenkeel/client/Window" "unfinished" "J" u3 := ((((((((((F3.other W3 (Or.inr (slot_ne (Or.inl (tw hw (i := 143) rfl)) (Or.inl (tw hw (i := 103) rfl)) (by decide) (t := .long) (t' := (.object "java/util/List")) (by decide) (by decide)))).ext E4).keep Kc10 (ninS ne4_oa nin0)).other W13 (Or.inr (slot_ne (Or.inl (tw hw (i := 143) rfl)) (Or.inr (tw hw (i := 127) rfl)) (by decide) (t := .long) (t' := (.object "java/util/BitSet")) (by decide) (by decide)))).other W16 (Or.inr (slot_ne (Or.inl (tw hw (i := 143) rfl)) (Or.inl (tw hw (i := 130) rfl)) (by decide) (t := .long) (t' := .long) (by decide) (by decide)))).ext E19).keep Kc27 (ninS ne19_oa nin0)).other W32 (Or.inr (slot_ne (Or.inl (tw hw (i := 143) rfl)) (Or.inr (tw hw (i := 132) rfl)) (by decide) (t := .long) (t' := (.object "java/util/BitSet")) (by decide) (by decide)))).other W35 (Or.inr (slot_ne (Or.inl (tw hw (i := 143) rfl)) (Or.inr (tw hw (i := 134) rfl)) (by decide) (t := .long) (t' := .int) (by decide) (by decide)))).other W41 (Or.inr (slot_ne (Or.inl (tw hw (i := 143) rfl)) (Or.inl (tw hw (i := 141) rfl)) (by decide) (t := .long) (t' := .long) (by decide) (by decide))))
  have f47 : Exa Z h41 oa "evenkeel/client/Window" := (f43.wr W41)
  obtain ⟨T45, h45, X45, e45, W45, st45⟩ := putF X44 hx hZ hown (host := "") (Or.inl (tw hw (i := 142) rfl)) Via.refl e44 f46 f47 (Or.inl (tw hw (i := 143) rfl)) (tw hw (i := 3) rfl) (ty := .long) (by decide) rfl rfl (g := (mkF m 58 #[rv oa, iv xs, rv oc, .unset, .unset] [(.long qn), (.ref oa)])) rfl rfl (hb hby d12_58)
  have f45w := f46.same W45
  have K45 : Keep h0 h45 [oa] := K41.wr W45 (Or.inl (List.mem_of_getElem? (i := 0) rfl))
  have N45 := Fr.snoc X45 N41 g_
  have sz45 : n0 ≤ h45.size := Nat.le_trans sz41 (Keep.of_wr W45).1
  have f49 : Fld Z h45 oa "evenkeel/client/Window" "committed" "J" (.long qn) := (f41w.other W45 (Or.inr (slot_ne (Or.inl (tw hw (i := 141) rfl)) (Or.inl (tw hw (i := 143) rfl)) (by decide) (t := .long) (t' := .long) (by decide) (by decide))))
  obtain ⟨T48, X48, e48, st48⟩ := getF X45 hx hZ hown (host := "") (Or.inl (tw hw (i := 140) rfl)) Via.refl e45 f49 (g := (mkF m 63 #[rv oa, iv xs, rv oc, .unset, .unset] [(.ref oa), (.ref oa)])) rfl rfl (hb hby d12_63)
  have f51 : Fld Z h45 oa "evenkeel/client/Window" "next" "J" u4 := (((((((((((F4.other W3 (Or.inr (slot_ne (Or.inl (tw hw (i := 145) rfl)) (Or.inl (tw hw (i := 103) rfl)) (by decide) (t := .long) (t' := (.object "java/util/List")) (by decide) (by decide)))).ext E4).keep Kc10 (ninS ne4_oa nin0)).other W13 (Or.inr (slot_ne (Or.inl (tw hw (i := 145) rfl)) (Or.inr (tw hw (i := 127) rfl)) (by decide) (t := .long) (t' := (.object "java/util/BitSet")) (by decide) (by decide)))).other W16 (Or.inr (slot_ne (Or.inl (tw hw (i := 145) rfl)) (Or.inl (tw hw (i := 130) rfl)) (by decide) (t := .long) (t' := .long) (by decide) (by decide)))).ext E19).keep Kc27 (ninS ne19_oa nin0)).other W32 (Or.inr (slot_ne (Or.inl (tw hw (i := 145) rfl)) (Or.inr (tw hw (i := 132) rfl)) (by decide) (t := .long) (t' := (.object "java/util/BitSet")) (by decide) (by decide)))).other W35 (Or.inr (slot_ne (Or.inl (tw hw (i := 145) rfl)) (Or.inr (tw hw (i := 134) rfl)) (by decide) (t := .long) (t' := .int) (by decide) (by decide)))).other W41 (Or.inr (slot_ne (Or.inl (tw hw (i := 145) rfl)) (Or.inl (tw hw (i := 141) rfl)) (by decide) (t := .long) (t' := .long) (by decide) (by decide)))).other W45 (Or.inr (slot_ne (Or.inl (tw hw (i := 145) rfl)) (Or.inl (tw hw (i := 143) rfl)) (by decide) (t := .long) (t' := .long) (by decide) (by decide))))
  have f52 : Exa Z h45 oa "evenkeel/client/Window" := (f47.wr W45)
  obtain ⟨T50, h50, X50, e50, W50, st50⟩ := putF X48 hx hZ hown (host := "") (Or.inl (tw hw (i := 144) rfl)) Via.refl e48 f51 f52 (Or.inl (tw hw (i := 145) rfl)) (tw hw (i := 3) rfl) (ty := .long) (by decide) rfl rfl (g := (mkF m 66 #[rv oa, iv xs, rv oc, .unset, .unset] [(.long qn), (.ref oa)])) rfl rfl (hb hby d12_66)
  have f50w := f51.same W50
  have K50 : Keep h0 h50 [oa] := K45.wr W50 (Or.inl (List.mem_of_getElem? (i := 0) rfl))
  have N50 := Fr.snoc X50 N45 g_
  have sz50 : n0 ≤ h50.size := Nat.le_trans sz45 (Keep.of_wr W50).1
  have f54 : Fld Z h50 oc "evenkeel/model/CommittedOffset" "ahead" "Ljava/util/List;" (.ref el) := ((((((((((((Fh.other W3 (Or.inl (Ne.symm nao))).ext E4).keep Kc10 (ninS ne4_oc nin0)).other W13 (Or.inl (Ne.symm nao))).other W16 (Or.inl (Ne.symm nao))).ext E19).keep Kc27 (ninS ne19_oc nin0)).other W32 (Or.inl (Ne.symm nao))).other W35 (Or.inl (Ne.symm nao))).other W41 (Or.inl (Ne.symm nao))).other W45 (Or.inl (Ne.symm nao))).other W50 (Or.inl (Ne.symm nao)))
  have f55 : Exa Z h50 oc "evenkeel/model/CommittedOffset" := (((f40.wr W41).wr W45).wr W50)
  obtain ⟨cq53, kq53, q53a, q53b, q53c⟩ := isOf hZ e50 f55
  obtain ⟨_, _, ⟨T53, L53, k53, n53⟩, -, X53, ⟨Lc53, hQ53, l53, y53, z53⟩, st53⟩ := X50.virtualBack hx (y := (⟨"evenkeel/model/CommittedOffset", "ahead", "()Ljava/util/List;"⟩ : MethodName)) (z := (⟨"evenkeel/model/CommittedOffset", "ahead", "()Ljava/util/List;"⟩ : MethodName)) hown (mvT hZ (tw hw (i := 146) rfl)) (mvT hZ (tw hw (i := 147) rfl)) (notFace_of_selects (args := #[]) (mvT hZ (tw hw (i := 149) rfl))) (mvT hZ (tw hw (i := 149) rfl)) (mvT hZ (tw hw (i := 148) rfl)) (by decide) (backOf (W := 1) (rm17 l Z a0 hw [] oc el h50 n0 sz50 f54) hZ (tw hw (i := 150) rfl) (tw hw (i := 7) rfl) (by decide) (by decide)) q53a q53c (g := (mkF m 71 #[rv oa, iv xs, rv oc, .unset, .unset] [(.ref oc), (.ref oa)])) rfl (by rw [hml]; rfl) (Steps.refl _) (argsL := []) (rest := [(.ref oa)]) (lenOf pd_6 rfl) rfl (by show 2 * 0 + _ ≤ _; exact Nat.le_of_eq rfl) (hb hby d12_71) (fun _ _ => ⟨rfl, e50, (by decide : 4 + 0 ≤ _), (by decide : 8 + 0 ≤ _)⟩)
  dsimp only [Pt.U, Pt.locs, Pt.cells, Pt.slots] at X53 l53 y53 z53 st53 hQ53
  subst l53 y53 z53
  obtain ⟨rfl, Nq53, eh53⟩ := hQ53
  have N53 := Fr.app N50 Nq53
  have f57 : Fld Z h50 oa "evenkeel/client/Window" "consumed" "Ljava/util/List;" u7 := ((((((((((((F7.other W3 (Or.inr (slot_ne (Or.inr (tw hw (i := 152) rfl)) (Or.inl (tw hw (i := 103) rfl)) (by decide) (t := (.object "java/util/List")) (t' := (.object "java/util/List")) (by decide) (by decide)))).ext E4).keep Kc10 (ninS ne4_oa nin0)).other W13 (Or.inr (slot_ne (Or.inr (tw hw (i := 152) rfl)) (Or.inr (tw hw (i := 127) rfl)) (by decide) (t := (.object "java/util/List")) (t' := (.object "java/util/BitSet")) (by decide) (by decide)))).other W16 (Or.inr (slot_ne (Or.inr (tw hw (i := 152) rfl)) (Or.inl (tw hw (i := 130) rfl)) (by decide) (t := (.object "java/util/List")) (t' := .long) (by decide) (by decide)))).ext E19).keep Kc27 (ninS ne19_oa nin0)).other W32 (Or.inr (slot_ne (Or.inr (tw hw (i := 152) rfl)) (Or.inr (tw hw (i := 132) rfl)) (by decide) (t := (.object "java/util/List")) (t' := (.object "java/util/BitSet")) (by decide) (by decide)))).other W35 (Or.inr (slot_ne (Or.inr (tw hw (i := 152) rfl)) (Or.inr (tw hw (i := 134) rfl)) (by decide) (t := (.object "java/util/List")) (t' := .int) (by decide) (by decide)))).other W41 (Or.inr (slot_ne (Or.inr (tw hw (i := 152) rfl)) (Or.inl (tw hw (i := 141) rfl)) (by decide) (t := (.object "java/util/List")) (t' := .long) (by decide) (by decide)))).other W45 (Or.inr (slot_ne (Or.inr (tw hw (i := 152) rfl)) (Or.inl (tw hw (i := 143) rfl)) (by decide) (t := (.object "java/util/List")) (t' := .long) (by decide) (by decide)))).other W50 (Or.inr (slot_ne (Or.inr (tw hw (i := 152) rfl)) (Or.inl (tw hw (i := 145) rfl)) (by decide) (t := (.object "java/util/List")) (t' := .long) (by decide) (by decide))))
  have f58 : Exa Z h50 oa "evenkeel/client/Window" := (f52.wr W50)
  obtain ⟨T56, h56, X56, e56, W56, st56⟩ := putF X53 hx hZ hown (host := "") (Or.inl (tw hw (i := 151) rfl)) Via.refl eh53 f57 f58 (Or.inr ⟨(tw hw (i := 152) rfl), rfl, hnm⟩) (tw hw (i := 3) rfl) (ty := (.object "java/util/List")) (by decide) rfl rfl (g := (mkF m 74 #[rv oa, iv xs, rv oc, .unset, .unset] [(.ref el), (.ref oa)])) rfl rfl (hb hby d12_74)
  have f56w := f57.same W56
  have K56 : Keep h0 h56 [oa] := K50.wr W56 (Or.inl (List.mem_of_getElem? (i := 0) rfl))
  have N56 := Fr.snoc X56 N53 g_
  have sz56 : n0 ≤ h56.size := Nat.le_trans sz50 (Keep.of_wr W56).1
  have f60 : Fld Z h56 oc "evenkeel/model/CommittedOffset" "failed" "Ljava/util/List;" (.ref el) := (((((((((((((Ff.other W3 (Or.inl (Ne.symm nao))).ext E4).keep Kc10 (ninS ne4_oc nin0)).other W13 (Or.inl (Ne.symm nao))).other W16 (Or.inl (Ne.symm nao))).ext E19).keep Kc27 (ninS ne19_oc nin0)).other W32 (Or.inl (Ne.symm nao))).other W35 (Or.inl (Ne.symm nao))).other W41 (Or.inl (Ne.symm nao))).other W45 (Or.inl (Ne.symm nao))).other W50 (Or.inl (Ne.symm nao))).other W56 (Or.inl (Ne.symm nao)))
  have f61 : Exa Z h56 oc "evenkeel/model/CommittedOffset" := (f55.wr W56)
  obtain ⟨cq59, kq59, q59a, q59b, q59c⟩ := isOf hZ e56 f61
  obtain ⟨_, _, ⟨T59, L59, k59, n59⟩, -, X59, ⟨Lc59, hQ59, l59, y59, z59⟩, st59⟩ := X56.virtualBack hx (y := (⟨"evenkeel/model/CommittedOffset", "failed", "()Ljava/util/List;"⟩ : MethodName)) (z := (⟨"evenkeel/model/CommittedOffset", "failed", "()Ljava/util/List;"⟩ : MethodName)) hown (mvT hZ (tw hw (i := 153) rfl)) (mvT hZ (tw hw (i := 154) rfl)) (notFace_of_selects (args := #[]) (mvT hZ (tw hw (i := 156) rfl))) (mvT hZ (tw hw (i := 156) rfl)) (mvT hZ (tw hw (i := 155) rfl)) (by decide) (backOf (W := 1) (rm18 l Z a0 hw [] oc el h56 n0 sz56 f60) hZ (tw hw (i := 157) rfl) (tw hw (i := 7) rfl) (by decide) (by decide)) q59a q59c (g := (mkF m 79 #[rv oa, iv xs, rv oc, .unset, .unset] [(.ref oc), (.ref oa)])) rfl (by rw [hml]; rfl) (Steps.refl _) (argsL := []) (rest := [(.ref oa)]) (lenOf pd_6 rfl) rfl (by show 2 * 0 + _ ≤ _; exact Nat.le_of_eq rfl) (hb hby d12_79) (fun _ _ => ⟨rfl, e56, (by decide : 4 + 0 ≤ _), (by decide : 8 + 0 ≤ _)⟩)
  dsimp only [Pt.U, Pt.locs, Pt.cells, Pt.slots] at X59 l59 y59 z59 st59 hQ59
  subst l59 y59 z59
  obtain ⟨rfl, Nq59, eh59⟩ := hQ59
  have N59 := Fr.app N56 Nq59
  have f63 : Fld Z h56 oa "evenkeel/client/Window" "committedFailures" "Ljava/util/List;" u11 := (((((((((((((F11.other W3 (Or.inr (slot_ne (Or.inl (tw hw (i := 159) rfl)) (Or.inl (tw hw (i := 103) rfl)) (by decide) (t := (.object "java/util/List")) (t' := (.object "java/util/List")) (by decide) (by decide)))).ext E4).keep Kc10 (ninS ne4_oa nin0)).other W13 (Or.inr (slot_ne (Or.inl (tw hw (i := 159) rfl)) (Or.inr (tw hw (i := 127) rfl)) (by decide) (t := (.object "java/util/List")) (t' := (.object "java/util/BitSet")) (by decide) (by decide)))).other W16 (Or.inr (slot_ne (Or.inl (tw hw (i := 159) rfl)) (Or.inl (tw hw (i := 130) rfl)) (by decide) (t := (.object "java/util/List")) (t' := .long) (by decide) (by decide)))).ext E19).keep Kc27 (ninS ne19_oa nin0)).other W32 (Or.inr (slot_ne (Or.inl (tw hw (i := 159) rfl)) (Or.inr (tw hw (i := 132) rfl)) (by decide) (t := (.object "java/util/List")) (t' := (.object "java/util/BitSet")) (by decide) (by decide)))).other W35 (Or.inr (slot_ne (Or.inl (tw hw (i := 159) rfl)) (Or.inr (tw hw (i := 134) rfl)) (by decide) (t := (.object "java/util/List")) (t' := .int) (by decide) (by decide)))).other W41 (Or.inr (slot_ne (Or.inl (tw hw (i := 159) rfl)) (Or.inl (tw hw (i := 141) rfl)) (by decide) (t := (.object "java/util/List")) (t' := .long) (by decide) (by decide)))).other W45 (Or.inr (slot_ne (Or.inl (tw hw (i := 159) rfl)) (Or.inl (tw hw (i := 143) rfl)) (by decide) (t := (.object "java/util/List")) (t' := .long) (by decide) (by decide)))).other W50 (Or.inr (slot_ne (Or.inl (tw hw (i := 159) rfl)) (Or.inl (tw hw (i := 145) rfl)) (by decide) (t := (.object "java/util/List")) (t' := .long) (by decide) (by decide)))).other W56 (Or.inr (slot_ne (Or.inl (tw hw (i := 159) rfl)) (Or.inr (tw hw (i := 152) rfl)) (by decide) (t := (.object "java/util/List")) (t' := (.object "java/util/List")) (by decide) (by decide))))
  have f64 : Exa Z h56 oa "evenkeel/client/Window" := (f58.wr W56)
  obtain ⟨T62, h62, X62, e62, W62, st62⟩ := putF X59 hx hZ hown (host := "") (Or.inl (tw hw (i := 158) rfl)) Via.refl eh59 f63 f64 (Or.inl (tw hw (i := 159) rfl)) (tw hw (i := 3) rfl) (ty := (.object "java/util/List")) (by decide) rfl rfl (g := (mkF m 82 #[rv oa, iv xs, rv oc, .unset, .unset] [(.ref el), (.ref oa)])) rfl rfl (hb hby d12_82)
  have f62w := f63.same W62
  have K62 : Keep h0 h62 [oa] := K56.wr W62 (Or.inl (List.mem_of_getElem? (i := 0) rfl))
  have N62 := Fr.snoc X62 N59 g_
  have sz62 : n0 ≤ h62.size := Nat.le_trans sz56 (Keep.of_wr W62).1
  have f66 : Fld Z h62 oc "evenkeel/model/CommittedOffset" "failed" "Ljava/util/List;" (.ref el) := (f60.other W62 (Or.inl (Ne.symm nao)))
  have f67 : Exa Z h62 oc "evenkeel/model/CommittedOffset" := (f61.wr W62)
  obtain ⟨cq65, kq65, q65a, q65b, q65c⟩ := isOf hZ e62 f67
  obtain ⟨_, _, ⟨T65, L65, k65, n65⟩, -, X65, ⟨Lc65, hQ65, l65, y65, z65⟩, st65⟩ := X62.virtualBack hx (y := (⟨"evenkeel/model/CommittedOffset", "failed", "()Ljava/util/List;"⟩ : MethodName)) (z := (⟨"evenkeel/model/CommittedOffset", "failed", "()Ljava/util/List;"⟩ : MethodName)) hown (mvT hZ (tw hw (i := 153) rfl)) (mvT hZ (tw hw (i := 154) rfl)) (notFace_of_selects (args := #[]) (mvT hZ (tw hw (i := 156) rfl))) (mvT hZ (tw hw (i := 156) rfl)) (mvT hZ (tw hw (i := 155) rfl)) (by decide) (backOf (W := 0) (rm18 l Z a0 hw [] oc el h62 n0 sz62 f66) hZ (tw hw (i := 157) rfl) (tw hw (i := 7) rfl) (by decide) (by decide)) q65a q65c (g := (mkF m 86 #[rv oa, iv xs, rv oc, .unset, .unset] [(.ref oc)])) rfl (by rw [hml]; rfl) (Steps.refl _) (argsL := []) (rest := []) (lenOf pd_6 rfl) rfl (by show 2 * 0 + _ ≤ _; exact Nat.le_of_eq rfl) (hb hby d12_86) (fun _ _ => ⟨rfl, e62, (by decide : 4 + 0 ≤ _), (by decide : 8 + 0 ≤ _)⟩)
  dsimp only [Pt.U, Pt.locs, Pt.cells, Pt.slots] at X65 l65 y65 z65 st65 hQ65
  subst l65 y65 z65
  obtain ⟨rfl, Nq65, eh65⟩ := hQ65
  have N65 := Fr.app N62 Nq65
  have pre68 : ∀ t, own_K p e below m T65 89 #[rv oa, iv xs, rv oc, .unset, .unset] [(.ref el)] t → G t := by
    intro t k
    refine pre0 t ?_
    show own_K p e below m s₁ 0 #[rv oa, iv xs, rv oc, .unset, .unset] [] _
    refine XS.aloadN X0.here hx rfl (hb hby d12_0) rfl rfl ?_
    show own_K p e below m s₁ 1 #[rv oa, iv xs, rv oc, .unset, .unset] [(.ref oa)] _
    refine st1 _ ?_
    show own_K p e below m T1 4 #[rv oa, iv xs, rv oc, .unset, .unset] [] _
    refine XS.aloadN X1.here hx rfl (hb hby d12_4) rfl rfl ?_
    show own_K p e below m T1 5 #[rv oa, iv xs, rv oc, .unset, .unset] [(.ref oa)] _
    refine st2 _ ?_
    show own_K p e below m T2 8 #[rv oa, iv xs, rv oc, .unset, .unset] [(.ref el), (.ref oa)] _
    refine st3 _ ?_
    show own_K p e below m T3 11 #[rv oa, iv xs, rv oc, .unset, .unset] [] _
    refine XS.aloadN X3.here hx rfl (hb hby d12_11) rfl rfl ?_
    show own_K p e below m T3 12 #[rv oa, iv xs, rv oc, .unset, .unset] [(.ref oa)] _
    refine st4 _ ?_
    show own_K p e below m T4 15 #[rv oa, iv xs, rv oc, .unset, .unset] [(.ref b4), (.ref oa)] _
    refine XS.dup X4.here hx rfl (hb hby d12_15) rfl rfl ?_
    show own_K p e below m T4 16 #[rv oa, iv xs, rv oc, .unset, .unset] [(.ref b4), (.ref b4), (.ref oa)] _
    refine st10.trans ?_
    show own_K p e below m T10 19 #[rv oa, iv xs, rv oc, .unset, .unset] [(.ref b4), (.ref oa)] _
    refine st13 _ ?_
    show own_K p e below m T13 22 #[rv oa, iv xs, rv oc, .unset, .unset] [] _
    refine XS.aloadN X13.here hx rfl (hb hby d12_22) rfl rfl ?_
    show own_K p e below m T13 23 #[rv oa, iv xs, rv oc, .unset, .unset] [(.ref oa)] _
    refine X13.ldc2Long hx hown (mvT hZ (tw hw (i := 128) rfl)) (g := (mkF m 23 #[rv oa, iv xs, rv oc, .unset, .unset] [(.ref oa)])) rfl (hb hby d12_23) _ ?_
    show own_K p e below m T13 26 #[rv oa, iv xs, rv oc, .unset, .unset] [(.long (-1 : Int64)), (.ref oa)] _
    refine st16 _ ?_
    show own_K p e below m T16 29 #[rv oa, iv xs, rv oc, .unset, .unset] [] _
    refine XS.aloadN X16.here hx rfl (hb hby d12_29) rfl rfl ?_
    show own_K p e below m T16 30 #[rv oa, iv xs, rv oc, .unset, .unset] [(.ref oa)] _
    refine st19 _ ?_
    show own_K p e below m T19 33 #[rv oa, iv xs, rv oc, .unset, .unset] [(.ref b19), (.ref oa)] _
    refine XS.dup X19.here hx rfl (hb hby d12_33) rfl rfl ?_
    show own_K p e below m T19 34 #[rv oa, iv xs, rv oc, .unset, .unset] [(.ref b19), (.ref b19), (.ref oa)] _
    refine st27.trans ?_
    show own_K p e below m T27 37 #[rv oa, iv xs, rv oc, .unset, .unset] [(.ref b19), (.ref oa)] _
    refine st32 _ ?_
    show own_K p e below m T32 40 #[rv oa, iv xs, rv oc, .unset, .unset] [] _
    refine XS.aloadN X32.here hx rfl (hb hby d12_40) rfl rfl ?_
    show own_K p e below m T32 41 #[rv oa, iv xs, rv oc, .unset, .unset] [(.ref oa)] _
    refine XS.iloadN X32.here hx rfl (hb hby d12_41) rfl ?_
    show own_K p e below m T32 42 #[rv oa, iv xs, rv oc, .unset, .unset] [(.int xs), (.ref oa)] _
    refine st35 _ ?_
    show own_K p e below m T35 45 #[rv oa, iv xs, rv oc, .unset, .unset] [] _
    refine XS.aloadN X35.here hx rfl (hb hby d12_45) rfl rfl ?_
    show own_K p e below m T35 46 #[rv oa, iv xs, rv oc, .unset, .unset] [(.ref oa)] _
    refine XS.aloadN X35.here hx rfl (hb hby d12_46) rfl rfl ?_
    show own_K p e below m T35 47 #[rv oa, iv xs, rv oc, .unset, .unset] [(.ref oc), (.ref oa)] _
    refine st38.trans ?_
    show own_K p e below m T38 50 #[rv oa, iv xs, rv oc, .unset, .unset] [(.long qn), (.ref oa)] _
    refine st41 _ ?_
    show own_K p e below m T41 53 #[rv oa, iv xs, rv oc, .unset, .unset] [] _
    refine XS.aloadN X41.here hx rfl (hb hby d12_53) rfl rfl ?_
    show own_K p e below m T41 54 #[rv oa, iv xs, rv oc, .unset, .unset] [(.ref oa)] _
    refine XS.aloadN X41.here hx rfl (hb hby d12_54) rfl rfl ?_
    show own_K p e below m T41 55 #[rv oa, iv xs, rv oc, .unset, .unset] [(.ref oa), (.ref oa)] _
    refine st44 _ ?_
    show own_K p e below m T44 58 #[rv oa, iv xs, rv oc, .unset, .unset] [(.long qn), (.ref oa)] _
    refine st45 _ ?_
    show own_K p e below m T45 61 #[rv oa, iv xs, rv oc, .unset, .unset] [] _
    refine XS.aloadN X45.here hx rfl (hb hby d12_61) rfl rfl ?_
    show own_K p e below m T45 62 #[rv oa, iv xs, rv oc, .unset, .unset] [(.ref oa)] _
    refine XS.aloadN X45.here hx rfl (hb hby d12_62) rfl rfl ?_
    show own_K p e below m T45 63 #[rv oa, iv xs, rv oc, .unset, .unset] [(.ref oa), (.ref oa)] _
    refine st48 _ ?_
    show own_K p e below m T48 66 #[rv oa, iv xs, rv oc, .unset, .unset] [(.long qn), (.ref oa)] _
    refine st50 _ ?_
    show own_K p e below m T50 69 #[rv oa, iv xs, rv oc, .unset, .unset] [] _
    refine XS.aloadN X50.here hx rfl (hb hby d12_69) rfl rfl ?_
    show own_K p e below m T50 70 #[rv oa, iv xs, rv oc, .unset, .unset] [(.ref oa)] _
    refine XS.aloadN X50.here hx rfl (hb hby d12_70) rfl rfl ?_
    show own_K p e below m T50 71 #[rv oa, iv xs, rv oc, .unset, .unset] [(.ref oc), (.ref oa)] _
    refine st53.trans ?_
    show own_K p e below m T53 74 #[rv oa, iv xs, rv oc, .unset, .unset] [(.ref el), (.ref oa)] _
    refine st56 _ ?_
    show own_K p e below m T56 77 #[rv oa, iv xs, rv oc, .unset, .unset] [] _
    refine XS.aloadN X56.here hx rfl (hb hby d12_77) rfl rfl ?_
    show own_K p e below m T56 78 #[rv oa, iv xs, rv oc, .unset, .unset] [(.ref oa)] _
    refine XS.aloadN X56.here hx rfl (hb hby d12_78) rfl rfl ?_
    show own_K p e below m T56 79 #[rv oa, iv xs, rv oc, .unset, .unset] [(.ref oc), (.ref oa)] _
    refine st59.trans ?_
    show own_K p e below m T59 82 #[rv oa, iv xs, rv oc, .unset, .unset] [(.ref el), (.ref oa)] _
    refine st62 _ ?_
    show own_K p e below m T62 85 #[rv oa, iv xs, rv oc, .unset, .unset] [] _
    refine XS.aloadN X62.here hx rfl (hb hby d12_85) rfl rfl ?_
    show own_K p e below m T62 86 #[rv oa, iv xs, rv oc, .unset, .unset] [(.ref oc)] _
    refine st65.trans ?_
    exact k
  have f69 : Old Z n0 h62 := ((((((((((((((O_.wr W3 g_).ext E4).keep Kc10 (allS ge_b4 all0)).wr W13 g_).wr W16 g_).ext E19).keep Kc27 (allS ge_b19 all0)).wr W32 g_).wr W35 g_).wr W41 g_).wr W45 g_).wr W50 g_).wr W56 g_).wr W62 g_)
  obtain ⟨cq70, kq70, q70a, q70b, q70c⟩ := isOf hZ eh65 (Exa.ext f69.2 P_.2.1)
  obtain ⟨_, _, ⟨T70, L70, k70, n70⟩, -, X70, ⟨Lc70, hQ70, l70, y70, z70⟩, st70⟩ := X65.interfaceBack hx (xi := (⟨"java/util/List", "isEmpty", "()Z"⟩ : MethodName)) (y := (⟨"java/util/ImmutableCollections$ListN", "isEmpty", "()Z"⟩ : MethodName)) hown (mvT hZ (tw hw (i := 160) rfl)) (mvT hZ (tw hw (i := 161) rfl)) (mvT hZ (tw hw (i := 162) rfl)) (mvT hZ (tw hw (i := 163) rfl)) (mvT hZ (tw hw (i := 164) rfl)) (mvT hZ (tw hw (i := 165) rfl)) (mvT hZ (tw hw (i := 166) rfl)) (mvT hZ (tw hw (i := 45) rfl)) (by decide) (backOf (W := 0) (rm19 l Z a0 hw [] el ea kE (0 : Int32) [] .null h62 n0 sz62 (Fld.ext f69.2 P_.2.2.1) (P_.2.2.2.1.ext f69.2)) hZ (tw hw (i := 167) rfl) (tw hw (i := 63) rfl) (by decide) (by decide)) q70a q70b q70c (g := (mkF m 89 #[rv oa, iv xs, rv oc, .unset, .unset] [(.ref el)])) rfl (by rw [hml]; rfl) (Steps.refl _) (argsL := []) (rest := []) (lenOf pd_5 rfl) rfl (by show 2 * 0 + _ ≤ _; exact Nat.le_of_eq rfl) (hb hby d12_89) (fun _ _ => ⟨rfl, eh65, (by decide : 4 + 0 ≤ _), (by decide : 8 + 0 ≤ _)⟩)
  dsimp only [Pt.U, Pt.locs, Pt.cells, Pt.slots] at X70 l70 y70 z70 st70 hQ70
  subst l70 y70 z70
  obtain ⟨rfl, Nq70, eh70⟩ := hQ70
  have N70 := Fr.app N65 Nq70
  have pre71 : ∀ t, own_K p e below m T70 165 #[rv oa, iv xs, rv oc, .unset, .unset] [] t → G t := by
    intro t k
    refine pre68 t ?_
    show own_K p e below m T65 89 #[rv oa, iv xs, rv oc, .unset, .unset] [(.ref el)] _
    refine st70.trans ?_
    show own_K p e below m T70 94 #[rv oa, iv xs, rv oc, .unset, .unset] [(.int (if (0 : Int32) = (0 : Int32) then (1 : Int32) else (0 : Int32)))] _
    refine XS.ifYes X70.here hx rfl (pc0 := 94) (pc' := 165) rfl (hb hby d12_94) rfl ((if0 _ _).trans (feq (by rw [if_pos rfl]; decide)).2) (by decide) (by decide) ?_
    exact k
  have f72 : Fld Z h62 oa "evenkeel/client/Window" "size" "I" (.int xs) := (((((f35w.other W41 (Or.inr (slot_ne (Or.inr (tw hw (i := 134) rfl)) (Or.inl (tw hw (i := 141) rfl)) (by decide) (t := .int) (t' := .long) (by decide) (by decide)))).other W45 (Or.inr (slot_ne (Or.inr (tw hw (i := 134) rfl)) (Or.inl (tw hw (i := 143) rfl)) (by decide) (t := .int) (t' := .long) (by decide) (by decide)))).other W50 (Or.inr (slot_ne (Or.inr (tw hw (i := 134) rfl)) (Or.inl (tw hw (i := 145) rfl)) (by decide) (t := .int) (t' := .long) (by decide) (by decide)))).other W56 (Or.inr (slot_ne (Or.inr (tw hw (i := 134) rfl)) (Or.inr (tw hw (i := 152) rfl)) (by decide) (t := .int) (t' := (.object "java/util/List")) (by decide) (by decide)))).other W62 (Or.inr (slot_ne (Or.inr (tw hw (i := 134) rfl)) (Or.inl (tw hw (i := 159) rfl)) (by decide) (t := .int) (t' := (.object "java/util/List")) (by decide) (by decide))))
  have f73 : Fld Z h62 oa "evenkeel/client/Window" "committed" "J" (.long qn) := (((f49.other W50 (Or.inr (slot_ne (Or.inl (tw hw (i := 141) rfl)) (Or.inl (tw hw (i := 145) rfl)) (by decide) (t := .long) (t' := .long) (by decide) (by decide)))).other W56 (Or.inr (slot_ne (Or.inl (tw hw (i := 141) rfl)) (Or.inr (tw hw (i := 152) rfl)) (by decide) (t := .long) (t' := (.object "java/util/List")) (by decide) (by decide)))).other W62 (Or.inr (slot_ne (Or.inl (tw hw (i := 141) rfl)) (Or.inl (tw hw (i := 159) rfl)) (by decide) (t := .long) (t' := (.object "java/util/List")) (by decide) (by decide))))
  have f74 : Fld Z h62 oa "evenkeel/client/Window" "unfinished" "J" (.long qn) := (((f45w.other W50 (Or.inr (slot_ne (Or.inl (tw hw (i := 143) rfl)) (Or.inl (tw hw (i := 145) rfl)) (by decide) (t := .long) (t' := .long) (by decide) (by decide)))).other W56 (Or.inr (slot_ne (Or.inl (tw hw (i := 143) rfl)) (Or.inr (tw hw (i := 152) rfl)) (by decide) (t := .long) (t' := (.object "java/util/List")) (by decide) (by decide)))).other W62 (Or.inr (slot_ne (Or.inl (tw hw (i := 143) rfl)) (Or.inl (tw hw (i := 159) rfl)) (by decide) (t := .long) (t' := (.object "java/util/List")) (by decide) (by decide))))
  have f75 : Fld Z h62 oa "evenkeel/client/Window" "next" "J" (.long qn) := ((f50w.other W56 (Or.inr (slot_ne (Or.inl (tw hw (i := 145) rfl)) (Or.inr (tw hw (i := 152) rfl)) (by decide) (t := .long) (t' := (.object "java/util/List")) (by decide) (by decide)))).other W62 (Or.inr (slot_ne (Or.inl (tw hw (i := 145) rfl)) (Or.inl (tw hw (i := 159) rfl)) (by decide) (t := .long) (t' := (.object "java/util/List")) (by decide) (by decide))))
  have f76 : Fld Z h62 oa "evenkeel/client/Window" "restart" "J" (.long (-1 : Int64)) := (((((((((f16w.ext E19).keep Kc27 (ninS ne19_oa nin0)).other W32 (Or.inr (slot_ne (Or.inl (tw hw (i := 130) rfl)) (Or.inr (tw hw (i := 132) rfl)) (by decide) (t := .long) (t' := (.object "java/util/BitSet")) (by decide) (by decide)))).other W35 (Or.inr (slot_ne (Or.inl (tw hw (i := 130) rfl)) (Or.inr (tw hw (i := 134) rfl)) (by decide) (t := .long) (t' := .int) (by decide) (by decide)))).other W41 (Or.inr (slot_ne (Or.inl (tw hw (i := 130) rfl)) (Or.inl (tw hw (i := 141) rfl)) (by decide) (t := .long) (t' := .long) (by decide) (by decide)))).other W45 (Or.inr (slot_ne (Or.inl (tw hw (i := 130) rfl)) (Or.inl (tw hw (i := 143) rfl)) (by decide) (t := .long) (t' := .long) (by decide) (by decide)))).other W50 (Or.inr (slot_ne (Or.inl (tw hw (i := 130) rfl)) (Or.inl (tw hw (i := 145) rfl)) (by decide) (t := .long) (t' := .long) (by decide) (by decide)))).other W56 (Or.inr (slot_ne (Or.inl (tw hw (i := 130) rfl)) (Or.inr (tw hw (i := 152) rfl)) (by decide) (t := .long) (t' := (.object "java/util/List")) (by decide) (by decide)))).other W62 (Or.inr (slot_ne (Or.inl (tw hw (i := 130) rfl)) (Or.inl (tw hw (i := 159) rfl)) (by decide) (t := .long) (t' := (.object "java/util/List")) (by decide) (by decide))))
  have f77 : Fld Z h62 oa "evenkeel/client/Window" "consumed" "Ljava/util/List;" (.ref el) := (f56w.other W62 (Or.inr (slot_ne (Or.inr (tw hw (i := 152) rfl)) (Or.inl (tw hw (i := 159) rfl)) (by decide) (t := (.object "java/util/List")) (t' := (.object "java/util/List")) (by decide) (by decide))))
  have f78 : Fld Z h62 oa "evenkeel/client/Window" "consumedAt" "I" (.int (0 : Int32)) := ((((((((((((((F8.other W3 (Or.inr (slot_ne (Or.inl (tw hw (i := 174) rfl)) (Or.inl (tw hw (i := 103) rfl)) (by decide) (t := .int) (t' := (.object "java/util/List")) (by decide) (by decide)))).ext E4).keep Kc10 (ninS ne4_oa nin0)).other W13 (Or.inr (slot_ne (Or.inl (tw hw (i := 174) rfl)) (Or.inr (tw hw (i := 127) rfl)) (by decide) (t := .int) (t' := (.object "java/util/BitSet")) (by decide) (by decide)))).other W16 (Or.inr (slot_ne (Or.inl (tw hw (i := 174) rfl)) (Or.inl (tw hw (i := 130) rfl)) (by decide) (t := .int) (t' := .long) (by decide) (by decide)))).ext E19).keep Kc27 (ninS ne19_oa nin0)).other W32 (Or.inr (slot_ne (Or.inl (tw hw (i := 174) rfl)) (Or.inr (tw hw (i := 132) rfl)) (by decide) (t := .int) (t' := (.object "java/util/BitSet")) (by decide) (by decide)))).other W35 (Or.inr (slot_ne (Or.inl (tw hw (i := 174) rfl)) (Or.inr (tw hw (i := 134) rfl)) (by decide) (t := .int) (t' := .int) (by decide) (by decide)))).other W41 (Or.inr (slot_ne (Or.inl (tw hw (i := 174) rfl)) (Or.inl (tw hw (i := 141) rfl)) (by decide) (t := .int) (t' := .long) (by decide) (by decide)))).other W45 (Or.inr (slot_ne (Or.inl (tw hw (i := 174) rfl)) (Or.inl (tw hw (i := 143) rfl)) (by decide) (t := .int) (t' := .long) (by decide) (by decide)))).other W50 (Or.inr (slot_ne (Or.inl (tw hw (i := 174) rfl)) (Or.inl (tw hw (i := 145) rfl)) (by decide) (t := .int) (t' := .long) (by decide) (by decide)))).other W56 (Or.inr (slot_ne (Or.inl (tw hw (i := 174) rfl)) (Or.inr (tw hw (i := 152) rfl)) (by decide) (t := .int) (t' := (.object "java/util/List")) (by decide) (by decide)))).other W62 (Or.inr (slot_ne (Or.inl (tw hw (i := 174) rfl)) (Or.inl (tw hw (i := 159) rfl)) (by decide) (t := .int) (t' := (.object "java/util/List")) (by decide) (by decide))))
  have f79 : Fld Z h62 oa "evenkeel/client/Window" "failing" "Ljava/util/TreeMap;" .null := ((((((((((((((F10.other W3 (Or.inr (slot_ne (Or.inl (tw hw (i := 196) rfl)) (Or.inl (tw hw (i := 103) rfl)) (by decide) (t := (.object "java/util/TreeMap")) (t' := (.object "java/util/List")) (by decide) (by decide)))).ext E4).keep Kc10 (ninS ne4_oa nin0)).other W13 (Or.inr (slot_ne (Or.inl (tw hw (i := 196) rfl)) (Or.inr (tw hw (i := 127) rfl)) (by decide) (t := (.object "java/util/TreeMap")) (t' := (.object "java/util/BitSet")) (by decide) (by decide)))).other W16 (Or.inr (slot_ne (Or.inl (tw hw (i := 196) rfl)) (Or.inl (tw hw (i := 130) rfl)) (by decide) (t := (.object "java/util/TreeMap")) (t' := .long) (by decide) (by decide)))).ext E19).keep Kc27 (ninS ne19_oa nin0)).other W32 (Or.inr (slot_ne (Or.inl (tw hw (i := 196) rfl)) (Or.inr (tw hw (i := 132) rfl)) (by decide) (t := (.object "java/util/TreeMap")) (t' := (.object "java/util/BitSet")) (by decide) (by decide)))).other W35 (Or.inr (slot_ne (Or.inl (tw hw (i := 196) rfl)) (Or.inr (tw hw (i := 134) rfl)) (by decide) (t := (.object "java/util/TreeMap")) (t' := .int) (by decide) (by decide)))).other W41 (Or.inr (slot_ne (Or.inl (tw hw (i := 196) rfl)) (Or.inl (tw hw (i := 141) rfl)) (by decide) (t := (.object "java/util/TreeMap")) (t' := .long) (by decide) (by decide)))).other W45 (Or.inr (slot_ne (Or.inl (tw hw (i := 196) rfl)) (Or.inl (tw hw (i := 143) rfl)) (by decide) (t := (.object "java/util/TreeMap")) (t' := .long) (by decide) (by decide)))).other W50 (Or.inr (slot_ne (Or.inl (tw hw (i := 196) rfl)) (Or.inl (tw hw (i := 145) rfl)) (by decide) (t := (.object "java/util/TreeMap")) (t' := .long) (by decide) (by decide)))).other W56 (Or.inr (slot_ne (Or.inl (tw hw (i := 196) rfl)) (Or.inr (tw hw (i := 152) rfl)) (by decide) (t := (.object "java/util/TreeMap")) (t' := (.object "java/util/List")) (by decide) (by decide)))).other W62 (Or.inr (slot_ne (Or.inl (tw hw (i := 196) rfl)) (Or.inl (tw hw (i := 159) rfl)) (by decide) (t := (.object "java/util/TreeMap")) (t' := (.object "java/util/List")) (by decide) (by decide))))
  have f80 : Fld Z h62 oa "evenkeel/client/Window" "committedAhead" "Ljava/util/List;" (.ref el) := (((((((((((((f3w.ext E4).keep Kc10 (ninS ne4_oa nin0)).other W13 (Or.inr (slot_ne (Or.inl (tw hw (i := 103) rfl)) (Or.inr (tw hw (i := 127) rfl)) (by decide) (t := (.object "java/util/List")) (t' := (.object "java/util/BitSet")) (by decide) (by decide)))).other W16 (Or.inr (slot_ne (Or.inl (tw hw (i := 103) rfl)) (Or.inl (tw hw (i := 130) rfl)) (by decide) (t := (.object "java/util/List")) (t' := .long) (by decide) (by decide)))).ext E19).keep Kc27 (ninS ne19_oa nin0)).other W32 (Or.inr (slot_ne (Or.inl (tw hw (i := 103) rfl)) (Or.inr (tw hw (i := 132) rfl)) (by decide) (t := (.object "java/util/List")) (t' := (.object "java/util/BitSet")) (by decide) (by decide)))).other W35 (Or.inr (slot_ne (Or.inl (tw hw (i := 103) rfl)) (Or.inr (tw hw (i := 134) rfl)) (by decide) (t := (.object "java/util/List")) (t' := .int) (by decide) (by decide)))).other W41 (Or.inr (slot_ne (Or.inl (tw hw (i := 103) rfl)) (Or.inl (tw hw (i := 141) rfl)) (by decide) (t := (.object "java/util/List")) (t' := .long) (by decide) (by decide)))).other W45 (Or.inr (slot_ne (Or.inl (tw hw (i := 103) rfl)) (Or.inl (tw hw (i := 143) rfl)) (by decide) (t := (.object "java/util/List")) (t' := .long) (by decide) (by decide)))).other W50 (Or.inr (slot_ne (Or.inl (tw hw (i := 103) rfl)) (Or.inl (tw hw (i := 145) rfl)) (by decide) (t := (.object "java/util/List")) (t' := .long) (by decide) (by decide)))).other W56 (Or.inr (slot_ne (Or.inl (tw hw (i := 103) rfl)) (Or.inr (tw hw (i := 152) rfl)) (by decide) (t := (.object "java/util/List")) (t' := (.object "java/util/List")) (by decide) (by decide)))).other W62 (Or.inr (slot_ne (Or.inl (tw hw (i := 103) rfl)) (Or.inl (tw hw (i := 159) rfl)) (by decide) (t := (.object "java/util/List")) (t' := (.object "java/util/List")) (by decide) (by decide))))
  have f81 : Fld Z h62 oa "evenkeel/client/Window" "finished" "Ljava/util/BitSet;" (.ref b4) := ((((((((((f13w.other W16 (Or.inr (slot_ne (Or.inr (tw hw (i := 127) rfl)) (Or.inl (tw hw (i := 130) rfl)) (by decide) (t := (.object "java/util/BitSet")) (t' := .long) (by decide) (by decide)))).ext E19).keep Kc27 (ninS ne19_oa nin0)).other W32 (Or.inr (slot_ne (Or.inr (tw hw (i := 127) rfl)) (Or.inr (tw hw (i := 132) rfl)) (by decide) (t := (.object "java/util/BitSet")) (t' := (.object "java/util/BitSet")) (by decide) (by decide)))).other W35 (Or.inr (slot_ne (Or.inr (tw hw (i := 127) rfl)) (Or.inr (tw hw (i := 134) rfl)) (by decide) (t := (.object "java/util/BitSet")) (t' := .int) (by decide) (by decide)))).other W41 (Or.inr (slot_ne (Or.inr (tw hw (i := 127) rfl)) (Or.inl (tw hw (i := 141) rfl)) (by decide) (t := (.object "java/util/BitSet")) (t' := .long) (by decide) (by decide)))).other W45 (Or.inr (slot_ne (Or.inr (tw hw (i := 127) rfl)) (Or.inl (tw hw (i := 143) rfl)) (by decide) (t := (.object "java/util/BitSet")) (t' := .long) (by decide) (by decide)))).other W50 (Or.inr (slot_ne (Or.inr (tw hw (i := 127) rfl)) (Or.inl (tw hw (i := 145) rfl)) (by decide) (t := (.object "java/util/BitSet")) (t' := .long) (by decide) (by decide)))).other W56 (Or.inr (slot_ne (Or.inr (tw hw (i := 127) rfl)) (Or.inr (tw hw (i := 152) rfl)) (by decide) (t := (.object "java/util/BitSet")) (t' := (.object "java/util/List")) (by decide) (by decide)))).other W62 (Or.inr (slot_ne (Or.inr (tw hw (i := 127) rfl)) (Or.inl (tw hw (i := 159) rfl)) (by decide) (t := (.object "java/util/BitSet")) (t' := (.object "java/util/List")) (by decide) (by decide))))
  have f82 : Exa Z h62 b4 "java/util/BitSet" := ((((((((f30.keep Kc27).wr W32).wr W35).wr W41).wr W45).wr W50).wr W56).wr W62)
  have f83 : Fld Z h62 b4 "java/util/BitSet" "wordsInUse" "I" (.int (0 : Int32)) := (((((((((((Fu_10.other W13 (Or.inl (Ne.symm ne4_oa))).other W16 (Or.inl (Ne.symm ne4_oa))).ext E19).keep Kc27 (ninS ne19_b4 nin0)).other W32 (Or.inl (Ne.symm ne4_oa))).other W35 (Or.inl (Ne.symm ne4_oa))).other W41 (Or.inl (Ne.symm ne4_oa))).other W45 (Or.inl (Ne.symm ne4_oa))).other W50 (Or.inl (Ne.symm ne4_oa))).other W56 (Or.inl (Ne.symm ne4_oa))).other W62 (Or.inl (Ne.symm ne4_oa)))
  have f84 : Fld Z h62 b4 "java/util/BitSet" "sizeIsSticky" "Z" (.int (0 : Int32)) := (((((((((((Fy_10.other W13 (Or.inl (Ne.symm ne4_oa))).other W16 (Or.inl (Ne.symm ne4_oa))).ext E19).keep Kc27 (ninS ne19_b4 nin0)).other W32 (Or.inl (Ne.symm ne4_oa))).other W35 (Or.inl (Ne.symm ne4_oa))).other W41 (Or.inl (Ne.symm ne4_oa))).other W45 (Or.inl (Ne.symm ne4_oa))).other W50 (Or.inl (Ne.symm ne4_oa))).other W56 (Or.inl (Ne.symm ne4_oa))).other W62 (Or.inl (Ne.symm ne4_oa)))
  have f85 : Fld Z h62 b4 "java/util/BitSet" "words" "[J" (.ref ow10) := (((((((((((Fw_10.other W13 (Or.inl (Ne.symm ne4_oa))).other W16 (Or.inl (Ne.symm ne4_oa))).ext E19).keep Kc27 (ninS ne19_b4 nin0)).other W32 (Or.inl (Ne.symm ne4_oa))).other W35 (Or.inl (Ne.symm ne4_oa))).other W41 (Or.inl (Ne.symm ne4_oa))).other W45 (Or.inl (Ne.symm ne4_oa))).other W50 (Or.inl (Ne.symm ne4_oa))).other W56 (Or.inl (Ne.symm ne4_oa))).other W62 (Or.inl (Ne.symm ne4_oa)))
  have f86 : Arv Z h62 ow10 kw10 .long (1 : Int32) [(.long (0 : Int64))] (.long (0 : Int64)) := ((((((((f31.keep Kc27 (ninS ne19_ow10 nin0)).other W32 (Ne.symm ne_oa_ow10)).other W35 (Ne.symm ne_oa_ow10)).other W41 (Ne.symm ne_oa_ow10)).other W45 (Ne.symm ne_oa_ow10)).other W50 (Ne.symm ne_oa_ow10)).other W56 (Ne.symm ne_oa_ow10)).other W62 (Ne.symm ne_oa_ow10))
  have f87 : Fld Z h62 oa "evenkeel/client/Window" "left" "Ljava/util/BitSet;" (.ref b19) := ((((((f32w.other W35 (Or.inr (slot_ne (Or.inr (tw hw (i := 132) rfl)) (Or.inr (tw hw (i := 134) rfl)) (by decide) (t := (.object "java/util/BitSet")) (t' := .int) (by decide) (by decide)))).other W41 (Or.inr (slot_ne (Or.inr (tw hw (i := 132) rfl)) (Or.inl (tw hw (i := 141) rfl)) (by decide) (t := (.object "java/util/BitSet")) (t' := .long) (by decide) (by decide)))).other W45 (Or.inr (slot_ne (Or.inr (tw hw (i := 132) rfl)) (Or.inl (tw hw (i := 143) rfl)) (by decide) (t := (.object "java/util/BitSet")) (t' := .long) (by decide) (by decide)))).other W50 (Or.inr (slot_ne (Or.inr (tw hw (i := 132) rfl)) (Or.inl (tw hw (i := 145) rfl)) (by decide) (t := (.object "java/util/BitSet")) (t' := .long) (by decide) (by decide)))).other W56 (Or.inr (slot_ne (Or.inr (tw hw (i := 132) rfl)) (Or.inr (tw hw (i := 152) rfl)) (by decide) (t := (.object "java/util/BitSet")) (t' := (.object "java/util/List")) (by decide) (by decide)))).other W62 (Or.inr (slot_ne (Or.inr (tw hw (i := 132) rfl)) (Or.inl (tw hw (i := 159) rfl)) (by decide) (t := (.object "java/util/BitSet")) (t' := (.object "java/util/List")) (by decide) (by decide))))
  have f88 : Exa Z h62 b19 "java/util/BitSet" := ((((((((A19.keep Kc27).wr W32).wr W35).wr W41).wr W45).wr W50).wr W56).wr W62)
  have f89 : Fld Z h62 b19 "java/util/BitSet" "wordsInUse" "I" (.int (0 : Int32)) := (((((((Fu_27.other W32 (Or.inl (Ne.symm ne19_oa))).other W35 (Or.inl (Ne.symm ne19_oa))).other W41 (Or.inl (Ne.symm ne19_oa))).other W45 (Or.inl (Ne.symm ne19_oa))).other W50 (Or.inl (Ne.symm ne19_oa))).other W56 (Or.inl (Ne.symm ne19_oa))).other W62 (Or.inl (Ne.symm ne19_oa)))
  have f90 : Fld Z h62 b19 "java/util/BitSet" "sizeIsSticky" "Z" (.int (0 : Int32)) := (((((((Fy_27.other W32 (Or.inl (Ne.symm ne19_oa))).other W35 (Or.inl (Ne.symm ne19_oa))).other W41 (Or.inl (Ne.symm ne19_oa))).other W45 (Or.inl (Ne.symm ne19_oa))).other W50 (Or.inl (Ne.symm ne19_oa))).other W56 (Or.inl (Ne.symm ne19_oa))).other W62 (Or.inl (Ne.symm ne19_oa)))
  have f91 : Fld Z h62 b19 "java/util/BitSet" "words" "[J" (.ref ow27) := (((((((Fw_27.other W32 (Or.inl (Ne.symm ne19_oa))).other W35 (Or.inl (Ne.symm ne19_oa))).other W41 (Or.inl (Ne.symm ne19_oa))).other W45 (Or.inl (Ne.symm ne19_oa))).other W50 (Or.inl (Ne.symm ne19_oa))).other W56 (Or.inl (Ne.symm ne19_oa))).other W62 (Or.inl (Ne.symm ne19_oa)))
  have f92 : Arv Z h62 ow27 kw27 .long (1 : Int32) [(.long (0 : Int64))] (.long (0 : Int64)) := (((((((Vw_27.other W32 (Ne.symm ne_oa_ow27)).other W35 (Ne.symm ne_oa_ow27)).other W41 (Ne.symm ne_oa_ow27)).other W45 (Ne.symm ne_oa_ow27)).other W50 (Ne.symm ne_oa_ow27)).other W56 (Ne.symm ne_oa_ow27)).other W62 (Ne.symm ne_oa_ow27))
  obtain ⟨fs, hr, hrun, hended, hW, hsame⟩ := X70.leave (v := none) (fun _ => rfl)
  refine ⟨_, _, hG _ (pre71 _ ?_), hrun, hended, _, _, rfl, ?_, ⟨_, rfl⟩, hW, hsame.mono (by decide) (by decide)⟩
  · show own_K p e below m T70 165 #[rv oa, iv xs, rv oc, .unset, .unset] [] _
    exact X70.returnOut hx Bd.returns (hb hby d12_165) hr
  · show Q12 Z oa xs oc u0 u1 u2 u3 u4 u5 u6 u7 u9 u11 qn el ea kE h0 n0 _ T70.heap _
    rw [eh70]
    exact ⟨b4, ow10, kw10, b19, ow27, kw27, rfl, N70, K62, f72, f73, f74, f75, f76, f77, f78, f79, f80, f62w, sz_b4, sz_ow10, f81, f82, f83, f84, f85, f86, sz_b19, sz_ow27, f87, f88, f89, f90, f91, f92, ne19_b4, ne_b4_ow27, ne19_ow10, ne_ow10_ow27, ne_b4_ow10, ne_b19_ow27⟩

theorem d20_0 : decode prog_141_method_6_code 0 = .ok (.aload_n 0, 1) := by decide +kernel
theorem d20_1 : decode prog_141_method_6_code 1 = .ok (.dup, 1) := by decide +kernel
theorem d20_2 : decode prog_141_method_6_code 2 = .ok (.getfield 51, 3) := by decide +kernel
theorem d20_5 : decode prog_141_method_6_code 5 = .ok (.dup2_x1, 1) := by decide +kernel
theorem d20_6 : decode prog_141_method_6_code 6 = .ok (.lconst 1, 1) := by decide +kernel
theorem d20_7 : decode prog_141_method_6_code 7 = .ok (.ladd, 1) := by decide +kernel
theorem d20_8 : decode prog_141_method_6_code 8 = .ok (.putfield 51, 3) := by decide +kernel
theorem d20_11 : decode prog_141_method_6_code 11 = .ok (.lstore_n 1, 1) := by decide +kernel
theorem d20_12 : decode prog_141_method_6_code 12 = .ok (.aload_n 0, 1) := by decide +kernel
theorem d20_13 : decode prog_141_method_6_code 13 = .ok (.getfield 130, 3) := by decide +kernel
theorem d20_16 : decode prog_141_method_6_code 16 = .ok (.aload_n 0, 1) := by decide +kernel
theorem d20_17 : decode prog_141_method_6_code 17 = .ok (.getfield 56, 3) := by decide +kernel
theorem d20_20 : decode prog_141_method_6_code 20 = .ok (.invokeinterface 133 1, 5) := by decide +kernel
theorem d20_25 : decode prog_141_method_6_code 25 = .ok (.if_icmp .ge 40, 3) := by decide +kernel
theorem d20_65 : decode prog_141_method_6_code 65 = .ok (.aload_n 0, 1) := by decide +kernel
theorem d20_66 : decode prog_141_method_6_code 66 = .ok (.getfield 130, 3) := by decide +kernel
theorem d20_69 : decode prog_141_method_6_code 69 = .ok (.aload_n 0, 1) := by decide +kernel
theorem d20_70 : decode prog_141_method_6_code 70 = .ok (.getfield 56, 3) := by decide +kernel
theorem d20_73 : decode prog_141_method_6_code 73 = .ok (.invokeinterface 133 1, 5) := by decide +kernel
theorem d20_78 : decode prog_141_method_6_code 78 = .ok (.if_icmp .ge 31, 3) := by decide +kernel
theorem d20_109 : decode prog_141_method_6_code 109 = .ok (.iconst 0, 1) := by decide +kernel
theorem d20_110 : decode prog_141_method_6_code 110 = .ok (.istore_n 3, 1) := by decide +kernel
theorem d20_111 : decode prog_141_method_6_code 111 = .ok (.iload_n 3, 1) := by decide +kernel
theorem d20_112 : decode prog_141_method_6_code 112 = .ok (.ifCond .eq 9, 3) := by decide +kernel
theorem d20_121 : decode prog_141_method_6_code 121 = .ok (.iload_n 3, 1) := by decide +kernel
theorem d20_122 : decode prog_141_method_6_code 122 = .ok (.ifCond .ne 7, 3) := by decide +kernel
theorem d20_125 : decode prog_141_method_6_code 125 = .ok (.iconst 1, 1) := by decide +kernel
theorem d20_126 : decode prog_141_method_6_code 126 = .ok (.goto 4, 3) := by decide +kernel
theorem d20_130 : decode prog_141_method_6_code 130 = .ok (.ireturn, 1) := by decide +kernel
theorem ef_20 (m : MethodId) (x0 : Addr) : entryFrame m #[(.ref x0)] 4 = mkF m 0 #[rv x0, .unset, .unset, .unset] [] := by first | (simp [entryFrame, mkF, argsToLocals, Value.category]; done) | rfl
def Q20 (Z : State) (oa : Addr) (qn : Int64) (el : Addr) (ea : Addr) (kE : ClassId) (uf_oa_size : Value) (uf_oa_committed : Value) (uf_oa_committedAhead : Value) (uf_oa_unfinished : Value) (uf_oa_finished : Value) (uf_oa_restart : Value) (uf_oa_left : Value) (uf_oa_failing : Value) (uf_oa_committedFailures : Value) (h0 : Heap) (n0 : Nat) (rv_ : Option Value) (h_ : Heap) (L_ : List Loc) : Prop := rv_ = some (.int (1 : Int32)) ∧ Fr n0 L_ ∧ Keep h0 h_ [oa] ∧ Fld Z h_ oa "evenkeel/client/Window" "next" "J" (.long (qn + (1 : Int64))) ∧ Fld Z h_ oa "evenkeel/client/Window" "size" "I" uf_oa_size ∧ Fld Z h_ oa "evenkeel/client/Window" "committed" "J" uf_oa_committed ∧ Fld Z h_ oa "evenkeel/client/Window" "committedAhead" "Ljava/util/List;" uf_oa_committedAhead ∧ Fld Z h_ oa "evenkeel/client/Window" "unfinished" "J" uf_oa_unfinished ∧ Fld Z h_ oa "evenkeel/client/Window" "finished" "Ljava/util/BitSet;" uf_oa_finished ∧ Fld Z h_ oa "evenkeel/client/Window" "restart" "J" uf_oa_restart ∧ Fld Z h_ oa "evenkeel/client/Window" "consumed" "Ljava/util/List;" (.ref el) ∧ Fld Z h_ oa "evenkeel/client/Window" "consumedAt" "I" (.int (0 : Int32)) ∧ Fld Z h_ oa "evenkeel/client/Window" "left" "Ljava/util/BitSet;" uf_oa_left ∧ Fld Z h_ oa "evenkeel/client/Window" "failing" "Ljava/util/TreeMap;" uf_oa_failing ∧ Fld Z h_ oa "evenkeel/client/Window" "committedFailures" "Ljava/util/List;" uf_oa_committedFailures
set_option maxRecDepth 65536 in
set_option maxHeartbeats 40000000 in
theorem rm20 (l : Launch) (Z : State) (a0 : Array Value) (hw : ∀ d ∈ tables_1, d.before a0 Z = true) (ws : List Jvm.Cond) (oa : Addr) (qn : Int64) (el : Addr) (ea : Addr) (kE : ClassId) (uf_oa_size : Value) (uf_oa_committed : Value) (uf_oa_committedAhead : Value) (uf_oa_unfinished : Value) (uf_oa_finished : Value) (uf_oa_restart : Value) (uf_oa_left : Value) (uf_oa_failing : Value) (uf_oa_committedFailures : Value) (h0 : Heap) (n0 : Nat) (Z0 : n0 ≤ h0.size) (E_ : Exa Z h0 oa "evenkeel/client/Window") (Fn : Fld Z h0 oa "evenkeel/client/Window" "next" "J" (.long qn)) (Fc : Fld Z h0 oa "evenkeel/client/Window" "consumedAt" "I" (.int (0 : Int32))) (Fl : Fld Z h0 oa "evenkeel/client/Window" "consumed" "Ljava/util/List;" (.ref el)) (g_ : n0 ≤ oa) (O_ : Old Z n0 h0) (P_ : own_P Z el ea kE) (F_oa_size : Fld Z h0 oa "evenkeel/client/Window" "size" "I" uf_oa_size) (F_oa_committed : Fld Z h0 oa "evenkeel/client/Window" "committed" "J" uf_oa_committed) (F_oa_committedAhead : Fld Z h0 oa "evenkeel/client/Window" "committedAhead" "Ljava/util/List;" uf_oa_committedAhead) (F_oa_unfinished : Fld Z h0 oa "evenkeel/client/Window" "unfinished" "J" uf_oa_unfinished) (F_oa_finished : Fld Z h0 oa "evenkeel/client/Window" "finished" "Ljava/util/BitSet;" uf_oa_finished) (F_oa_restart : Fld Z h0 oa "evenkeel/client/Window" "restart" "J" uf_oa_restart) (F_oa_left : Fld Z h0 oa "evenkeel/client/Window" "left" "Ljava/util/BitSet;" uf_oa_left) (F_oa_failing : Fld Z h0 oa "evenkeel/client/Window" "failing" "Ljava/util/TreeMap;" uf_oa_failing) (F_oa_committedFailures : Fld Z h0 oa "evenkeel/client/Window" "committedFailures" "Ljava/util/List;" uf_oa_committedFailures) :
    MetFree l (⟨"evenkeel/client/Window", "take", "()Z"⟩ : MethodName) (head1 (Jvm.Cond.code (⟨"evenkeel/client/Window", "take", "()Z"⟩ : MethodName) prog_141_method_6_code 4 (some .boolean) :: ws) ({ frames := 1, cells := 0, slots := 0, locals := 13 } : Room)) (fun a U => a = #[(.ref oa)] ∧ Z.Warmed39 U.vm ∧ U.heap = h0) (fun _ _ _ _ _ => True) (fun _ U o U' => ∃ v L, o = .returned v ∧ Q20 Z oa qn el ea kE uf_oa_size uf_oa_committed uf_oa_committedAhead uf_oa_unfinished uf_oa_finished uf_oa_restart uf_oa_left uf_oa_failing uf_oa_committedFailures h0 n0 v U'.heap L ∧ FrameEnd U o U' L ({ frames := 1, cells := 0, slots := 0, locals := 13 } : Room).cells ({ frames := 1, cells := 0, slots := 0, locals := 13 } : Room).slots) := by
  refine MetFree.of_bodySF (plainFor_of_name pn_8) hisR ?_
  intro p e s m args below meth c s₁ Bd hml0 hP hK
  obtain ⟨rfl, hZ, hh⟩ := hP
  have hx := Bd.exec
  have hby := Bd.bytes
  have hml : c.maxLocals = 4 := hml0
  have hown : s.vm.findClass "evenkeel/client/Window" = some m.cls := findClass_of_methodNamed Bd.named
  have hnm := (name_of_methodNamed Bd.named Bd.method).1
  have X0 : Stand p l e ({ frames := 1, cells := 0, slots := 0, locals := 13 } : Room) s m #[(.ref oa)] below meth c s₁ [] 0 0 := Stand.of_body Bd
  have e0 : s₁.heap = h0 := by rw [← hh, Bd.state]; rfl
  have N0 := Fr.nil n0
  obtain ⟨G, hG, pre0⟩ : ∃ G : State → Prop, (∀ t, G t → Steps p.tables e below (s₁.setTop (entryFrame m #[(.ref oa)] 4)) t) ∧ ∀ t, own_K p e below m s₁ 0 #[rv oa, .unset, .unset, .unset] [] t → G t := ⟨fun t => Steps p.tables e below (s₁.setTop (entryFrame m #[(.ref oa)] 4)) t, fun _ k => k, fun t k => castTop (ef_20 m oa) k⟩
  obtain ⟨T1, X1, e1, st1⟩ := getF X0 hx hZ hown (host := "") (Or.inl (tw hw (i := 144) rfl)) Via.refl e0 Fn (g := (mkF m 2 #[rv oa, .unset, .unset, .unset] [(.ref oa), (.ref oa)])) rfl rfl (hb hby d20_2)
  obtain ⟨T2, h2, X2, e2, W2, st2⟩ := putF X1 hx hZ hown (host := "") (Or.inl (tw hw (i := 144) rfl)) Via.refl e1 Fn E_ (Or.inl (tw hw (i := 145) rfl)) (tw hw (i := 3) rfl) (ty := .long) (by decide) rfl rfl (g := (mkF m 8 #[rv oa, .unset, .unset, .unset] [(.long (qn + (1 : Int64))), (.ref oa), (.long qn)])) rfl rfl (hb hby d20_8)
  have f2w := Fn.same W2
  have K2 : Keep h0 h2 [oa] := (Keep.refl h0 [oa]).wr W2 (Or.inl (List.mem_of_getElem? (i := 0) rfl))
  have N2 := Fr.snoc X2 N0 g_
  have sz2 : n0 ≤ h2.size := Nat.le_trans Z0 (Keep.of_wr W2).1
  have f4 : Fld Z h2 oa "evenkeel/client/Window" "consumedAt" "I" (.int (0 : Int32)) := (Fc.other W2 (Or.inr (slot_ne (Or.inl (tw hw (i := 174) rfl)) (Or.inl (tw hw (i := 145) rfl)) (by decide) (t := .int) (t' := .long) (by decide) (by decide))))
  obtain ⟨T3, X3, e3, st3⟩ := getF X2 hx hZ hown (host := "") (Or.inl (tw hw (i := 173) rfl)) Via.refl e2 f4 (g := (mkF m 13 #[rv oa, lv qn, .second, .unset] [(.ref oa)])) rfl rfl (hb hby d20_13)
  have f6 : Fld Z h2 oa "evenkeel/client/Window" "consumed" "Ljava/util/List;" (.ref el) := (Fl.other W2 (Or.inr (slot_ne (Or.inr (tw hw (i := 152) rfl)) (Or.inl (tw hw (i := 145) rfl)) (by decide) (t := (.object "java/util/List")) (t' := .long) (by decide) (by decide))))
  obtain ⟨T5, X5, e5, st5⟩ := getF X3 hx hZ hown (host := "") (Or.inl (tw hw (i := 151) rfl)) Via.refl e3 f6 (g := (mkF m 17 #[rv oa, lv qn, .second, .unset] [(.ref oa), (.int (0 : Int32))])) rfl rfl (hb hby d20_17)
  have pre7 : ∀ t, own_K p e below m T5 20 #[rv oa, lv qn, .second, .unset] [(.ref el), (.int (0 : Int32))] t → G t := by
    intro t k
    refine pre0 t ?_
    show own_K p e below m s₁ 0 #[rv oa, .unset, .unset, .unset] [] _
    refine XS.aloadN X0.here hx rfl (hb hby d20_0) rfl rfl ?_
    show own_K p e below m s₁ 1 #[rv oa, .unset, .unset, .unset] [(.ref oa)] _
    refine XS.dup X0.here hx rfl (hb hby d20_1) rfl rfl ?_
    show own_K p e below m s₁ 2 #[rv oa, .unset, .unset, .unset] [(.ref oa), (.ref oa)] _
    refine st1 _ ?_
    show own_K p e below m T1 5 #[rv oa, .unset, .unset, .unset] [(.long qn), (.ref oa)] _
    jvm_step X1.here [X1.here.top, hx, (hb hby d20_5), Value.category]
    show own_K p e below m T1 6 #[rv oa, .unset, .unset, .unset] [(.long qn), (.ref oa), (.long qn)] _
    refine XS.lconst X1.here hx rfl (hb hby d20_6) ?_
    show own_K p e below m T1 7 #[rv oa, .unset, .unset, .unset] [(.long (1 : Int64)), (.long qn), (.ref oa), (.long qn)] _
    refine XS.ladd X1.here hx rfl (hb hby d20_7) rfl ?_
    show own_K p e below m T1 8 #[rv oa, .unset, .unset, .unset] [(.long (qn + (1 : Int64))), (.ref oa), (.long qn)] _
    refine st2 _ ?_
    show own_K p e below m T2 11 #[rv oa, .unset, .unset, .unset] [(.long qn)] _
    refine XS.lstoreN X2.here hx rfl (hb hby d20_11) rfl (l' := #[rv oa, lv qn, .second, .unset]) rfl ?_
    show own_K p e below m T2 12 #[rv oa, lv qn, .second, .unset] [] _
    refine XS.aloadN X2.here hx rfl (hb hby d20_12) rfl rfl ?_
    show own_K p e below m T2 13 #[rv oa, lv qn, .second, .unset] [(.ref oa)] _
    refine st3 _ ?_
    show own_K p e below m T3 16 #[rv oa, lv qn, .second, .unset] [(.int (0 : Int32))] _
    refine XS.aloadN X3.here hx rfl (hb hby d20_16) rfl rfl ?_
    show own_K p e below m T3 17 #[rv oa, lv qn, .second, .unset] [(.ref oa), (.int (0 : Int32))] _
    refine st5 _ ?_
    exact k
  have f8 : Old Z n0 h2 := (O_.wr W2 g_)
  obtain ⟨cq9, kq9, q9a, q9b, q9c⟩ := isOf hZ e5 (Exa.ext f8.2 P_.2.1)
  obtain ⟨_, _, ⟨T9, L9, k9, n9⟩, -, X9, ⟨Lc9, hQ9, l9, y9, z9⟩, st9⟩ := X5.interfaceBack hx (xi := (⟨"java/util/List", "size", "()I"⟩ : MethodName)) (y := (⟨"java/util/ImmutableCollections$ListN", "size", "()I"⟩ : MethodName)) hown (mvT hZ (tw hw (i := 175) rfl)) (mvT hZ (tw hw (i := 176) rfl)) (mvT hZ (tw hw (i := 177) rfl)) (mvT hZ (tw hw (i := 178) rfl)) (mvT hZ (tw hw (i := 62) rfl)) (mvT hZ (tw hw (i := 179) rfl)) (mvT hZ (tw hw (i := 180) rfl)) (mvT hZ (tw hw (i := 45) rfl)) (by decide) (backOf (W := 1) (rm9 l Z a0 hw [] el ea kE (0 : Int32) [] .null h2 n0 sz2 (Fld.ext f8.2 P_.2.2.1) (P_.2.2.2.1.ext f8.2)) hZ (tw hw (i := 64) rfl) (tw hw (i := 63) rfl) (by decide) (by decide)) q9a q9b q9c (g := (mkF m 20 #[rv oa, lv qn, .second, .unset] [(.ref el), (.int (0 : Int32))])) rfl (by rw [hml]; rfl) (Steps.refl _) (argsL := []) (rest := [(.int (0 : Int32))]) (lenOf pd_1 rfl) rfl (by show 2 * 0 + _ ≤ _; exact Nat.le_of_eq rfl) (hb hby d20_20) (fun _ _ => ⟨rfl, e5, (by decide : 0 + 0 ≤ _), (by decide : 0 + 0 ≤ _)⟩)
  dsimp only [Pt.U, Pt.locs, Pt.cells, Pt.slots] at X9 l9 y9 z9 st9 hQ9
  subst l9 y9 z9
  obtain ⟨rfl, Nq9, eh9⟩ := hQ9
  have N9 := Fr.app N2 Nq9
  obtain ⟨T10, X10, e10, st10⟩ := getF X9 hx hZ hown (host := "") (Or.inl (tw hw (i := 173) rfl)) Via.refl eh9 f4 (g := (mkF m 66 #[rv oa, lv qn, .second, .unset] [(.ref oa)])) rfl rfl (hb hby d20_66)
  obtain ⟨T11, X11, e11, st11⟩ := getF X10 hx hZ hown (host := "") (Or.inl (tw hw (i := 151) rfl)) Via.refl e10 f6 (g := (mkF m 70 #[rv oa, lv qn, .second, .unset] [(.ref oa), (.int (0 : Int32))])) rfl rfl (hb hby d20_70)
  have pre12 : ∀ t, own_K p e below m T11 73 #[rv oa, lv qn, .second, .unset] [(.ref el), (.int (0 : Int32))] t → G t := by
    intro t k
    refine pre7 t ?_
    show own_K p e below m T5 20 #[rv oa, lv qn, .second, .unset] [(.ref el), (.int (0 : Int32))] _
    refine st9.trans ?_
    show own_K p e below m T9 25 #[rv oa, lv qn, .second, .unset] [(.int (0 : Int32)), (.int (0 : Int32))] _
    refine XS.icmpYes X9.here hx rfl (pc0 := 25) (pc' := 65) rfl (hb hby d20_25) rfl (flt (by decide : ¬ ((0 : Int32) < (0 : Int32)))).2.1 (by decide) (by decide) ?_
    show own_K p e below m T9 65 #[rv oa, lv qn, .second, .unset] [] _
    refine XS.aloadN X9.here hx rfl (hb hby d20_65) rfl rfl ?_
    show own_K p e below m T9 66 #[rv oa, lv qn, .second, .unset] [(.ref oa)] _
    refine st10 _ ?_
    show own_K p e below m T10 69 #[rv oa, lv qn, .second, .unset] [(.int (0 : Int32))] _
    refine XS.aloadN X10.here hx rfl (hb hby d20_69) rfl rfl ?_
    show own_K p e below m T10 70 #[rv oa, lv qn, .second, .unset] [(.ref oa), (.int (0 : Int32))] _
    refine st11 _ ?_
    exact k
  obtain ⟨cq13, kq13, q13a, q13b, q13c⟩ := isOf hZ e11 (Exa.ext f8.2 P_.2.1)
  obtain ⟨_, _, ⟨T13, L13, k13, n13⟩, -, X13, ⟨Lc13, hQ13, l13, y13, z13⟩, st13⟩ := X11.interfaceBack hx (xi := (⟨"java/util/List", "size", "()I"⟩ : MethodName)) (y := (⟨"java/util/ImmutableCollections$ListN", "size", "()I"⟩ : MethodName)) hown (mvT hZ (tw hw (i := 175) rfl)) (mvT hZ (tw hw (i := 176) rfl)) (mvT hZ (tw hw (i := 177) rfl)) (mvT hZ (tw hw (i := 178) rfl)) (mvT hZ (tw hw (i := 62) rfl)) (mvT hZ (tw hw (i := 179) rfl)) (mvT hZ (tw hw (i := 180) rfl)) (mvT hZ (tw hw (i := 45) rfl)) (by decide) (backOf (W := 1) (rm9 l Z a0 hw [] el ea kE (0 : Int32) [] .null h2 n0 sz2 (Fld.ext f8.2 P_.2.2.1) (P_.2.2.2.1.ext f8.2)) hZ (tw hw (i := 64) rfl) (tw hw (i := 63) rfl) (by decide) (by decide)) q13a q13b q13c (g := (mkF m 73 #[rv oa, lv qn, .second, .unset] [(.ref el), (.int (0 : Int32))])) rfl (by rw [hml]; rfl) (Steps.refl _) (argsL := []) (rest := [(.int (0 : Int32))]) (lenOf pd_1 rfl) rfl (by show 2 * 0 + _ ≤ _; exact Nat.le_of_eq rfl) (hb hby d20_73) (fun _ _ => ⟨rfl, e11, (by decide : 0 + 0 ≤ _), (by decide : 0 + 0 ≤ _)⟩)
  dsimp only [Pt.U, Pt.locs, Pt.cells, Pt.slots] at X13 l13 y13 z13 st13 hQ13
  subst l13 y13 z13
  obtain ⟨rfl, Nq13, eh13⟩ := hQ13
  have N13 := Fr.app N9 Nq13
  have pre14 : ∀ t, own_K p e below m T13 130 #[rv oa, lv qn, .second, iv (0 : Int32)] [(.int (1 : Int32))] t → G t := by
    intro t k
    refine pre12 t ?_
    show own_K p e below m T11 73 #[rv oa, lv qn, .second, .unset] [(.ref el), (.int (0 : Int32))] _
    refine st13.trans ?_
    show own_K p e below m T13 78 #[rv oa, lv qn, .second, .unset] [(.int (0 : Int32)), (.int (0 : Int32))] _
    refine XS.icmpYes X13.here hx rfl (pc0 := 78) (pc' := 109) rfl (hb hby d20_78) rfl (flt (by decide : ¬ ((0 : Int32) < (0 : Int32)))).2.1 (by decide) (by decide) ?_
    show own_K p e below m T13 109 #[rv oa, lv qn, .second, .unset] [] _
    refine XS.iconst X13.here hx rfl (hb hby d20_109) ?_
    show own_K p e below m T13 110 #[rv oa, lv qn, .second, .unset] [(.int (0 : Int32))] _
    refine XS.istoreN X13.here hx rfl (hb hby d20_110) rfl (l' := #[rv oa, lv qn, .second, iv (0 : Int32)]) rfl ?_
    show own_K p e below m T13 111 #[rv oa, lv qn, .second, iv (0 : Int32)] [] _
    refine XS.iloadN X13.here hx rfl (hb hby d20_111) rfl ?_
    show own_K p e below m T13 112 #[rv oa, lv qn, .second, iv (0 : Int32)] [(.int (0 : Int32))] _
    refine XS.ifYes X13.here hx rfl (pc0 := 112) (pc' := 121) rfl (hb hby d20_112) rfl ((if0 _ _).trans (teq (by decide : (0 : Int32) = (0 : Int32))).1) (by decide) (by decide) ?_
    show own_K p e below m T13 121 #[rv oa, lv qn, .second, iv (0 : Int32)] [] _
    refine XS.iloadN X13.here hx rfl (hb hby d20_121) rfl ?_
    show own_K p e below m T13 122 #[rv oa, lv qn, .second, iv (0 : Int32)] [(.int (0 : Int32))] _
    refine XS.ifNo X13.here hx rfl (hb hby d20_122) rfl ((if0 _ _).trans (teq (by decide : (0 : Int32) = (0 : Int32))).2) ?_
    show own_K p e below m T13 125 #[rv oa, lv qn, .second, iv (0 : Int32)] [] _
    refine XS.iconst X13.here hx rfl (hb hby d20_125) ?_
    show own_K p e below m T13 126 #[rv oa, lv qn, .second, iv (0 : Int32)] [(.int (1 : Int32))] _
    refine XS.goto X13.here hx rfl (pc0 := 126) (pc' := 130) rfl (hb hby d20_126) (by decide) (by decide) ?_
    exact k
  have f15 : Fld Z h2 oa "evenkeel/client/Window" "size" "I" uf_oa_size := (F_oa_size.other W2 (Or.inr (slot_ne (Or.inr (tw hw (i := 134) rfl)) (Or.inl (tw hw (i := 145) rfl)) (by decide) (t := .int) (t' := .long) (by decide) (by decide))))
  have f16 : Fld Z h2 oa "evenkeel/client/Window" "committed" "J" uf_oa_committed := (F_oa_committed.other W2 (Or.inr (slot_ne (Or.inl (tw hw (i := 141) rfl)) (Or.inl (tw hw (i := 145) rfl)) (by decide) (t := .long) (t' := .long) (by decide) (by decide))))
  have f17 : Fld Z h2 oa "evenkeel/client/Window" "committedAhead" "Ljava/util/List;" uf_oa_committedAhead := (F_oa_committedAhead.other W2 (Or.inr (slot_ne (Or.inl (tw hw (i := 103) rfl)) (Or.inl (tw hw (i := 145) rfl)) (by decide) (t := (.object "java/util/List")) (t' := .long) (by decide) (by decide))))
  have f18 : Fld Z h2 oa "evenkeel/client/Window" "unfinished" "J" uf_oa_unfinished := (F_oa_unfinished.other W2 (Or.inr (slot_ne (Or.inl (tw hw (i := 143) rfl)) (Or.inl (tw hw (i := 145) rfl)) (by decide) (t := .long) (t' := .long) (by decide) (by decide))))
  have f19 : Fld Z h2 oa "evenkeel/client/Window" "finished" "Ljava/util/BitSet;" uf_oa_finished := (F_oa_finished.other W2 (Or.inr (slot_ne (Or.inr (tw hw (i := 127) rfl)) (Or.inl (tw hw (i := 145) rfl)) (by decide) (t := (.object "java/util/BitSet")) (t' := .long) (by decide) (by decide))))
  have f20 : Fld Z h2 oa "evenkeel/client/Window" "restart" "J" uf_oa_restart := (F_oa_restart.other W2 (Or.inr (slot_ne (Or.inl (tw hw (i := 130) rfl)) (Or.inl (tw hw (i := 145) rfl)) (by decide) (t := .long) (t' := .long) (by decide) (by decide))))
  have f21 : Fld Z h2 oa "evenkeel/client/Window" "left" "Ljava/util/BitSet;" uf_oa_left := (F_oa_left.other W2 (Or.inr (slot_ne (Or.inr (tw hw (i := 132) rfl)) (Or.inl (tw hw (i := 145) rfl)) (by decide) (t := (.object "java/util/BitSet")) (t' := .long) (by decide) (by decide))))
  have f22 : Fld Z h2 oa "evenkeel/client/Window" "failing" "Ljava/util/TreeMap;" uf_oa_failing := (F_oa_failing.other W2 (Or.inr (slot_ne (Or.inl (tw hw (i := 196) rfl)) (Or.inl (tw hw (i := 145) rfl)) (by decide) (t := (.object "java/util/TreeMap")) (t' := .long) (by decide) (by decide))))
  have f23 : Fld Z h2 oa "evenkeel/client/Window" "committedFailures" "Ljava/util/List;" uf_oa_committedFailures := (F_oa_committedFailures.other W2 (Or.inr (slot_ne (Or.inl (tw hw (i := 159) rfl)) (Or.inl (tw hw (i := 145) rfl)) (by decide) (t := (.object "java/util/List")) (t' := .long) (by decide) (by decide))))
  obtain ⟨fs, hr, hrun, hended, hW, hsame⟩ := X13.leave (v := some (.int (1 : Int32))) (fun h => by rw [Bd.returns] at h; cases h)
  refine ⟨_, _, hG _ (pre14 _ ?_), hrun, hended, _, _, rfl, ?_, ⟨_, rfl⟩, hW, hsame.mono (by decide) (by decide)⟩
  · show own_K p e below m T13 130 #[rv oa, lv qn, .second, iv (0 : Int32)] [(.int (1 : Int32))] _
    exact retN X13 hx (t := .boolean) Bd.returns (by simp) (hb hby d20_130) hr
  · show Q20 Z oa qn el ea kE uf_oa_size uf_oa_committed uf_oa_committedAhead uf_oa_unfinished uf_oa_finished uf_oa_restart uf_oa_left uf_oa_failing uf_oa_committedFailures h0 n0 _ T13.heap _
    rw [eh13]
    exact ⟨rfl, N13, K2, f2w, f15, f16, f17, f18, f19, f20, f6, f4, f21, f22, f23⟩

theorem d26_0 : decode jdk_29_method_66_code 0 = .ok (.lload_n 0, 1) := by decide +kernel
theorem d26_1 : decode jdk_29_method_66_code 1 = .ok (.lload_n 2, 1) := by decide +kernel
theorem d26_2 : decode jdk_29_method_66_code 2 = .ok (.lcmp, 1) := by decide +kernel
theorem d26_3 : decode jdk_29_method_66_code 3 = .ok (.ifCond .lt 7, 3) := by decide +kernel
theorem d26_10 : decode jdk_29_method_66_code 10 = .ok (.lload_n 2, 1) := by decide +kernel
theorem d26_11 : decode jdk_29_method_66_code 11 = .ok (.lreturn, 1) := by decide +kernel
theorem d26_6 : decode jdk_29_method_66_code 6 = .ok (.lload_n 0, 1) := by decide +kernel
theorem d26_7 : decode jdk_29_method_66_code 7 = .ok (.goto 4, 3) := by decide +kernel
theorem ef_26 (m : MethodId) (x0 : Int64) (x1 : Int64) : entryFrame m #[(.long x0), (.long x1)] 4 = mkF m 0 #[lv x0, .second, lv x1, .second] [] := by first | (simp [entryFrame, mkF, argsToLocals, Value.category]; done) | rfl
def Q26 (Z : State) (xa : Int64) (xb : Int64) (h0 : Heap) (n0 : Nat) (rv_ : Option Value) (h_ : Heap) (L_ : List Loc) : Prop := rv_ = some (.long (if xa < xb then xb else xa)) ∧ Fr n0 L_ ∧ h_ = h0
set_option maxRecDepth 65536 in
set_option maxHeartbeats 40000000 in
theorem rm26 (l : Launch) (Z : State) (a0 : Array Value) (hw : ∀ d ∈ tables_1, d.before a0 Z = true) (ws : List Jvm.Cond) (xa : Int64) (xb : Int64) (h0 : Heap) (n0 : Nat) (Z0 : n0 ≤ h0.size) :
    MetFree l (⟨"java/lang/Math", "max", "(JJ)J"⟩ : MethodName) (head1 (Jvm.Cond.code (⟨"java/lang/Math", "max", "(JJ)J"⟩ : MethodName) jdk_29_method_66_code 4 (some .long) :: ws) ({ frames := 0, cells := 0, slots := 0, locals := 0 } : Room)) (fun a U => a = #[(.long xa), (.long xb)] ∧ Z.Warmed39 U.vm ∧ U.heap = h0) (fun _ _ _ _ _ => True) (fun _ U o U' => ∃ v L, o = .returned v ∧ Q26 Z xa xb h0 n0 v U'.heap L ∧ FrameEnd U o U' L ({ frames := 0, cells := 0, slots := 0, locals := 0 } : Room).cells ({ frames := 0, cells := 0, slots := 0, locals := 0 } : Room).slots) := by
  refine MetFree.of_bodySF (Jvm.Free.JP.mathPlain rfl (by decide +kernel)) hisR ?_
  intro p e s m args below meth c s₁ Bd hml0 hP hK
  obtain ⟨rfl, hZ, hh⟩ := hP
  have hx := Bd.exec
  have hby := Bd.bytes
  have hml : c.maxLocals = 4 := hml0
  have hown : s.vm.findClass "java/lang/Math" = some m.cls := findClass_of_methodNamed Bd.named
  have hnm := (name_of_methodNamed Bd.named Bd.method).1
  have X0 : Stand p l e ({ frames := 0, cells := 0, slots := 0, locals := 0 } : Room) s m #[(.long xa), (.long xb)] below meth c s₁ [] 0 0 := Stand.of_body Bd
  have e0 : s₁.heap = h0 := by rw [← hh, Bd.state]; rfl
  have N0 := Fr.nil n0
  obtain ⟨G, hG, pre0⟩ : ∃ G : State → Prop, (∀ t, G t → Steps p.tables e below (s₁.setTop (entryFrame m #[(.long xa), (.long xb)] 4)) t) ∧ ∀ t, own_K p e below m s₁ 0 #[lv xa, .second, lv xb, .second] [] t → G t := ⟨fun t => Steps p.tables e below (s₁.setTop (entryFrame m #[(.long xa), (.long xb)] 4)) t, fun _ k => k, fun t k => castTop (ef_26 m xa xb) k⟩
  have pre1 : ∀ t, own_K p e below m s₁ 3 #[lv xa, .second, lv xb, .second] [(.int (lcmpW xa xb))] t → G t := by
    intro t k
    refine pre0 t ?_
    show own_K p e below m s₁ 0 #[lv xa, .second, lv xb, .second] [] _
    refine XS.lloadN X0.here hx rfl (hb hby d26_0) rfl ?_
    show own_K p e below m s₁ 1 #[lv xa, .second, lv xb, .second] [(.long xa)] _
    refine XS.lloadN X0.here hx rfl (hb hby d26_1) rfl ?_
    show own_K p e below m s₁ 2 #[lv xa, .second, lv xb, .second] [(.long xb), (.long xa)] _
    refine XS.lcmp X0.here hx rfl (hb hby d26_2) rfl ?_
    exact k
  by_cases hc3_2 : xa < xb
  · have pre3 : ∀ t, own_K p e below m s₁ 11 #[lv xa, .second, lv xb, .second] [(.long xb)] t → G t := by
      intro t k
      refine pre1 t ?_
      show own_K p e below m s₁ 3 #[lv xa, .second, lv xb, .second] [(.int (lcmpW xa xb))] _
      refine XS.ifYes X0.here hx rfl (pc0 := 3) (pc' := 10) rfl (hb hby d26_3) rfl ((if0 _ _).trans (tlt ((lw_lt _ _).mpr hc3_2)).1) (by decide) (by decide) ?_
      show own_K p e below m s₁ 10 #[lv xa, .second, lv xb, .second] [] _
      refine XS.lloadN X0.here hx rfl (hb hby d26_10) rfl ?_
      exact k
    obtain ⟨fs, hr, hrun, hended, hW, hsame⟩ := X0.leave (v := some (.long xb)) (fun h => by rw [Bd.returns] at h; cases h)
    refine ⟨_, _, hG _ (pre3 _ ?_), hrun, hended, _, _, rfl, ?_, ⟨_, rfl⟩, hW, hsame.mono (by decide) (by decide)⟩
    · show own_K p e below m s₁ 11 #[lv xa, .second, lv xb, .second] [(.long xb)] _
      exact retOut X0 hx Bd.returns rfl (Or.inr (Or.inl ⟨rfl, rfl, _, rfl⟩)) (hb hby d26_11) hr
    · show Q26 Z xa xb h0 n0 _ s₁.heap _
      rw [e0]
      exact ⟨(by simp only [if_pos hc3_2]), N0, rfl⟩
  · have pre4 : ∀ t, own_K p e below m s₁ 11 #[lv xa, .second, lv xb, .second] [(.long xa)] t → G t := by
      intro t k
      refine pre1 t ?_
      show own_K p e below m s₁ 3 #[lv xa, .second, lv xb, .second] [(.int (lcmpW xa xb))] _
      refine XS.ifNo X0.here hx rfl (hb hby d26_3) rfl ((if0 _ _).trans (flt (mt (lw_lt _ _).mp hc3_2)).1) ?_
      show own_K p e below m s₁ 6 #[lv xa, .second, lv xb, .second] [] _
      refine XS.lloadN X0.here hx rfl (hb hby d26_6) rfl ?_
      show own_K p e below m s₁ 7 #[lv xa, .second, lv xb, .second] [(.long xa)] _
      refine XS.goto X0.here hx rfl (pc0 := 7) (pc' := 11) rfl (hb hby d26_7) (by decide) (by decide) ?_
      exact k
    obtain ⟨fs, hr, hrun, hended, hW, hsame⟩ := X0.leave (v := some (.long xa)) (fun h => by rw [Bd.returns] at h; cases h)
    refine ⟨_, _, hG _ (pre4 _ ?_), hrun, hended, _, _, rfl, ?_, ⟨_, rfl⟩, hW, hsame.mono (by decide) (by decide)⟩
    · show own_K p e below m s₁ 11 #[lv xa, .second, lv xb, .second] [(.long xa)] _
      exact retOut X0 hx Bd.returns rfl (Or.inr (Or.inl ⟨rfl, rfl, _, rfl⟩)) (hb hby d26_11) hr
    · show Q26 Z xa xb h0 n0 _ s₁.heap _
      rw [e0]
      exact ⟨(by simp only [if_neg hc3_2]), N0, rfl⟩

theorem d23_0 : decode prog_141_method_20_code 0 = .ok (.aload_n 0, 1) := by decide +kernel
theorem d23_1 : decode prog_141_method_20_code 1 = .ok (.getfield 48, 3) := by decide +kernel
theorem d23_4 : decode prog_141_method_20_code 4 = .ok (.aload_n 0, 1) := by decide +kernel
theorem d23_5 : decode prog_141_method_20_code 5 = .ok (.getfield 51, 3) := by decide +kernel
theorem d23_8 : decode prog_141_method_20_code 8 = .ok (.lcmp, 1) := by decide +kernel
theorem d23_9 : decode prog_141_method_20_code 9 = .ok (.ifCond .ne 7, 3) := by decide +kernel
theorem d23_12 : decode prog_141_method_20_code 12 = .ok (.iconst 1, 1) := by decide +kernel
theorem d23_13 : decode prog_141_method_20_code 13 = .ok (.goto 4, 3) := by decide +kernel
theorem d23_17 : decode prog_141_method_20_code 17 = .ok (.ireturn, 1) := by decide +kernel
theorem d23_16 : decode prog_141_method_20_code 16 = .ok (.iconst 0, 1) := by decide +kernel
theorem ef_23 (m : MethodId) (x0 : Addr) : entryFrame m #[(.ref x0)] 1 = mkF m 0 #[rv x0] [] := by first | (simp [entryFrame, mkF, argsToLocals, Value.category]; done) | rfl
def Q23 (Z : State) (oa : Addr) (qu : Int64) (qn : Int64) (h0 : Heap) (n0 : Nat) (rv_ : Option Value) (h_ : Heap) (L_ : List Loc) : Prop := rv_ = some (.int (if qu = qn then (1 : Int32) else (0 : Int32))) ∧ Fr n0 L_ ∧ h_ = h0
set_option maxRecDepth 65536 in
set_option maxHeartbeats 40000000 in
theorem rm23 (l : Launch) (Z : State) (a0 : Array Value) (hw : ∀ d ∈ tables_1, d.before a0 Z = true) (ws : List Jvm.Cond) (oa : Addr) (qu : Int64) (qn : Int64) (h0 : Heap) (n0 : Nat) (Z0 : n0 ≤ h0.size) (Fu : Fld Z h0 oa "evenkeel/client/Window" "unfinished" "J" (.long qu)) (Fn : Fld Z h0 oa "evenkeel/client/Window" "next" "J" (.long qn)) :
    MetFree l (⟨"evenkeel/client/Window", "allFinished", "()Z"⟩ : MethodName) (head1 (Jvm.Cond.code (⟨"evenkeel/client/Window", "allFinished", "()Z"⟩ : MethodName) prog_141_method_20_code 1 (some .boolean) :: ws) ({ frames := 0, cells := 0, slots := 0, locals := 0 } : Room)) (fun a U => a = #[(.ref oa)] ∧ Z.Warmed39 U.vm ∧ U.heap = h0) (fun _ _ _ _ _ => True) (fun _ U o U' => ∃ v L, o = .returned v ∧ Q23 Z oa qu qn h0 n0 v U'.heap L ∧ FrameEnd U o U' L ({ frames := 0, cells := 0, slots := 0, locals := 0 } : Room).cells ({ frames := 0, cells := 0, slots := 0, locals := 0 } : Room).slots) := by
  refine MetFree.of_bodySF (plainFor_of_name pn_8) hisR ?_
  intro p e s m args below meth c s₁ Bd hml0 hP hK
  obtain ⟨rfl, hZ, hh⟩ := hP
  have hx := Bd.exec
  have hby := Bd.bytes
  have hml : c.maxLocals = 1 := hml0
  have hown : s.vm.findClass "evenkeel/client/Window" = some m.cls := findClass_of_methodNamed Bd.named
  have hnm := (name_of_methodNamed Bd.named Bd.method).1
  have X0 : Stand p l e ({ frames := 0, cells := 0, slots := 0, locals := 0 } : Room) s m #[(.ref oa)] below meth c s₁ [] 0 0 := Stand.of_body Bd
  have e0 : s₁.heap = h0 := by rw [← hh, Bd.state]; rfl
  have N0 := Fr.nil n0
  obtain ⟨G, hG, pre0⟩ : ∃ G : State → Prop, (∀ t, G t → Steps p.tables e below (s₁.setTop (entryFrame m #[(.ref oa)] 1)) t) ∧ ∀ t, own_K p e below m s₁ 0 #[rv oa] [] t → G t := ⟨fun t => Steps p.tables e below (s₁.setTop (entryFrame m #[(.ref oa)] 1)) t, fun _ k => k, fun t k => castTop (ef_23 m oa) k⟩
  obtain ⟨T1, X1, e1, st1⟩ := getF X0 hx hZ hown (host := "") (Or.inl (tw hw (i := 142) rfl)) Via.refl e0 Fu (g := (mkF m 1 #[rv oa] [(.ref oa)])) rfl rfl (hb hby d23_1)
  obtain ⟨T2, X2, e2, st2⟩ := getF X1 hx hZ hown (host := "") (Or.inl (tw hw (i := 144) rfl)) Via.refl e1 Fn (g := (mkF m 5 #[rv oa] [(.ref oa), (.long qu)])) rfl rfl (hb hby d23_5)
  have pre3 : ∀ t, own_K p e below m T2 9 #[rv oa] [(.int (lcmpW qu qn))] t → G t := by
    intro t k
    refine pre0 t ?_
    show own_K p e below m s₁ 0 #[rv oa] [] _
    refine XS.aloadN X0.here hx rfl (hb hby d23_0) rfl rfl ?_
    show own_K p e below m s₁ 1 #[rv oa] [(.ref oa)] _
    refine st1 _ ?_
    show own_K p e below m T1 4 #[rv oa] [(.long qu)] _
    refine XS.aloadN X1.here hx rfl (hb hby d23_4) rfl rfl ?_
    show own_K p e below m T1 5 #[rv oa] [(.ref oa), (.long qu)] _
    refine st2 _ ?_
    show own_K p e below m T2 8 #[rv oa] [(.long qn), (.long qu)] _
    refine XS.lcmp X2.here hx rfl (hb hby d23_8) rfl ?_
    exact k
  by_cases hc9_4 : qu = qn
  · have pre5 : ∀ t, own_K p e below m T2 17 #[rv oa] [(.int (1 : Int32))] t → G t := by
      intro t k
      refine pre3 t ?_
      show own_K p e below m T2 9 #[rv oa] [(.int (lcmpW qu qn))] _
      refine XS.ifNo X2.here hx rfl (hb hby d23_9) rfl ((if0 _ _).trans (teq ((lw_eq _ _).mpr hc9_4)).2) ?_
      show own_K p e below m T2 12 #[rv oa] [] _
      refine XS.iconst X2.here hx rfl (hb hby d23_12) ?_
      show own_K p e below m T2 13 #[rv oa] [(.int (1 : Int32))] _
      refine XS.goto X2.here hx rfl (pc0 := 13) (pc' := 17) rfl (hb hby d23_13) (by decide) (by decide) ?_
      exact k
    obtain ⟨fs, hr, hrun, hended, hW, hsame⟩ := X2.leave (v := some (.int (1 : Int32))) (fun h => by rw [Bd.returns] at h; cases h)
    refine ⟨_, _, hG _ (pre5 _ ?_), hrun, hended, _, _, rfl, ?_, ⟨_, rfl⟩, hW, hsame.mono (by decide) (by decide)⟩
    · show own_K p e below m T2 17 #[rv oa] [(.int (1 : Int32))] _
      exact retN X2 hx (t := .boolean) Bd.returns (by simp) (hb hby d23_17) hr
    · show Q23 Z oa qu qn h0 n0 _ T2.heap _
      rw [e2]
      exact ⟨(by simp only [if_pos hc9_4]), N0, rfl⟩
  · have pre6 : ∀ t, own_K p e below m T2 17 #[rv oa] [(.int (0 : Int32))] t → G t := by
      intro t k
      refine pre3 t ?_
      show own_K p e below m T2 9 #[rv oa] [(.int (lcmpW qu qn))] _
      refine XS.ifYes X2.here hx rfl (pc0 := 9) (pc' := 16) rfl (hb hby d23_9) rfl ((if0 _ _).trans (feq (mt (lw_eq _ _).mp hc9_4)).2) (by decide) (by decide) ?_
      show own_K p e below m T2 16 #[rv oa] [] _
      refine XS.iconst X2.here hx rfl (hb hby d23_16) ?_
      exact k
    obtain ⟨fs, hr, hrun, hended, hW, hsame⟩ := X2.leave (v := some (.int (0 : Int32))) (fun h => by rw [Bd.returns] at h; cases h)
    refine ⟨_, _, hG _ (pre6 _ ?_), hrun, hended, _, _, rfl, ?_, ⟨_, rfl⟩, hW, hsame.mono (by decide) (by decide)⟩
    · show own_K p e below m T2 17 #[rv oa] [(.int (0 : Int32))] _
      exact retN X2 hx (t := .boolean) Bd.returns (by simp) (hb hby d23_17) hr
    · show Q23 Z oa qu qn h0 n0 _ T2.heap _
      rw [e2]
      exact ⟨(by simp only [if_neg hc9_4]), N0, rfl⟩

theorem d22_0 : decode prog_141_method_5_code 0 = .ok (.aload_n 0, 1) := by decide +kernel
theorem d22_1 : decode prog_141_method_5_code 1 = .ok (.invokevirtual 112, 3) := by decide +kernel
theorem d22_4 : decode prog_141_method_5_code 4 = .ok (.ifCond .eq 50, 3) := by decide +kernel
theorem d22_7 : decode prog_141_method_5_code 7 = .ok (.aload_n 0, 1) := by decide +kernel
theorem d22_8 : decode prog_141_method_5_code 8 = .ok (.lload_n 1, 1) := by decide +kernel
theorem d22_9 : decode prog_141_method_5_code 9 = .ok (.putfield 45, 3) := by decide +kernel
theorem d22_12 : decode prog_141_method_5_code 12 = .ok (.aload_n 0, 1) := by decide +kernel
theorem d22_13 : decode prog_141_method_5_code 13 = .ok (.lload_n 1, 1) := by decide +kernel
theorem d22_14 : decode prog_141_method_5_code 14 = .ok (.putfield 48, 3) := by decide +kernel
theorem d22_17 : decode prog_141_method_5_code 17 = .ok (.aload_n 0, 1) := by decide +kernel
theorem d22_18 : decode prog_141_method_5_code 18 = .ok (.lload_n 1, 1) := by decide +kernel
theorem d22_19 : decode prog_141_method_5_code 19 = .ok (.putfield 51, 3) := by decide +kernel
theorem d22_22 : decode prog_141_method_5_code 22 = .ok (.aload_n 0, 1) := by decide +kernel
theorem d22_23 : decode prog_141_method_5_code 23 = .ok (.ldc2_w 26, 3) := by decide +kernel
theorem d22_26 : decode prog_141_method_5_code 26 = .ok (.putfield 28, 3) := by decide +kernel
theorem d22_29 : decode prog_141_method_5_code 29 = .ok (.aload_n 0, 1) := by decide +kernel
theorem d22_30 : decode prog_141_method_5_code 30 = .ok (.getfield 72, 3) := by decide +kernel
theorem d22_33 : decode prog_141_method_5_code 33 = .ok (.ifnull 19, 3) := by decide +kernel
theorem d22_52 : decode prog_141_method_5_code 52 = .ok (.iconst 1, 1) := by decide +kernel
theorem d22_53 : decode prog_141_method_5_code 53 = .ok (.ireturn, 1) := by decide +kernel
theorem d22_54 : decode prog_141_method_5_code 54 = .ok (.aload_n 0, 1) := by decide +kernel
theorem d22_55 : decode prog_141_method_5_code 55 = .ok (.aload_n 0, 1) := by decide +kernel
theorem d22_56 : decode prog_141_method_5_code 56 = .ok (.getfield 28, 3) := by decide +kernel
theorem d22_59 : decode prog_141_method_5_code 59 = .ok (.lload_n 1, 1) := by decide +kernel
theorem d22_60 : decode prog_141_method_5_code 60 = .ok (.invokestatic 124, 3) := by decide +kernel
theorem pd_11 : parseMethodDescriptor "(JJ)J" = some ⟨[.long, .long], some .long⟩ := by decide +kernel
theorem d22_63 : decode prog_141_method_5_code 63 = .ok (.putfield 28, 3) := by decide +kernel
theorem d22_66 : decode prog_141_method_5_code 66 = .ok (.iconst 0, 1) := by decide +kernel
theorem d22_67 : decode prog_141_method_5_code 67 = .ok (.ireturn, 1) := by decide +kernel
theorem ef_22 (m : MethodId) (x0 : Addr) (x1 : Int64) : entryFrame m #[(.ref x0), (.long x1)] 3 = mkF m 0 #[rv x0, lv x1, .second] [] := by first | (simp [entryFrame, mkF, argsToLocals, Value.category]; done) | rfl
def Q22 (Z : State) (oa : Addr) (qo : Int64) (qc : Int64) (qu : Int64) (qn : Int64) (qr : Int64) (uf_oa_size : Value) (uf_oa_committedAhead : Value) (uf_oa_finished : Value) (uf_oa_consumed : Value) (uf_oa_consumedAt : Value) (uf_oa_left : Value) (uf_oa_committedFailures : Value) (h0 : Heap) (n0 : Nat) (rv_ : Option Value) (h_ : Heap) (L_ : List Loc) : Prop := rv_ = some (.int (if qu = qn then (1 : Int32) else (0 : Int32))) ∧ Fr n0 L_ ∧ Keep h0 h_ [oa] ∧ Fld Z h_ oa "evenkeel/client/Window" "committed" "J" (.long (if qu = qn then qo else qc)) ∧ Fld Z h_ oa "evenkeel/client/Window" "unfinished" "J" (.long (if qu = qn then qo else qu)) ∧ Fld Z h_ oa "evenkeel/client/Window" "next" "J" (.long (if qu = qn then qo else qn)) ∧ Fld Z h_ oa "evenkeel/client/Window" "restart" "J" (.long (if qu = qn then (-1 : Int64) else (if qr < qo then qo else qr))) ∧ Fld Z h_ oa "evenkeel/client/Window" "failing" "Ljava/util/TreeMap;" .null ∧ Fld Z h_ oa "evenkeel/client/Window" "size" "I" uf_oa_size ∧ Fld Z h_ oa "evenkeel/client/Window" "committedAhead" "Ljava/util/List;" uf_oa_committedAhead ∧ Fld Z h_ oa "evenkeel/client/Window" "finished" "Ljava/util/BitSet;" uf_oa_finished ∧ Fld Z h_ oa "evenkeel/client/Window" "consumed" "Ljava/util/List;" uf_oa_consumed ∧ Fld Z h_ oa "evenkeel/client/Window" "consumedAt" "I" uf_oa_consumedAt ∧ Fld Z h_ oa "evenkeel/client/Window" "left" "Ljava/util/BitSet;" uf_oa_left ∧ Fld Z h_ oa "evenkeel/client/Window" "committedFailures" "Ljava/util/List;" uf_oa_committedFailures
set_option maxRecDepth 65536 in
set_option maxHeartbeats 40000000 in
theorem rm22 (l : Launch) (Z : State) (a0 : Array Value) (hw : ∀ d ∈ tables_1, d.before a0 Z = true) (ws : List Jvm.Cond) (oa : Addr) (qo : Int64) (qc : Int64) (qu : Int64) (qn : Int64) (qr : Int64) (uf_oa_size : Value) (uf_oa_committedAhead : Value) (uf_oa_finished : Value) (uf_oa_consumed : Value) (uf_oa_consumedAt : Value) (uf_oa_left : Value) (uf_oa_committedFailures : Value) (h0 : Heap) (n0 : Nat) (Z0 : n0 ≤ h0.size) (E_ : Exa Z h0 oa "evenkeel/client/Window") (Fc : Fld Z h0 oa "evenkeel/client/Window" "committed" "J" (.long qc)) (Fu : Fld Z h0 oa "evenkeel/client/Window" "unfinished" "J" (.long qu)) (Fn : Fld Z h0 oa "evenkeel/client/Window" "next" "J" (.long qn)) (Fr_ : Fld Z h0 oa "evenkeel/client/Window" "restart" "J" (.long qr)) (Ff : Fld Z h0 oa "evenkeel/client/Window" "failing" "Ljava/util/TreeMap;" .null) (g_ : n0 ≤ oa) (F_oa_size : Fld Z h0 oa "evenkeel/client/Window" "size" "I" uf_oa_size) (F_oa_committedAhead : Fld Z h0 oa "evenkeel/client/Window" "committedAhead" "Ljava/util/List;" uf_oa_committedAhead) (F_oa_finished : Fld Z h0 oa "evenkeel/client/Window" "finished" "Ljava/util/BitSet;" uf_oa_finished) (F_oa_consumed : Fld Z h0 oa "evenkeel/client/Window" "consumed" "Ljava/util/List;" uf_oa_consumed) (F_oa_consumedAt : Fld Z h0 oa "evenkeel/client/Window" "consumedAt" "I" uf_oa_consumedAt) (F_oa_left : Fld Z h0 oa "evenkeel/client/Window" "left" "Ljava/util/BitSet;" uf_oa_left) (F_oa_committedFailures : Fld Z h0 oa "evenkeel/client/Window" "committedFailures" "Ljava/util/List;" uf_oa_committedFailures) :
    MetFree l (⟨"evenkeel/client/Window", "skip", "(J)Z"⟩ : MethodName) (head1 (Jvm.Cond.code (⟨"evenkeel/client/Window", "skip", "(J)Z"⟩ : MethodName) prog_141_method_5_code 3 (some .boolean) :: ws) ({ frames := 1, cells := 0, slots := 0, locals := 16 } : Room)) (fun a U => a = #[(.ref oa), (.long qo)] ∧ Z.Warmed39 U.vm ∧ U.heap = h0) (fun _ _ _ _ _ => True) (fun _ U o U' => ∃ v L, o = .returned v ∧ Q22 Z oa qo qc qu qn qr uf_oa_size uf_oa_committedAhead uf_oa_finished uf_oa_consumed uf_oa_consumedAt uf_oa_left uf_oa_committedFailures h0 n0 v U'.heap L ∧ FrameEnd U o U' L ({ frames := 1, cells := 0, slots := 0, locals := 16 } : Room).cells ({ frames := 1, cells := 0, slots := 0, locals := 16 } : Room).slots) := by
  refine MetFree.of_bodySF (plainFor_of_name pn_8) hisR ?_
  intro p e s m args below meth c s₁ Bd hml0 hP hK
  obtain ⟨rfl, hZ, hh⟩ := hP
  have hx := Bd.exec
  have hby := Bd.bytes
  have hml : c.maxLocals = 3 := hml0
  have hown : s.vm.findClass "evenkeel/client/Window" = some m.cls := findClass_of_methodNamed Bd.named
  have hnm := (name_of_methodNamed Bd.named Bd.method).1
  have X0 : Stand p l e ({ frames := 1, cells := 0, slots := 0, locals := 16 } : Room) s m #[(.ref oa), (.long qo)] below meth c s₁ [] 0 0 := Stand.of_body Bd
  have e0 : s₁.heap = h0 := by rw [← hh, Bd.state]; rfl
  have N0 := Fr.nil n0
  obtain ⟨G, hG, pre0⟩ : ∃ G : State → Prop, (∀ t, G t → Steps p.tables e below (s₁.setTop (entryFrame m #[(.ref oa), (.long qo)] 3)) t) ∧ ∀ t, own_K p e below m s₁ 0 #[rv oa, lv qo, .second] [] t → G t := ⟨fun t => Steps p.tables e below (s₁.setTop (entryFrame m #[(.ref oa), (.long qo)] 3)) t, fun _ k => k, fun t k => castTop (ef_22 m oa qo) k⟩
  obtain ⟨cq1, q1, q1'⟩ := E_.cell
  obtain ⟨_, _, ⟨T1, L1, k1, n1⟩, -, X1, ⟨Lc1, hQ1, l1, y1, z1⟩, st1⟩ := X0.privateBack hx (y := (⟨"evenkeel/client/Window", "allFinished", "()Z"⟩ : MethodName)) hown (mvT hZ (tw hw (i := 191) rfl)) (mvT hZ (tw hw (i := 192) rfl)) (own_selp hZ (tw hw (i := 3) rfl) (tw hw (i := 193) rfl) (tw hw (i := 192) rfl) (by decide)) (Cond.privateMethod_at (mvP hZ (tw hw (i := 193) rfl) (args := #[]))) (mvT hZ (tw hw (i := 194) rfl)) (by decide) (backOf (W := 0) (rm23 l Z a0 hw [] oa qu qn h0 n0 Z0 Fu Fn) hZ (tw hw (i := 194) rfl) (tw hw (i := 4) rfl) (by decide) (by decide)) (g := (mkF m 1 #[rv oa, lv qo, .second] [(.ref oa)])) rfl (by rw [hml]; rfl) (Steps.refl _) (a := oa) (by rw [e0]; exact q1) q1' (argsL := []) (rest := []) (lenOf pd_5 rfl) rfl (by show 2 * 0 + _ ≤ _; exact Nat.le_of_eq rfl) (hb hby d22_1) (fun _ _ => ⟨rfl, e0, (by decide : 0 + 0 ≤ _), (by decide : 0 + 0 ≤ _)⟩)
  dsimp only [Pt.U, Pt.locs, Pt.cells, Pt.slots] at X1 l1 y1 z1 st1 hQ1
  subst l1 y1 z1
  obtain ⟨rfl, Nq1, eh1⟩ := hQ1
  have N1 := Fr.app N0 Nq1
  have pre2 : ∀ t, own_K p e below m T1 4 #[rv oa, lv qo, .second] [(.int (if qu = qn then (1 : Int32) else (0 : Int32)))] t → G t := by
    intro t k
    refine pre0 t ?_
    show own_K p e below m s₁ 0 #[rv oa, lv qo, .second] [] _
    refine XS.aloadN X0.here hx rfl (hb hby d22_0) rfl rfl ?_
    show own_K p e below m s₁ 1 #[rv oa, lv qo, .second] [(.ref oa)] _
    refine st1.trans ?_
    exact k
  by_cases hk4_3 : qu = qn
  · have hq4 : (if qu = qn then (1 : Int32) else (0 : Int32)) = (1 : Int32) := if_pos hk4_3
    have pre4 : ∀ t, own_K p e below m T1 4 #[rv oa, lv qo, .second] [(.int (1 : Int32))] t → G t := fun t k => pre2 t (by rw [hq4]; exact k)
    obtain ⟨T5, h5, X5, e5, W5, st5⟩ := putF X1 hx hZ hown (host := "") (Or.inl (tw hw (i := 140) rfl)) Via.refl eh1 Fc E_ (Or.inl (tw hw (i := 141) rfl)) (tw hw (i := 3) rfl) (ty := .long) (by decide) rfl rfl (g := (mkF m 9 #[rv oa, lv qo, .second] [(.long qo), (.ref oa)])) rfl rfl (hb hby d22_9)
    have f5w := Fc.same W5
    have K5 : Keep h0 h5 [oa] := (Keep.refl h0 [oa]).wr W5 (Or.inl (List.mem_of_getElem? (i := 0) rfl))
    have N5 := Fr.snoc X5 N1 g_
    have sz5 : n0 ≤ h5.size := Nat.le_trans Z0 (Keep.of_wr W5).1
    have f7 : Fld Z h5 oa "evenkeel/client/Window" "unfinished" "J" (.long qu) := (Fu.other W5 (Or.inr (slot_ne (Or.inl (tw hw (i := 143) rfl)) (Or.inl (tw hw (i := 141) rfl)) (by decide) (t := .long) (t' := .long) (by decide) (by decide))))
    have f8 : Exa Z h5 oa "evenkeel/client/Window" := (E_.wr W5)
    obtain ⟨T6, h6, X6, e6, W6, st6⟩ := putF X5 hx hZ hown (host := "") (Or.inl (tw hw (i := 142) rfl)) Via.refl e5 f7 f8 (Or.inl (tw hw (i := 143) rfl)) (tw hw (i := 3) rfl) (ty := .long) (by decide) rfl rfl (g := (mkF m 14 #[rv oa, lv qo, .second] [(.long qo), (.ref oa)])) rfl rfl (hb hby d22_14)
    have f6w := f7.same W6
    have K6 : Keep h0 h6 [oa] := K5.wr W6 (Or.inl (List.mem_of_getElem? (i := 0) rfl))
    have N6 := Fr.snoc X6 N5 g_
    have sz6 : n0 ≤ h6.size := Nat.le_trans sz5 (Keep.of_wr W6).1
    have f10 : Fld Z h6 oa "evenkeel/client/Window" "next" "J" (.long qn) := ((Fn.other W5 (Or.inr (slot_ne (Or.inl (tw hw (i := 145) rfl)) (Or.inl (tw hw (i := 141) rfl)) (by decide) (t := .long) (t' := .long) (by decide) (by decide)))).other W6 (Or.inr (slot_ne (Or.inl (tw hw (i := 145) rfl)) (Or.inl (tw hw (i := 143) rfl)) (by decide) (t := .long) (t' := .long) (by decide) (by decide))))
    have f11 : Exa Z h6 oa "evenkeel/client/Window" := (f8.wr W6)
    obtain ⟨T9, h9, X9, e9, W9, st9⟩ := putF X6 hx hZ hown (host := "") (Or.inl (tw hw (i := 144) rfl)) Via.refl e6 f10 f11 (Or.inl (tw hw (i := 145) rfl)) (tw hw (i := 3) rfl) (ty := .long) (by decide) rfl rfl (g := (mkF m 19 #[rv oa, lv qo, .second] [(.long qo), (.ref oa)])) rfl rfl (hb hby d22_19)
    have f9w := f10.same W9
    have K9 : Keep h0 h9 [oa] := K6.wr W9 (Or.inl (List.mem_of_getElem? (i := 0) rfl))
    have N9 := Fr.snoc X9 N6 g_
    have sz9 : n0 ≤ h9.size := Nat.le_trans sz6 (Keep.of_wr W9).1
    have f13 : Fld Z h9 oa "evenkeel/client/Window" "restart" "J" (.long qr) := (((Fr_.other W5 (Or.inr (slot_ne (Or.inl (tw hw (i := 130) rfl)) (Or.inl (tw hw (i := 141) rfl)) (by decide) (t := .long) (t' := .long) (by decide) (by decide)))).other W6 (Or.inr (slot_ne (Or.inl (tw hw (i := 130) rfl)) (Or.inl (tw hw (i := 143) rfl)) (by decide) (t := .long) (t' := .long) (by decide) (by decide)))).other W9 (Or.inr (slot_ne (Or.inl (tw hw (i := 130) rfl)) (Or.inl (tw hw (i := 145) rfl)) (by decide) (t := .long) (t' := .long) (by decide) (by decide))))
    have f14 : Exa Z h9 oa "evenkeel/client/Window" := (f11.wr W9)
    obtain ⟨T12, h12, X12, e12, W12, st12⟩ := putF X9 hx hZ hown (host := "") (Or.inl (tw hw (i := 129) rfl)) Via.refl e9 f13 f14 (Or.inl (tw hw (i := 130) rfl)) (tw hw (i := 3) rfl) (ty := .long) (by decide) rfl rfl (g := (mkF m 26 #[rv oa, lv qo, .second] [(.long (-1 : Int64)), (.ref oa)])) rfl rfl (hb hby d22_26)
    have f12w := f13.same W12
    have K12 : Keep h0 h12 [oa] := K9.wr W12 (Or.inl (List.mem_of_getElem? (i := 0) rfl))
    have N12 := Fr.snoc X12 N9 g_
    have sz12 : n0 ≤ h12.size := Nat.le_trans sz9 (Keep.of_wr W12).1
    have f16 : Fld Z h12 oa "evenkeel/client/Window" "failing" "Ljava/util/TreeMap;" .null := ((((Ff.other W5 (Or.inr (slot_ne (Or.inl (tw hw (i := 196) rfl)) (Or.inl (tw hw (i := 141) rfl)) (by decide) (t := (.object "java/util/TreeMap")) (t' := .long) (by decide) (by decide)))).other W6 (Or.inr (slot_ne (Or.inl (tw hw (i := 196) rfl)) (Or.inl (tw hw (i := 143) rfl)) (by decide) (t := (.object "java/util/TreeMap")) (t' := .long) (by decide) (by decide)))).other W9 (Or.inr (slot_ne (Or.inl (tw hw (i := 196) rfl)) (Or.inl (tw hw (i := 145) rfl)) (by decide) (t := (.object "java/util/TreeMap")) (t' := .long) (by decide) (by decide)))).other W12 (Or.inr (slot_ne (Or.inl (tw hw (i := 196) rfl)) (Or.inl (tw hw (i := 130) rfl)) (by decide) (t := (.object "java/util/TreeMap")) (t' := .long) (by decide) (by decide))))
    obtain ⟨T15, X15, e15, st15⟩ := getF X12 hx hZ hown (host := "") (Or.inl (tw hw (i := 195) rfl)) Via.refl e12 f16 (g := (mkF m 30 #[rv oa, lv qo, .second] [(.ref oa)])) rfl rfl (hb hby d22_30)
    have pre17 : ∀ t, own_K p e below m T15 53 #[rv oa, lv qo, .second] [(.int (1 : Int32))] t → G t := by
      intro t k
      refine pre4 t ?_
      show own_K p e below m T1 4 #[rv oa, lv qo, .second] [(.int (1 : Int32))] _
      refine XS.ifNo X1.here hx rfl (hb hby d22_4) rfl ((if0 _ _).trans (feq (by decide : ¬ ((1 : Int32) = (0 : Int32)))).1) ?_
      show own_K p e below m T1 7 #[rv oa, lv qo, .second] [] _
      refine XS.aloadN X1.here hx rfl (hb hby d22_7) rfl rfl ?_
      show own_K p e below m T1 8 #[rv oa, lv qo, .second] [(.ref oa)] _
      refine XS.lloadN X1.here hx rfl (hb hby d22_8) rfl ?_
      show own_K p e below m T1 9 #[rv oa, lv qo, .second] [(.long qo), (.ref oa)] _
      refine st5 _ ?_
      show own_K p e below m T5 12 #[rv oa, lv qo, .second] [] _
      refine XS.aloadN X5.here hx rfl (hb hby d22_12) rfl rfl ?_
      show own_K p e below m T5 13 #[rv oa, lv qo, .second] [(.ref oa)] _
      refine XS.lloadN X5.here hx rfl (hb hby d22_13) rfl ?_
      show own_K p e below m T5 14 #[rv oa, lv qo, .second] [(.long qo), (.ref oa)] _
      refine st6 _ ?_
      show own_K p e below m T6 17 #[rv oa, lv qo, .second] [] _
      refine XS.aloadN X6.here hx rfl (hb hby d22_17) rfl rfl ?_
      show own_K p e below m T6 18 #[rv oa, lv qo, .second] [(.ref oa)] _
      refine XS.lloadN X6.here hx rfl (hb hby d22_18) rfl ?_
      show own_K p e below m T6 19 #[rv oa, lv qo, .second] [(.long qo), (.ref oa)] _
      refine st9 _ ?_
      show own_K p e below m T9 22 #[rv oa, lv qo, .second] [] _
      refine XS.aloadN X9.here hx rfl (hb hby d22_22) rfl rfl ?_
      show own_K p e below m T9 23 #[rv oa, lv qo, .second] [(.ref oa)] _
      refine X9.ldc2Long hx hown (mvT hZ (tw hw (i := 128) rfl)) (g := (mkF m 23 #[rv oa, lv qo, .second] [(.ref oa)])) rfl (hb hby d22_23) _ ?_
      show own_K p e below m T9 26 #[rv oa, lv qo, .second] [(.long (-1 : Int64)), (.ref oa)] _
      refine st12 _ ?_
      show own_K p e below m T12 29 #[rv oa, lv qo, .second] [] _
      refine XS.aloadN X12.here hx rfl (hb hby d22_29) rfl rfl ?_
      show own_K p e below m T12 30 #[rv oa, lv qo, .second] [(.ref oa)] _
      refine st15 _ ?_
      show own_K p e below m T15 33 #[rv oa, lv qo, .second] [.null] _
      refine XS.ifnullYes X15.here hx rfl (pc0 := 33) (pc' := 52) rfl (hb hby d22_33) rfl (by decide) (by decide) ?_
      show own_K p e below m T15 52 #[rv oa, lv qo, .second] [] _
      refine XS.iconst X15.here hx rfl (hb hby d22_52) ?_
      exact k
    have f18 : Fld Z h12 oa "evenkeel/client/Window" "committed" "J" (.long qo) := (((f5w.other W6 (Or.inr (slot_ne (Or.inl (tw hw (i := 141) rfl)) (Or.inl (tw hw (i := 143) rfl)) (by decide) (t := .long) (t' := .long) (by decide) (by decide)))).other W9 (Or.inr (slot_ne (Or.inl (tw hw (i := 141) rfl)) (Or.inl (tw hw (i := 145) rfl)) (by decide) (t := .long) (t' := .long) (by decide) (by decide)))).other W12 (Or.inr (slot_ne (Or.inl (tw hw (i := 141) rfl)) (Or.inl (tw hw (i := 130) rfl)) (by decide) (t := .long) (t' := .long) (by decide) (by decide))))
    have f19 : Fld Z h12 oa "evenkeel/client/Window" "unfinished" "J" (.long qo) := ((f6w.other W9 (Or.inr (slot_ne (Or.inl (tw hw (i := 143) rfl)) (Or.inl (tw hw (i := 145) rfl)) (by decide) (t := .long) (t' := .long) (by decide) (by decide)))).other W12 (Or.inr (slot_ne (Or.inl (tw hw (i := 143) rfl)) (Or.inl (tw hw (i := 130) rfl)) (by decide) (t := .long) (t' := .long) (by decide) (by decide))))
    have f20 : Fld Z h12 oa "evenkeel/client/Window" "next" "J" (.long qo) := (f9w.other W12 (Or.inr (slot_ne (Or.inl (tw hw (i := 145) rfl)) (Or.inl (tw hw (i := 130) rfl)) (by decide) (t := .long) (t' := .long) (by decide) (by decide))))
    have f21 : Fld Z h12 oa "evenkeel/client/Window" "size" "I" uf_oa_size := ((((F_oa_size.other W5 (Or.inr (slot_ne (Or.inr (tw hw (i := 134) rfl)) (Or.inl (tw hw (i := 141) rfl)) (by decide) (t := .int) (t' := .long) (by decide) (by decide)))).other W6 (Or.inr (slot_ne (Or.inr (tw hw (i := 134) rfl)) (Or.inl (tw hw (i := 143) rfl)) (by decide) (t := .int) (t' := .long) (by decide) (by decide)))).other W9 (Or.inr (slot_ne (Or.inr (tw hw (i := 134) rfl)) (Or.inl (tw hw (i := 145) rfl)) (by decide) (t := .int) (t' := .long) (by decide) (by decide)))).other W12 (Or.inr (slot_ne (Or.inr (tw hw (i := 134) rfl)) (Or.inl (tw hw (i := 130) rfl)) (by decide) (t := .int) (t' := .long) (by decide) (by decide))))
    have f22 : Fld Z h12 oa "evenkeel/client/Window" "committedAhead" "Ljava/util/List;" uf_oa_committedAhead := ((((F_oa_committedAhead.other W5 (Or.inr (slot_ne (Or.inl (tw hw (i := 103) rfl)) (Or.inl (tw hw (i := 141) rfl)) (by decide) (t := (.object "java/util/List")) (t' := .long) (by decide) (by decide)))).other W6 (Or.inr (slot_ne (Or.inl (tw hw (i := 103) rfl)) (Or.inl (tw hw (i := 143) rfl)) (by decide) (t := (.object "java/util/List")) (t' := .long) (by decide) (by decide)))).other W9 (Or.inr (slot_ne (Or.inl (tw hw (i := 103) rfl)) (Or.inl (tw hw (i := 145) rfl)) (by decide) (t := (.object "java/util/List")) (t' := .long) (by decide) (by decide)))).other W12 (Or.inr (slot_ne (Or.inl (tw hw (i := 103) rfl)) (Or.inl (tw hw (i := 130) rfl)) (by decide) (t := (.object "java/util/List")) (t' := .long) (by decide) (by decide))))
    have f23 : Fld Z h12 oa "evenkeel/client/Window" "finished" "Ljava/util/BitSet;" uf_oa_finished := ((((F_oa_finished.other W5 (Or.inr (slot_ne (Or.inr (tw hw (i := 127) rfl)) (Or.inl (tw hw (i := 141) rfl)) (by decide) (t := (.object "java/util/BitSet")) (t' := .long) (by decide) (by decide)))).other W6 (Or.inr (slot_ne (Or.inr (tw hw (i := 127) rfl)) (Or.inl (tw hw (i := 143) rfl)) (by decide) (t := (.object "java/util/BitSet")) (t' := .long) (by decide) (by decide)))).other W9 (Or.inr (slot_ne (Or.inr (tw hw (i := 127) rfl)) (Or.inl (tw hw (i := 145) rfl)) (by decide) (t := (.object "java/util/BitSet")) (t' := .long) (by decide) (by decide)))).other W12 (Or.inr (slot_ne (Or.inr (tw hw (i := 127) rfl)) (Or.inl (tw hw (i := 130) rfl)) (by decide) (t := (.object "java/util/BitSet")) (t' := .long) (by decide) (by decide))))
    have f24 : Fld Z h12 oa "evenkeel/client/Window" "consumed" "Ljava/util/List;" uf_oa_consumed := ((((F_oa_consumed.other W5 (Or.inr (slot_ne (Or.inr (tw hw (i := 152) rfl)) (Or.inl (tw hw (i := 141) rfl)) (by decide) (t := (.object "java/util/List")) (t' := .long) (by decide) (by decide)))).other W6 (Or.inr (slot_ne (Or.inr (tw hw (i := 152) rfl)) (Or.inl (tw hw (i := 143) rfl)) (by decide) (t := (.object "java/util/List")) (t' := .long) (by decide) (by decide)))).other W9 (Or.inr (slot_ne (Or.inr (tw hw (i := 152) rfl)) (Or.inl (tw hw (i := 145) rfl)) (by decide) (t := (.object "java/util/List")) (t' := .long) (by decide) (by decide)))).other W12 (Or.inr (slot_ne (Or.inr (tw hw (i := 152) rfl)) (Or.inl (tw hw (i := 130) rfl)) (by decide) (t := (.object "java/util/List")) (t' := .long) (by decide) (by decide))))
    have f25 : Fld Z h12 oa "evenkeel/client/Window" "consumedAt" "I" uf_oa_consumedAt := ((((F_oa_consumedAt.other W5 (Or.inr (slot_ne (Or.inl (tw hw (i := 174) rfl)) (Or.inl (tw hw (i := 141) rfl)) (by decide) (t := .int) (t' := .long) (by decide) (by decide)))).other W6 (Or.inr (slot_ne (Or.inl (tw hw (i := 174) rfl)) (Or.inl (tw hw (i := 143) rfl)) (by decide) (t := .int) (t' := .long) (by decide) (by decide)))).other W9 (Or.inr (slot_ne (Or.inl (tw hw (i := 174) rfl)) (Or.inl (tw hw (i := 145) rfl)) (by decide) (t := .int) (t' := .long) (by decide) (by decide)))).other W12 (Or.inr (slot_ne (Or.inl (tw hw (i := 174) rfl)) (Or.inl (tw hw (i := 130) rfl)) (by decide) (t := .int) (t' := .long) (by decide) (by decide))))
    have f26 : Fld Z h12 oa "evenkeel/client/Window" "left" "Ljava/util/BitSet;" uf_oa_left := ((((F_oa_left.other W5 (Or.inr (slot_ne (Or.inr (tw hw (i := 132) rfl)) (Or.inl (tw hw (i := 141) rfl)) (by decide) (t := (.object "java/util/BitSet")) (t' := .long) (by decide) (by decide)))).other W6 (Or.inr (slot_ne (Or.inr (tw hw (i := 132) rfl)) (Or.inl (tw hw (i := 143) rfl)) (by decide) (t := (.object "java/util/BitSet")) (t' := .long) (by decide) (by decide)))).other W9 (Or.inr (slot_ne (Or.inr (tw hw (i := 132) rfl)) (Or.inl (tw hw (i := 145) rfl)) (by decide) (t := (.object "java/util/BitSet")) (t' := .long) (by decide) (by decide)))).other W12 (Or.inr (slot_ne (Or.inr (tw hw (i := 132) rfl)) (Or.inl (tw hw (i := 130) rfl)) (by decide) (t := (.object "java/util/BitSet")) (t' := .long) (by decide) (by decide))))
    have f27 : Fld Z h12 oa "evenkeel/client/Window" "committedFailures" "Ljava/util/List;" uf_oa_committedFailures := ((((F_oa_committedFailures.other W5 (Or.inr (slot_ne (Or.inl (tw hw (i := 159) rfl)) (Or.inl (tw hw (i := 141) rfl)) (by decide) (t := (.object "java/util/List")) (t' := .long) (by decide) (by decide)))).other W6 (Or.inr (slot_ne (Or.inl (tw hw (i := 159) rfl)) (Or.inl (tw hw (i := 143) rfl)) (by decide) (t := (.object "java/util/List")) (t' := .long) (by decide) (by decide)))).other W9 (Or.inr (slot_ne (Or.inl (tw hw (i := 159) rfl)) (Or.inl (tw hw (i := 145) rfl)) (by decide) (t := (.object "java/util/List")) (t' := .long) (by decide) (by decide)))).other W12 (Or.inr (slot_ne (Or.inl (tw hw (i := 159) rfl)) (Or.inl (tw hw (i := 130) rfl)) (by decide) (t := (.object "java/util/List")) (t' := .long) (by decide) (by decide))))
    obtain ⟨fs, hr, hrun, hended, hW, hsame⟩ := X15.leave (v := some (.int (1 : Int32))) (fun h => by rw [Bd.returns] at h; cases h)
    refine ⟨_, _, hG _ (pre17 _ ?_), hrun, hended, _, _, rfl, ?_, ⟨_, rfl⟩, hW, hsame.mono (by decide) (by decide)⟩
    · show own_K p e below m T15 53 #[rv oa, lv qo, .second] [(.int (1 : Int32))] _
      exact retN X15 hx (t := .boolean) Bd.returns (by simp) (hb hby d22_53) hr
    · show Q22 Z oa qo qc qu qn qr uf_oa_size uf_oa_committedAhead uf_oa_finished uf_oa_consumed uf_oa_consumedAt uf_oa_left uf_oa_committedFailures h0 n0 _ T15.heap _
      rw [e15]
      exact ⟨(by simp only [if_pos hk4_3]), N12, K12, (by simp only [if_pos hk4_3]; exact f18), (by simp only [if_pos hk4_3]; exact f19), (by simp only [if_pos hk4_3]; exact f20), (by simp only [if_pos hk4_3]; exact f12w), f16, f21, f22, f23, f24, f25, f26, f27⟩
  · have hq28 : (if qu = qn then (1 : Int32) else (0 : Int32)) = (0 : Int32) := if_neg hk4_3
    have pre28 : ∀ t, own_K p e below m T1 4 #[rv oa, lv qo, .second] [(.int (0 : Int32))] t → G t := fun t k => pre2 t (by rw [hq28]; exact k)
    obtain ⟨T29, X29, e29, st29⟩ := getF X1 hx hZ hown (host := "") (Or.inl (tw hw (i := 129) rfl)) Via.refl eh1 Fr_ (g := (mkF m 56 #[rv oa, lv qo, .second] [(.ref oa), (.ref oa)])) rfl rfl (hb hby d22_56)
    obtain ⟨_, _, ⟨T30, L30, k30, n30⟩, -, X30, ⟨Lc30, hQ30, l30, y30, z30⟩, st30⟩ := Jvm.LawKit.callS X29 hx (y := (⟨"java/lang/Math", "max", "(JJ)J"⟩ : MethodName)) hown (mvT hZ (tw hw (i := 208) rfl)) (mvT hZ (tw hw (i := 209) rfl)) (mvT hZ (tw hw (i := 210) rfl)) (mvT hZ (tw hw (i := 211) rfl)) (by decide) (backOf (W := 1) (rm26 l Z a0 hw [] qr qo h0 n0 Z0 ) hZ (tw hw (i := 211) rfl) (tw hw (i := 210) rfl) (by decide) (by decide)) (g := (mkF m 60 #[rv oa, lv qo, .second] [(.long qo), (.long qr), (.ref oa)])) rfl (by rw [hml]; rfl) (argsL := [(.long qr), (.long qo)]) (rest := [(.ref oa)]) (lenOf pd_11 rfl) rfl (by show 2 * 0 + _ ≤ _; exact Nat.le_of_eq rfl) (hb hby d22_60) (fun _ _ => ⟨rfl, e29, (by decide : 0 + 0 ≤ _), (by decide : 0 + 0 ≤ _)⟩)
    dsimp only [Pt.U, Pt.locs, Pt.cells, Pt.slots] at X30 l30 y30 z30 st30 hQ30
    subst l30 y30 z30
    obtain ⟨rfl, Nq30, eh30⟩ := hQ30
    have N30 := Fr.app N1 Nq30
    obtain ⟨T31, h31, X31, e31, W31, st31⟩ := putF X30 hx hZ hown (host := "") (Or.inl (tw hw (i := 129) rfl)) Via.refl eh30 Fr_ E_ (Or.inl (tw hw (i := 130) rfl)) (tw hw (i := 3) rfl) (ty := .long) (by decide) rfl rfl (g := (mkF m 63 #[rv oa, lv qo, .second] [(.long (if qr < qo then qo else qr)), (.ref oa)])) rfl rfl (hb hby d22_63)
    have f31w := Fr_.same W31
    have K31 : Keep h0 h31 [oa] := (Keep.refl h0 [oa]).wr W31 (Or.inl (List.mem_of_getElem? (i := 0) rfl))
    have N31 := Fr.snoc X31 N30 g_
    have sz31 : n0 ≤ h31.size := Nat.le_trans Z0 (Keep.of_wr W31).1
    have pre32 : ∀ t, own_K p e below m T31 67 #[rv oa, lv qo, .second] [(.int (0 : Int32))] t → G t := by
      intro t k
      refine pre28 t ?_
      show own_K p e below m T1 4 #[rv oa, lv qo, .second] [(.int (0 : Int32))] _
      refine XS.ifYes X1.here hx rfl (pc0 := 4) (pc' := 54) rfl (hb hby d22_4) rfl ((if0 _ _).trans (teq (by decide : (0 : Int32) = (0 : Int32))).1) (by decide) (by decide) ?_
      show own_K p e below m T1 54 #[rv oa, lv qo, .second] [] _
      refine XS.aloadN X1.here hx rfl (hb hby d22_54) rfl rfl ?_
      show own_K p e below m T1 55 #[rv oa, lv qo, .second] [(.ref oa)] _
      refine XS.aloadN X1.here hx rfl (hb hby d22_55) rfl rfl ?_
      show own_K p e below m T1 56 #[rv oa, lv qo, .second] [(.ref oa), (.ref oa)] _
      refine st29 _ ?_
      show own_K p e below m T29 59 #[rv oa, lv qo, .second] [(.long qr), (.ref oa)] _
      refine XS.lloadN X29.here hx rfl (hb hby d22_59) rfl ?_
      show own_K p e below m T29 60 #[rv oa, lv qo, .second] [(.long qo), (.long qr), (.ref oa)] _
      refine st30 _ ?_
      show own_K p e below m T30 63 #[rv oa, lv qo, .second] [(.long (if qr < qo then qo else qr)), (.ref oa)] _
      refine st31 _ ?_
      show own_K p e below m T31 66 #[rv oa, lv qo, .second] [] _
      refine XS.iconst X31.here hx rfl (hb hby d22_66) ?_
      exact k
    have f33 : Fld Z h31 oa "evenkeel/client/Window" "committed" "J" (.long qc) := (Fc.other W31 (Or.inr (slot_ne (Or.inl (tw hw (i := 141) rfl)) (Or.inl (tw hw (i := 130) rfl)) (by decide) (t := .long) (t' := .long) (by decide) (by decide))))
    have f34 : Fld Z h31 oa "evenkeel/client/Window" "unfinished" "J" (.long qu) := (Fu.other W31 (Or.inr (slot_ne (Or.inl (tw hw (i := 143) rfl)) (Or.inl (tw hw (i := 130) rfl)) (by decide) (t := .long) (t' := .long) (by decide) (by decide))))
    have f35 : Fld Z h31 oa "evenkeel/client/Window" "next" "J" (.long qn) := (Fn.other W31 (Or.inr (slot_ne (Or.inl (tw hw (i := 145) rfl)) (Or.inl (tw hw (i := 130) rfl)) (by decide) (t := .long) (t' := .long) (by decide) (by decide))))
    have f36 : Fld Z h31 oa "evenkeel/client/Window" "failing" "Ljava/util/TreeMap;" .null := (Ff.other W31 (Or.inr (slot_ne (Or.inl (tw hw (i := 196) rfl)) (Or.inl (tw hw (i := 130) rfl)) (by decide) (t := (.object "java/util/TreeMap")) (t' := .long) (by decide) (by decide))))
    have f37 : Fld Z h31 oa "evenkeel/client/Window" "size" "I" uf_oa_size := (F_oa_size.other W31 (Or.inr (slot_ne (Or.inr (tw hw (i := 134) rfl)) (Or.inl (tw hw (i := 130) rfl)) (by decide) (t := .int) (t' := .long) (by decide) (by decide))))
    have f38 : Fld Z h31 oa "evenkeel/client/Window" "committedAhead" "Ljava/util/List;" uf_oa_committedAhead := (F_oa_committedAhead.other W31 (Or.inr (slot_ne (Or.inl (tw hw (i := 103) rfl)) (Or.inl (tw hw (i := 130) rfl)) (by decide) (t := (.object "java/util/List")) (t' := .long) (by decide) (by decide))))
    have f39 : Fld Z h31 oa "evenkeel/client/Window" "finished" "Ljava/util/BitSet;" uf_oa_finished := (F_oa_finished.other W31 (Or.inr (slot_ne (Or.inr (tw hw (i := 127) rfl)) (Or.inl (tw hw (i := 130) rfl)) (by decide) (t := (.object "java/util/BitSet")) (t' := .long) (by decide) (by decide))))
    have f40 : Fld Z h31 oa "evenkeel/client/Window" "consumed" "Ljava/util/List;" uf_oa_consumed := (F_oa_consumed.other W31 (Or.inr (slot_ne (Or.inr (tw hw (i := 152) rfl)) (Or.inl (tw hw (i := 130) rfl)) (by decide) (t := (.object "java/util/List")) (t' := .long) (by decide) (by decide))))
    have f41 : Fld Z h31 oa "evenkeel/client/Window" "consumedAt" "I" uf_oa_consumedAt := (F_oa_consumedAt.other W31 (Or.inr (slot_ne (Or.inl (tw hw (i := 174) rfl)) (Or.inl (tw hw (i := 130) rfl)) (by decide) (t := .int) (t' := .long) (by decide) (by decide))))
    have f42 : Fld Z h31 oa "evenkeel/client/Window" "left" "Ljava/util/BitSet;" uf_oa_left := (F_oa_left.other W31 (Or.inr (slot_ne (Or.inr (tw hw (i := 132) rfl)) (Or.inl (tw hw (i := 130) rfl)) (by decide) (t := (.object "java/util/BitSet")) (t' := .long) (by decide) (by decide))))
    have f43 : Fld Z h31 oa "evenkeel/client/Window" "committedFailures" "Ljava/util/List;" uf_oa_committedFailures := (F_oa_committedFailures.other W31 (Or.inr (slot_ne (Or.inl (tw hw (i := 159) rfl)) (Or.inl (tw hw (i := 130) rfl)) (by decide) (t := (.object "java/util/List")) (t' := .long) (by decide) (by decide))))
    obtain ⟨fs, hr, hrun, hended, hW, hsame⟩ := X31.leave (v := some (.int (0 : Int32))) (fun h => by rw [Bd.returns] at h; cases h)
    refine ⟨_, _, hG _ (pre32 _ ?_), hrun, hended, _, _, rfl, ?_, ⟨_, rfl⟩, hW, hsame.mono (by decide) (by decide)⟩
    · show own_K p e below m T31 67 #[rv oa, lv qo, .second] [(.int (0 : Int32))] _
      exact retN X31 hx (t := .boolean) Bd.returns (by simp) (hb hby d22_67) hr
    · show Q22 Z oa qo qc qu qn qr uf_oa_size uf_oa_committedAhead uf_oa_finished uf_oa_consumed uf_oa_consumedAt uf_oa_left uf_oa_committedFailures h0 n0 _ T31.heap _
      rw [e31]
      exact ⟨(by simp only [if_neg hk4_3]), N31, K31, (by simp only [if_neg hk4_3]; exact f33), (by simp only [if_neg hk4_3]; exact f34), (by simp only [if_neg hk4_3]; exact f35), (by simp only [if_neg hk4_3]; exact f31w), f36, f37, f38, f39, f40, f41, f42, f43⟩

theorem d27_0 : decode prog_141_method_23_code 0 = .ok (.lload_n 1, 1) := by decide +kernel
theorem d27_1 : decode prog_141_method_23_code 1 = .ok (.aload_n 0, 1) := by decide +kernel
theorem d27_2 : decode prog_141_method_23_code 2 = .ok (.getfield 35, 3) := by decide +kernel
theorem d27_5 : decode prog_141_method_23_code 5 = .ok (.i2l, 1) := by decide +kernel
theorem d27_6 : decode prog_141_method_23_code 6 = .ok (.lrem, 1) := by decide +kernel
theorem d27_7 : decode prog_141_method_23_code 7 = .ok (.l2i, 1) := by decide +kernel
theorem d27_8 : decode prog_141_method_23_code 8 = .ok (.ireturn, 1) := by decide +kernel
theorem ef_27 (m : MethodId) (x0 : Addr) (x1 : Int64) : entryFrame m #[(.ref x0), (.long x1)] 3 = mkF m 0 #[rv x0, lv x1, .second] [] := by first | (simp [entryFrame, mkF, argsToLocals, Value.category]; done) | rfl
def Q27 (Z : State) (oa : Addr) (qo : Int64) (xs : Int32) (h0 : Heap) (n0 : Nat) (rv_ : Option Value) (h_ : Heap) (L_ : List Loc) : Prop := rv_ = some (.int ((qo - (qo / (xs.toInt64)) * (xs.toInt64)).toInt32)) ∧ Fr n0 L_ ∧ h_ = h0
set_option maxRecDepth 65536 in
set_option maxHeartbeats 40000000 in
theorem rm27 (l : Launch) (Z : State) (a0 : Array Value) (hw : ∀ d ∈ tables_1, d.before a0 Z = true) (ws : List Jvm.Cond) (oa : Addr) (qo : Int64) (xs : Int32) (h0 : Heap) (n0 : Nat) (Z0 : n0 ≤ h0.size) (Fs : Fld Z h0 oa "evenkeel/client/Window" "size" "I" (.int xs)) (hz : (xs.toInt64) ≠ 0) :
    MetFree l (⟨"evenkeel/client/Window", "bit", "(J)I"⟩ : MethodName) (head1 (Jvm.Cond.code (⟨"evenkeel/client/Window", "bit", "(J)I"⟩ : MethodName) prog_141_method_23_code 3 (some .int) :: ws) ({ frames := 0, cells := 0, slots := 0, locals := 0 } : Room)) (fun a U => a = #[(.ref oa), (.long qo)] ∧ Z.Warmed39 U.vm ∧ U.heap = h0) (fun _ _ _ _ _ => True) (fun _ U o U' => ∃ v L, o = .returned v ∧ Q27 Z oa qo xs h0 n0 v U'.heap L ∧ FrameEnd U o U' L ({ frames := 0, cells := 0, slots := 0, locals := 0 } : Room).cells ({ frames := 0, cells := 0, slots := 0, locals := 0 } : Room).slots) := by
  refine MetFree.of_bodySF (plainFor_of_name pn_8) hisR ?_
  intro p e s m args below meth c s₁ Bd hml0 hP hK
  obtain ⟨rfl, hZ, hh⟩ := hP
  have hx := Bd.exec
  have hby := Bd.bytes
  have hml : c.maxLocals = 3 := hml0
  have hown : s.vm.findClass "evenkeel/client/Window" = some m.cls := findClass_of_methodNamed Bd.named
  have hnm := (name_of_methodNamed Bd.named Bd.method).1
  have X0 : Stand p l e ({ frames := 0, cells := 0, slots := 0, locals := 0 } : Room) s m #[(.ref oa), (.long qo)] below meth c s₁ [] 0 0 := Stand.of_body Bd
  have e0 : s₁.heap = h0 := by rw [← hh, Bd.state]; rfl
  have N0 := Fr.nil n0
  obtain ⟨G, hG, pre0⟩ : ∃ G : State → Prop, (∀ t, G t → Steps p.tables e below (s₁.setTop (entryFrame m #[(.ref oa), (.long qo)] 3)) t) ∧ ∀ t, own_K p e below m s₁ 0 #[rv oa, lv qo, .second] [] t → G t := ⟨fun t => Steps p.tables e below (s₁.setTop (entryFrame m #[(.ref oa), (.long qo)] 3)) t, fun _ k => k, fun t k => castTop (ef_27 m oa qo) k⟩
  obtain ⟨T1, X1, e1, st1⟩ := getF X0 hx hZ hown (host := "") (Or.inl (tw hw (i := 133) rfl)) Via.refl e0 Fs (g := (mkF m 2 #[rv oa, lv qo, .second] [(.ref oa), (.long qo)])) rfl rfl (hb hby d27_2)
  have pre2 : ∀ t, own_K p e below m T1 8 #[rv oa, lv qo, .second] [(.int ((qo - (qo / (xs.toInt64)) * (xs.toInt64)).toInt32))] t → G t := by
    intro t k
    refine pre0 t ?_
    show own_K p e below m s₁ 0 #[rv oa, lv qo, .second] [] _
    refine XS.lloadN X0.here hx rfl (hb hby d27_0) rfl ?_
    show own_K p e below m s₁ 1 #[rv oa, lv qo, .second] [(.long qo)] _
    refine XS.aloadN X0.here hx rfl (hb hby d27_1) rfl rfl ?_
    show own_K p e below m s₁ 2 #[rv oa, lv qo, .second] [(.ref oa), (.long qo)] _
    refine st1 _ ?_
    show own_K p e below m T1 5 #[rv oa, lv qo, .second] [(.int xs), (.long qo)] _
    refine XS.i2l X1.here hx rfl (hb hby d27_5) rfl ?_
    show own_K p e below m T1 6 #[rv oa, lv qo, .second] [(.long (xs.toInt64)), (.long qo)] _
    refine XS.lrem X1.here hx rfl (hb hby d27_6) rfl hz ?_
    show own_K p e below m T1 7 #[rv oa, lv qo, .second] [(.long (qo - (qo / (xs.toInt64)) * (xs.toInt64)))] _
    refine XS.l2i X1.here hx rfl (hb hby d27_7) rfl ?_
    exact k
  obtain ⟨fs, hr, hrun, hended, hW, hsame⟩ := X1.leave (v := some (.int ((qo - (qo / (xs.toInt64)) * (xs.toInt64)).toInt32))) (fun h => by rw [Bd.returns] at h; cases h)
  refine ⟨_, _, hG _ (pre2 _ ?_), hrun, hended, _, _, rfl, ?_, ⟨_, rfl⟩, hW, hsame.mono (by decide) (by decide)⟩
  · show own_K p e below m T1 8 #[rv oa, lv qo, .second] [(.int ((qo - (qo / (xs.toInt64)) * (xs.toInt64)).toInt32))] _
    exact retI X1 hx Bd.returns (hb hby d27_8) hr
  · show Q27 Z oa qo xs h0 n0 _ T1.heap _
    rw [e1]
    exact ⟨rfl, N0, rfl⟩

theorem d29_0 : decode jdk_92_method_2_code 0 = .ok (.getstatic 3, 3) := by decide +kernel
theorem d29_3 : decode jdk_92_method_2_code 3 = .ok (.ifCond .ne 34, 3) := by decide +kernel
theorem d29_37 : decode jdk_92_method_2_code 37 = .ok (.getstatic 3, 3) := by decide +kernel
theorem d29_40 : decode jdk_92_method_2_code 40 = .ok (.ifCond .ne 30, 3) := by decide +kernel
theorem d29_70 : decode jdk_92_method_2_code 70 = .ok (.getstatic 3, 3) := by decide +kernel
theorem d29_73 : decode jdk_92_method_2_code 73 = .ok (.ifCond .ne 37, 3) := by decide +kernel
theorem d29_110 : decode jdk_92_method_2_code 110 = .ok (.return_, 1) := by decide +kernel
theorem ef_29 (m : MethodId) (x0 : Addr) : entryFrame m #[(.ref x0)] 1 = mkF m 0 #[rv x0] [] := by first | (simp [entryFrame, mkF, argsToLocals, Value.category]; done) | rfl
def Q29 (Z : State) (oa : Addr) (el : Addr) (ea : Addr) (kE : ClassId) (h0 : Heap) (n0 : Nat) (rv_ : Option Value) (h_ : Heap) (L_ : List Loc) : Prop := rv_ = none ∧ Fr n0 L_ ∧ h_ = h0
set_option maxRecDepth 65536 in
set_option maxHeartbeats 40000000 in
theorem rm29 (l : Launch) (Z : State) (a0 : Array Value) (hw : ∀ d ∈ tables_1, d.before a0 Z = true) (ws : List Jvm.Cond) (oa : Addr) (el : Addr) (ea : Addr) (kE : ClassId) (h0 : Heap) (n0 : Nat) (Z0 : n0 ≤ h0.size) (O_ : Old Z n0 h0) (P_ : own_P Z el ea kE) :
    MetFree l (⟨"java/util/BitSet", "checkInvariants", "()V"⟩ : MethodName) (head1 (Jvm.Cond.code (⟨"java/util/BitSet", "checkInvariants", "()V"⟩ : MethodName) jdk_92_method_2_code 1 none :: ws) ({ frames := 0, cells := 0, slots := 0, locals := 0 } : Room)) (fun a U => a = #[(.ref oa)] ∧ Z.Warmed39 U.vm ∧ U.heap = h0) (fun _ _ _ _ _ => True) (fun _ U o U' => ∃ v L, o = .returned v ∧ Q29 Z oa el ea kE h0 n0 v U'.heap L ∧ FrameEnd U o U' L ({ frames := 0, cells := 0, slots := 0, locals := 0 } : Room).cells ({ frames := 0, cells := 0, slots := 0, locals := 0 } : Room).slots) := by
  refine MetFree.of_bodySF (plainFor_of_name pn_7) hisR ?_
  intro p e s m args below meth c s₁ Bd hml0 hP hK
  obtain ⟨rfl, hZ, hh⟩ := hP
  have hx := Bd.exec
  have hby := Bd.bytes
  have hml : c.maxLocals = 1 := hml0
  have hown : s.vm.findClass "java/util/BitSet" = some m.cls := findClass_of_methodNamed Bd.named
  have hnm := (name_of_methodNamed Bd.named Bd.method).1
  have X0 : Stand p l e ({ frames := 0, cells := 0, slots := 0, locals := 0 } : Room) s m #[(.ref oa)] below meth c s₁ [] 0 0 := Stand.of_body Bd
  have e0 : s₁.heap = h0 := by rw [← hh, Bd.state]; rfl
  have N0 := Fr.nil n0
  obtain ⟨G, hG, pre0⟩ : ∃ G : State → Prop, (∀ t, G t → Steps p.tables e below (s₁.setTop (entryFrame m #[(.ref oa)] 1)) t) ∧ ∀ t, own_K p e below m s₁ 0 #[rv oa] [] t → G t := ⟨fun t => Steps p.tables e below (s₁.setTop (entryFrame m #[(.ref oa)] 1)) t, fun _ k => k, fun t k => castTop (ef_29 m oa) k⟩
  obtain ⟨T1, X1, e1, st1⟩ := getS2 X0 hx hZ hown (host := "") (Or.inl (tw hw (i := 226) rfl)) Via.refl e0 (Sta.ext O_.2 P_.2.2.2.2.2) (g := (mkF m 0 #[rv oa] [])) rfl (hb hby d29_0)
  obtain ⟨T2, X2, e2, st2⟩ := getS2 X1 hx hZ hown (host := "") (Or.inl (tw hw (i := 226) rfl)) Via.refl e1 (Sta.ext O_.2 P_.2.2.2.2.2) (g := (mkF m 37 #[rv oa] [])) rfl (hb hby d29_37)
  obtain ⟨T3, X3, e3, st3⟩ := getS2 X2 hx hZ hown (host := "") (Or.inl (tw hw (i := 226) rfl)) Via.refl e2 (Sta.ext O_.2 P_.2.2.2.2.2) (g := (mkF m 70 #[rv oa] [])) rfl (hb hby d29_70)
  have pre4 : ∀ t, own_K p e below m T3 110 #[rv oa] [] t → G t := by
    intro t k
    refine pre0 t ?_
    show own_K p e below m s₁ 0 #[rv oa] [] _
    refine st1 _ ?_
    show own_K p e below m T1 3 #[rv oa] [(.int (1 : Int32))] _
    refine XS.ifYes X1.here hx rfl (pc0 := 3) (pc' := 37) rfl (hb hby d29_3) rfl ((if0 _ _).trans (feq (by decide : ¬ ((1 : Int32) = (0 : Int32)))).2) (by decide) (by decide) ?_
    show own_K p e below m T1 37 #[rv oa] [] _
    refine st2 _ ?_
    show own_K p e below m T2 40 #[rv oa] [(.int (1 : Int32))] _
    refine XS.ifYes X2.here hx rfl (pc0 := 40) (pc' := 70) rfl (hb hby d29_40) rfl ((if0 _ _).trans (feq (by decide : ¬ ((1 : Int32) = (0 : Int32)))).2) (by decide) (by decide) ?_
    show own_K p e below m T2 70 #[rv oa] [] _
    refine st3 _ ?_
    show own_K p e below m T3 73 #[rv oa] [(.int (1 : Int32))] _
    refine XS.ifYes X3.here hx rfl (pc0 := 73) (pc' := 110) rfl (hb hby d29_73) rfl ((if0 _ _).trans (feq (by decide : ¬ ((1 : Int32) = (0 : Int32)))).2) (by decide) (by decide) ?_
    exact k
  obtain ⟨fs, hr, hrun, hended, hW, hsame⟩ := X3.leave (v := none) (fun _ => rfl)
  refine ⟨_, _, hG _ (pre4 _ ?_), hrun, hended, _, _, rfl, ?_, ⟨_, rfl⟩, hW, hsame.mono (by decide) (by decide)⟩
  · show own_K p e below m T3 110 #[rv oa] [] _
    exact X3.returnOut hx Bd.returns (hb hby d29_110) hr
  · show Q29 Z oa el ea kE h0 n0 _ T3.heap _
    rw [e3]
    exact ⟨rfl, N0, rfl⟩

theorem d33_0 : decode jdk_92_method_33_code 0 = .ok (.aload_n 0, 1) := by decide +kernel
theorem d33_1 : decode jdk_92_method_33_code 1 = .ok (.getfield 7, 3) := by decide +kernel
theorem d33_4 : decode jdk_92_method_33_code 4 = .ok (.ifCond .ne 7, 3) := by decide +kernel
theorem d33_7 : decode jdk_92_method_33_code 7 = .ok (.iconst 1, 1) := by decide +kernel
theorem d33_8 : decode jdk_92_method_33_code 8 = .ok (.goto 4, 3) := by decide +kernel
theorem d33_12 : decode jdk_92_method_33_code 12 = .ok (.ireturn, 1) := by decide +kernel
theorem d33_11 : decode jdk_92_method_33_code 11 = .ok (.iconst 0, 1) := by decide +kernel
theorem ef_33 (m : MethodId) (x0 : Addr) : entryFrame m #[(.ref x0)] 1 = mkF m 0 #[rv x0] [] := by first | (simp [entryFrame, mkF, argsToLocals, Value.category]; done) | rfl
def Q33 (Z : State) (oa : Addr) (xw : Int32) (h0 : Heap) (n0 : Nat) (rv_ : Option Value) (h_ : Heap) (L_ : List Loc) : Prop := rv_ = some (.int (if xw = (0 : Int32) then (1 : Int32) else (0 : Int32))) ∧ Fr n0 L_ ∧ h_ = h0
set_option maxRecDepth 65536 in
set_option maxHeartbeats 40000000 in
theorem rm33 (l : Launch) (Z : State) (a0 : Array Value) (hw : ∀ d ∈ tables_1, d.before a0 Z = true) (ws : List Jvm.Cond) (oa : Addr) (xw : Int32) (h0 : Heap) (n0 : Nat) (Z0 : n0 ≤ h0.size) (Fw : Fld Z h0 oa "java/util/BitSet" "wordsInUse" "I" (.int xw)) :
    MetFree l (⟨"java/util/BitSet", "isEmpty", "()Z"⟩ : MethodName) (head1 (Jvm.Cond.code (⟨"java/util/BitSet", "isEmpty", "()Z"⟩ : MethodName) jdk_92_method_33_code 1 (some .boolean) :: ws) ({ frames := 0, cells := 0, slots := 0, locals := 0 } : Room)) (fun a U => a = #[(.ref oa)] ∧ Z.Warmed39 U.vm ∧ U.heap = h0) (fun _ _ _ _ _ => True) (fun _ U o U' => ∃ v L, o = .returned v ∧ Q33 Z oa xw h0 n0 v U'.heap L ∧ FrameEnd U o U' L ({ frames := 0, cells := 0, slots := 0, locals := 0 } : Room).cells ({ frames := 0, cells := 0, slots := 0, locals := 0 } : Room).slots) := by
  refine MetFree.of_bodySF (plainFor_of_name pn_7) hisR ?_
  intro p e s m args below meth c s₁ Bd hml0 hP hK
  obtain ⟨rfl, hZ, hh⟩ := hP
  have hx := Bd.exec
  have hby := Bd.bytes
  have hml : c.maxLocals = 1 := hml0
  have hown : s.vm.findClass "java/util/BitSet" = some m.cls := findClass_of_methodNamed Bd.named
  have hnm := (name_of_methodNamed Bd.named Bd.method).1
  have X0 : Stand p l e ({ frames := 0, cells := 0, slots := 0, locals := 0 } : Room) s m #[(.ref oa)] below meth c s₁ [] 0 0 := Stand.of_body Bd
  have e0 : s₁.heap = h0 := by rw [← hh, Bd.state]; rfl
  have N0 := Fr.nil n0
  obtain ⟨G, hG, pre0⟩ : ∃ G : State → Prop, (∀ t, G t → Steps p.tables e below (s₁.setTop (entryFrame m #[(.ref oa)] 1)) t) ∧ ∀ t, own_K p e below m s₁ 0 #[rv oa] [] t → G t := ⟨fun t => Steps p.tables e below (s₁.setTop (entryFrame m #[(.ref oa)] 1)) t, fun _ k => k, fun t k => castTop (ef_33 m oa) k⟩
  obtain ⟨T1, X1, e1, st1⟩ := getF X0 hx hZ hown (host := "") (Or.inl (tw hw (i := 111) rfl)) Via.refl e0 Fw (g := (mkF m 1 #[rv oa] [(.ref oa)])) rfl rfl (hb hby d33_1)
  have pre2 : ∀ t, own_K p e below m T1 4 #[rv oa] [(.int xw)] t → G t := by
    intro t k
    refine pre0 t ?_
    show own_K p e below m s₁ 0 #[rv oa] [] _
    refine XS.aloadN X0.here hx rfl (hb hby d33_0) rfl rfl ?_
    show own_K p e below m s₁ 1 #[rv oa] [(.ref oa)] _
    refine st1 _ ?_
    exact k
  by_cases hc4_3 : xw = (0 : Int32)
  · have pre4 : ∀ t, own_K p e below m T1 12 #[rv oa] [(.int (1 : Int32))] t → G t := by
      intro t k
      refine pre2 t ?_
      show own_K p e below m T1 4 #[rv oa] [(.int xw)] _
      refine XS.ifNo X1.here hx rfl (hb hby d33_4) rfl ((if0 _ _).trans (teq hc4_3).2) ?_
      show own_K p e below m T1 7 #[rv oa] [] _
      refine XS.iconst X1.here hx rfl (hb hby d33_7) ?_
      show own_K p e below m T1 8 #[rv oa] [(.int (1 : Int32))] _
      refine XS.goto X1.here hx rfl (pc0 := 8) (pc' := 12) rfl (hb hby d33_8) (by decide) (by decide) ?_
      exact k
    obtain ⟨fs, hr, hrun, hended, hW, hsame⟩ := X1.leave (v := some (.int (1 : Int32))) (fun h => by rw [Bd.returns] at h; cases h)
    refine ⟨_, _, hG _ (pre4 _ ?_), hrun, hended, _, _, rfl, ?_, ⟨_, rfl⟩, hW, hsame.mono (by decide) (by decide)⟩
    · show own_K p e below m T1 12 #[rv oa] [(.int (1 : Int32))] _
      exact retN X1 hx (t := .boolean) Bd.returns (by simp) (hb hby d33_12) hr
    · show Q33 Z oa xw h0 n0 _ T1.heap _
      rw [e1]
      exact ⟨(by simp only [if_pos hc4_3]), N0, rfl⟩
  · have pre5 : ∀ t, own_K p e below m T1 12 #[rv oa] [(.int (0 : Int32))] t → G t := by
      intro t k
      refine pre2 t ?_
      show own_K p e below m T1 4 #[rv oa] [(.int xw)] _
      refine XS.ifYes X1.here hx rfl (pc0 := 4) (pc' := 11) rfl (hb hby d33_4) rfl ((if0 _ _).trans (feq hc4_3).2) (by decide) (by decide) ?_
      show own_K p e below m T1 11 #[rv oa] [] _
      refine XS.iconst X1.here hx rfl (hb hby d33_11) ?_
      exact k
    obtain ⟨fs, hr, hrun, hended, hW, hsame⟩ := X1.leave (v := some (.int (0 : Int32))) (fun h => by rw [Bd.returns] at h; cases h)
    refine ⟨_, _, hG _ (pre5 _ ?_), hrun, hended, _, _, rfl, ?_, ⟨_, rfl⟩, hW, hsame.mono (by decide) (by decide)⟩
    · show own_K p e below m T1 12 #[rv oa] [(.int (0 : Int32))] _
      exact retN X1 hx (t := .boolean) Bd.returns (by simp) (hb hby d33_12) hr
    · show Q33 Z oa xw h0 n0 _ T1.heap _
      rw [e1]
      exact ⟨(by simp only [if_neg hc4_3]), N0, rfl⟩

theorem d28_0 : decode jdk_92_method_26_code 0 = .ok (.iload_n 1, 1) := by decide +kernel
theorem d28_1 : decode jdk_92_method_26_code 1 = .ok (.ifCond .ge 30, 3) := by decide +kernel
theorem d28_31 : decode jdk_92_method_26_code 31 = .ok (.aload_n 0, 1) := by decide +kernel
theorem d28_32 : decode jdk_92_method_26_code 32 = .ok (.invokevirtual 56, 3) := by decide +kernel
theorem d28_35 : decode jdk_92_method_26_code 35 = .ok (.iload_n 1, 1) := by decide +kernel
theorem d28_36 : decode jdk_92_method_26_code 36 = .ok (.invokestatic 52, 3) := by decide +kernel
theorem d28_39 : decode jdk_92_method_26_code 39 = .ok (.istore_n 2, 1) := by decide +kernel
theorem d28_40 : decode jdk_92_method_26_code 40 = .ok (.iload_n 2, 1) := by decide +kernel
theorem d28_41 : decode jdk_92_method_26_code 41 = .ok (.aload_n 0, 1) := by decide +kernel
theorem d28_42 : decode jdk_92_method_26_code 42 = .ok (.getfield 7, 3) := by decide +kernel
theorem d28_45 : decode jdk_92_method_26_code 45 = .ok (.if_icmp .ge 22, 3) := by decide +kernel
theorem d28_67 : decode jdk_92_method_26_code 67 = .ok (.iconst 0, 1) := by decide +kernel
theorem d28_68 : decode jdk_92_method_26_code 68 = .ok (.ireturn, 1) := by decide +kernel
theorem d28_48 : decode jdk_92_method_26_code 48 = .ok (.aload_n 0, 1) := by decide +kernel
theorem d28_49 : decode jdk_92_method_26_code 49 = .ok (.getfield 11, 3) := by decide +kernel
theorem d28_52 : decode jdk_92_method_26_code 52 = .ok (.iload_n 2, 1) := by decide +kernel
theorem d28_53 : decode jdk_92_method_26_code 53 = .ok (.laload, 1) := by decide +kernel
theorem d28_54 : decode jdk_92_method_26_code 54 = .ok (.lconst 1, 1) := by decide +kernel
theorem d28_55 : decode jdk_92_method_26_code 55 = .ok (.iload_n 1, 1) := by decide +kernel
theorem d28_56 : decode jdk_92_method_26_code 56 = .ok (.lshl, 1) := by decide +kernel
theorem d28_57 : decode jdk_92_method_26_code 57 = .ok (.land, 1) := by decide +kernel
theorem d28_58 : decode jdk_92_method_26_code 58 = .ok (.lconst 0, 1) := by decide +kernel
theorem d28_59 : decode jdk_92_method_26_code 59 = .ok (.lcmp, 1) := by decide +kernel
theorem d28_60 : decode jdk_92_method_26_code 60 = .ok (.ifCond .eq 7, 3) := by decide +kernel
theorem d28_63 : decode jdk_92_method_26_code 63 = .ok (.iconst 1, 1) := by decide +kernel
theorem d28_64 : decode jdk_92_method_26_code 64 = .ok (.goto 4, 3) := by decide +kernel
theorem ef_28 (m : MethodId) (x0 : Addr) (x1 : Int32) : entryFrame m #[(.ref x0), (.int x1)] 3 = mkF m 0 #[rv x0, iv x1, .unset] [] := by first | (simp [entryFrame, mkF, argsToLocals, Value.category]; done) | rfl
def Q28 (Z : State) (oa : Addr) (xi : Int32) (xw : Int64) (ow : Addr) (kw : ClassId) (el : Addr) (ea : Addr) (kE : ClassId) (h0 : Heap) (n0 : Nat) (rv_ : Option Value) (h_ : Heap) (L_ : List Loc) : Prop := rv_ = some (.int (if (xw &&& ((1 : Int64) <<< (xi &&& 0x3f).toInt64)) = (0 : Int64) then (0 : Int32) else (1 : Int32))) ∧ Fr n0 L_ ∧ h_ = h0
set_option maxRecDepth 65536 in
set_option maxHeartbeats 40000000 in
theorem rm28 (l : Launch) (Z : State) (a0 : Array Value) (hw : ∀ d ∈ tables_1, d.before a0 Z = true) (ws : List Jvm.Cond) (oa : Addr) (xi : Int32) (xw : Int64) (ow : Addr) (kw : ClassId) (el : Addr) (ea : Addr) (kE : ClassId) (h0 : Heap) (n0 : Nat) (Z0 : n0 ≤ h0.size) (E_ : Exa Z h0 oa "java/util/BitSet") (Fw : Fld Z h0 oa "java/util/BitSet" "wordsInUse" "I" (.int (own_wu xw))) (Fx : Fld Z h0 oa "java/util/BitSet" "words" "[J" (.ref ow)) (Vx : Arv Z h0 ow kw .long (1 : Int32) [(.long xw)] (.long (0 : Int64))) (hi : ¬ xi < (0 : Int32)) (hi2 : (xi >>> ((6 : Int32) &&& 31)) = (0 : Int32)) (O_ : Old Z n0 h0) (P_ : own_P Z el ea kE) :
    MetFree l (⟨"java/util/BitSet", "get", "(I)Z"⟩ : MethodName) (head1 (Jvm.Cond.code (⟨"java/util/BitSet", "get", "(I)Z"⟩ : MethodName) jdk_92_method_26_code 3 (some .boolean) :: ws) ({ frames := 1, cells := 0, slots := 0, locals := 12 } : Room)) (fun a U => a = #[(.ref oa), (.int xi)] ∧ Z.Warmed39 U.vm ∧ U.heap = h0) (fun _ _ _ _ _ => True) (fun _ U o U' => ∃ v L, o = .returned v ∧ Q28 Z oa xi xw ow kw el ea kE h0 n0 v U'.heap L ∧ FrameEnd U o U' L ({ frames := 1, cells := 0, slots := 0, locals := 12 } : Room).cells ({ frames := 1, cells := 0, slots := 0, locals := 12 } : Room).slots) := by
  refine MetFree.of_bodySF (plainFor_of_name pn_7) hisR ?_
  intro p e s m args below meth c s₁ Bd hml0 hP hK
  obtain ⟨rfl, hZ, hh⟩ := hP
  have hx := Bd.exec
  have hby := Bd.bytes
  have hml : c.maxLocals = 3 := hml0
  have hown : s.vm.findClass "java/util/BitSet" = some m.cls := findClass_of_methodNamed Bd.named
  have hnm := (name_of_methodNamed Bd.named Bd.method).1
  have X0 : Stand p l e ({ frames := 1, cells := 0, slots := 0, locals := 12 } : Room) s m #[(.ref oa), (.int xi)] below meth c s₁ [] 0 0 := Stand.of_body Bd
  have e0 : s₁.heap = h0 := by rw [← hh, Bd.state]; rfl
  have N0 := Fr.nil n0
  obtain ⟨G, hG, pre0⟩ : ∃ G : State → Prop, (∀ t, G t → Steps p.tables e below (s₁.setTop (entryFrame m #[(.ref oa), (.int xi)] 3)) t) ∧ ∀ t, own_K p e below m s₁ 0 #[rv oa, iv xi, .unset] [] t → G t := ⟨fun t => Steps p.tables e below (s₁.setTop (entryFrame m #[(.ref oa), (.int xi)] 3)) t, fun _ k => k, fun t k => castTop (ef_28 m oa xi) k⟩
  obtain ⟨cq1, q1, q1'⟩ := E_.cell
  obtain ⟨_, _, ⟨T1, L1, k1, n1⟩, -, X1, ⟨Lc1, hQ1, l1, y1, z1⟩, st1⟩ := X0.privateBack hx (y := (⟨"java/util/BitSet", "checkInvariants", "()V"⟩ : MethodName)) hown (mvT hZ (tw hw (i := 221) rfl)) (mvT hZ (tw hw (i := 222) rfl)) (mvT hZ (tw hw (i := 224) rfl)) (Cond.privateMethod_at (mvP hZ (tw hw (i := 223) rfl) (args := #[]))) (mvT hZ (tw hw (i := 225) rfl)) (by decide) (backOf (W := 0) (rm29 l Z a0 hw [] oa el ea kE h0 n0 Z0 O_ P_) hZ (tw hw (i := 225) rfl) (tw hw (i := 106) rfl) (by decide) (by decide)) (g := (mkF m 32 #[rv oa, iv xi, .unset] [(.ref oa)])) rfl (by rw [hml]; rfl) (Steps.refl _) (a := oa) (by rw [e0]; exact q1) q1' (argsL := []) (rest := []) (lenOf pd_3 rfl) rfl (by show 2 * 0 + _ ≤ _; exact Nat.le_of_eq rfl) (hb hby d28_32) (fun _ _ => ⟨rfl, e0, (by decide : 0 + 0 ≤ _), (by decide : 0 + 0 ≤ _)⟩)
  dsimp only [Pt.U, Pt.locs, Pt.cells, Pt.slots] at X1 l1 y1 z1 st1 hQ1
  subst l1 y1 z1
  obtain ⟨rfl, Nq1, eh1⟩ := hQ1
  have N1 := Fr.app N0 Nq1
  obtain ⟨_, _, ⟨T2, L2, k2, n2⟩, -, X2, ⟨Lc2, hQ2, l2, y2, z2⟩, st2⟩ := Jvm.LawKit.callS X1 hx (y := (⟨"java/util/BitSet", "wordIndex", "(I)I"⟩ : MethodName)) hown (mvT hZ (tw hw (i := 120) rfl)) (mvT hZ (tw hw (i := 121) rfl)) (mvT hZ (tw hw (i := 106) rfl)) (mvT hZ (tw hw (i := 122) rfl)) (by decide) (backOf (W := 0) (rm15 l Z a0 hw [] xi h0 n0 Z0 ) hZ (tw hw (i := 122) rfl) (tw hw (i := 106) rfl) (by decide) (by decide)) (g := (mkF m 36 #[rv oa, iv xi, .unset] [(.int xi)])) rfl (by rw [hml]; rfl) (argsL := [(.int xi)]) (rest := []) (lenOf pd_8 rfl) rfl (by show 2 * 0 + _ ≤ _; exact Nat.le_of_eq rfl) (hb hby d28_36) (fun _ _ => ⟨rfl, eh1, (by decide : 0 + 0 ≤ _), (by decide : 0 + 0 ≤ _)⟩)
  dsimp only [Pt.U, Pt.locs, Pt.cells, Pt.slots] at X2 l2 y2 z2 st2 hQ2
  subst l2 y2 z2
  obtain ⟨rfl, Nq2, eh2⟩ := hQ2
  have N2 := Fr.app N1 Nq2
  have pre3 : ∀ t, own_K p e below m T2 39 #[rv oa, iv xi, .unset] [(.int (xi >>> ((6 : Int32) &&& 31)))] t → G t := by
    intro t k
    refine pre0 t ?_
    show own_K p e below m s₁ 0 #[rv oa, iv xi, .unset] [] _
    refine XS.iloadN X0.here hx rfl (hb hby d28_0) rfl ?_
    show own_K p e below m s₁ 1 #[rv oa, iv xi, .unset] [(.int xi)] _
    refine XS.ifYes X0.here hx rfl (pc0 := 1) (pc' := 31) rfl (hb hby d28_1) rfl ((if0 _ _).trans (flt hi).2.1) (by decide) (by decide) ?_
    show own_K p e below m s₁ 31 #[rv oa, iv xi, .unset] [] _
    refine XS.aloadN X0.here hx rfl (hb hby d28_31) rfl rfl ?_
    show own_K p e below m s₁ 32 #[rv oa, iv xi, .unset] [(.ref oa)] _
    refine st1.trans ?_
    show own_K p e below m T1 35 #[rv oa, iv xi, .unset] [] _
    refine XS.iloadN X1.here hx rfl (hb hby d28_35) rfl ?_
    show own_K p e below m T1 36 #[rv oa, iv xi, .unset] [(.int xi)] _
    refine st2 _ ?_
    exact k
  have hq4 : (xi >>> ((6 : Int32) &&& 31)) = (0 : Int32) := hi2
  have pre4 : ∀ t, own_K p e below m T2 39 #[rv oa, iv xi, .unset] [(.int (0 : Int32))] t → G t := fun t k => pre3 t (by rw [hq4]; exact k)
  obtain ⟨T5, X5, e5, st5⟩ := getF X2 hx hZ hown (host := "") (Or.inl (tw hw (i := 111) rfl)) Via.refl eh2 Fw (g := (mkF m 42 #[rv oa, iv xi, iv (0 : Int32)] [(.ref oa), (.int (0 : Int32))])) rfl rfl (hb hby d28_42)
  have pre7 : ∀ t, own_K p e below m T5 45 #[rv oa, iv xi, iv (0 : Int32)] [(.int (own_wu xw)), (.int (0 : Int32))] t → G t := by
    intro t k
    refine pre4 t ?_
    show own_K p e below m T2 39 #[rv oa, iv xi, .unset] [(.int (0 : Int32))] _
    refine XS.istoreN X2.here hx rfl (hb hby d28_39) rfl (l' := #[rv oa, iv xi, iv (0 : Int32)]) rfl ?_
    show own_K p e below m T2 40 #[rv oa, iv xi, iv (0 : Int32)] [] _
    refine XS.iloadN X2.here hx rfl (hb hby d28_40) rfl ?_
    show own_K p e below m T2 41 #[rv oa, iv xi, iv (0 : Int32)] [(.int (0 : Int32))] _
    refine XS.aloadN X2.here hx rfl (hb hby d28_41) rfl rfl ?_
    show own_K p e below m T2 42 #[rv oa, iv xi, iv (0 : Int32)] [(.ref oa), (.int (0 : Int32))] _
    refine st5 _ ?_
    exact k
  by_cases hb45_6 : xw = (0 : Int64)
  · have pre8 : ∀ t, own_K p e below m T5 68 #[rv oa, iv xi, iv (0 : Int32)] [(.int (0 : Int32))] t → G t := by
      intro t k
      refine pre7 t ?_
      show own_K p e below m T5 45 #[rv oa, iv xi, iv (0 : Int32)] [(.int (own_wu xw)), (.int (0 : Int32))] _
      refine XS.icmpYes X5.here hx rfl (pc0 := 45) (pc' := 67) rfl (hb hby d28_45) rfl (flt (own_wu0 hb45_6)).2.1 (by decide) (by decide) ?_
      show own_K p e below m T5 67 #[rv oa, iv xi, iv (0 : Int32)] [] _
      refine XS.iconst X5.here hx rfl (hb hby d28_67) ?_
      exact k
    obtain ⟨fs, hr, hrun, hended, hW, hsame⟩ := X5.leave (v := some (.int (0 : Int32))) (fun h => by rw [Bd.returns] at h; cases h)
    refine ⟨_, _, hG _ (pre8 _ ?_), hrun, hended, _, _, rfl, ?_, ⟨_, rfl⟩, hW, hsame.mono (by decide) (by decide)⟩
    · show own_K p e below m T5 68 #[rv oa, iv xi, iv (0 : Int32)] [(.int (0 : Int32))] _
      exact retN X5 hx (t := .boolean) Bd.returns (by simp) (hb hby d28_68) hr
    · show Q28 Z oa xi xw ow kw el ea kE h0 n0 _ T5.heap _
      rw [e5]
      exact ⟨(by rw [if_pos (own_and0 hb45_6)]), N2, rfl⟩
  · obtain ⟨T9, X9, e9, st9⟩ := getF X5 hx hZ hown (host := "") (Or.inl (tw hw (i := 124) rfl)) Via.refl e5 Fx (g := (mkF m 49 #[rv oa, iv xi, iv (0 : Int32)] [(.ref oa)])) rfl rfl (hb hby d28_49)
    have pre11 : ∀ t, own_K p e below m T9 60 #[rv oa, iv xi, iv (0 : Int32)] [(.int (lcmpW (xw &&& ((1 : Int64) <<< (xi &&& 0x3f).toInt64)) (0 : Int64)))] t → G t := by
      intro t k
      refine pre7 t ?_
      show own_K p e below m T5 45 #[rv oa, iv xi, iv (0 : Int32)] [(.int (own_wu xw)), (.int (0 : Int32))] _
      refine XS.icmpNo X5.here hx rfl (hb hby d28_45) rfl (tlt (own_wu1 hb45_6)).2.1 ?_
      show own_K p e below m T5 48 #[rv oa, iv xi, iv (0 : Int32)] [] _
      refine XS.aloadN X5.here hx rfl (hb hby d28_48) rfl rfl ?_
      show own_K p e below m T5 49 #[rv oa, iv xi, iv (0 : Int32)] [(.ref oa)] _
      refine st9 _ ?_
      show own_K p e below m T9 52 #[rv oa, iv xi, iv (0 : Int32)] [(.ref ow)] _
      refine XS.iloadN X9.here hx rfl (hb hby d28_52) rfl ?_
      show own_K p e below m T9 53 #[rv oa, iv xi, iv (0 : Int32)] [(.int (0 : Int32)), (.ref ow)] _
      refine own_lal X9 hx hZ e9 Vx (v := (.long xw)) ⟨by decide, by decide⟩ rfl (g := (mkF m 53 #[rv oa, iv xi, iv (0 : Int32)] [(.int (0 : Int32)), (.ref ow)])) rfl rfl (hb hby d28_53) _ ?_
      show own_K p e below m T9 54 #[rv oa, iv xi, iv (0 : Int32)] [(.long xw)] _
      refine XS.lconst X9.here hx rfl (hb hby d28_54) ?_
      show own_K p e below m T9 55 #[rv oa, iv xi, iv (0 : Int32)] [(.long (1 : Int64)), (.long xw)] _
      refine XS.iloadN X9.here hx rfl (hb hby d28_55) rfl ?_
      show own_K p e below m T9 56 #[rv oa, iv xi, iv (0 : Int32)] [(.int xi), (.long (1 : Int64)), (.long xw)] _
      refine XS.lshl X9.here hx rfl (hb hby d28_56) rfl ?_
      show own_K p e below m T9 57 #[rv oa, iv xi, iv (0 : Int32)] [(.long ((1 : Int64) <<< (xi &&& 0x3f).toInt64)), (.long xw)] _
      refine XS.land X9.here hx rfl (hb hby d28_57) rfl ?_
      show own_K p e below m T9 58 #[rv oa, iv xi, iv (0 : Int32)] [(.long (xw &&& ((1 : Int64) <<< (xi &&& 0x3f).toInt64)))] _
      refine XS.lconst X9.here hx rfl (hb hby d28_58) ?_
      show own_K p e below m T9 59 #[rv oa, iv xi, iv (0 : Int32)] [(.long (0 : Int64)), (.long (xw &&& ((1 : Int64) <<< (xi &&& 0x3f).toInt64)))] _
      refine XS.lcmp X9.here hx rfl (hb hby d28_59) rfl ?_
      exact k
    by_cases hc60_12 : (xw &&& ((1 : Int64) <<< (xi &&& 0x3f).toInt64)) = (0 : Int64)
    · have pre13 : ∀ t, own_K p e below m T9 68 #[rv oa, iv xi, iv (0 : Int32)] [(.int (0 : Int32))] t → G t := by
        intro t k
        refine pre11 t ?_
        show own_K p e below m T9 60 #[rv oa, iv xi, iv (0 : Int32)] [(.int (lcmpW (xw &&& ((1 : Int64) <<< (xi &&& 0x3f).toInt64)) (0 : Int64)))] _
        refine XS.ifYes X9.here hx rfl (pc0 := 60) (pc' := 67) rfl (hb hby d28_60) rfl ((if0 _ _).trans (teq ((lw_eq _ _).mpr hc60_12)).1) (by decide) (by decide) ?_
        show own_K p e below m T9 67 #[rv oa, iv xi, iv (0 : Int32)] [] _
        refine XS.iconst X9.here hx rfl (hb hby d28_67) ?_
        exact k
      obtain ⟨fs, hr, hrun, hended, hW, hsame⟩ := X9.leave (v := some (.int (0 : Int32))) (fun h => by rw [Bd.returns] at h; cases h)
      refine ⟨_, _, hG _ (pre13 _ ?_), hrun, hended, _, _, rfl, ?_, ⟨_, rfl⟩, hW, hsame.mono (by decide) (by decide)⟩
      · show own_K p e below m T9 68 #[rv oa, iv xi, iv (0 : Int32)] [(.int (0 : Int32))] _
        exact retN X9 hx (t := .boolean) Bd.returns (by simp) (hb hby d28_68) hr
      · show Q28 Z oa xi xw ow kw el ea kE h0 n0 _ T9.heap _
        rw [e9]
        exact ⟨(by simp only [if_neg hb45_6, if_pos hc60_12]), N2, rfl⟩
    · have pre14 : ∀ t, own_K p e below m T9 68 #[rv oa, iv xi, iv (0 : Int32)] [(.int (1 : Int32))] t → G t := by
        intro t k
        refine pre11 t ?_
        show own_K p e below m T9 60 #[rv oa, iv xi, iv (0 : Int32)] [(.int (lcmpW (xw &&& ((1 : Int64) <<< (xi &&& 0x3f).toInt64)) (0 : Int64)))] _
        refine XS.ifNo X9.here hx rfl (hb hby d28_60) rfl ((if0 _ _).trans (feq (mt (lw_eq _ _).mp hc60_12)).1) ?_
        show own_K p e below m T9 63 #[rv oa, iv xi, iv (0 : Int32)] [] _
        refine XS.iconst X9.here hx rfl (hb hby d28_63) ?_
        show own_K p e below m T9 64 #[rv oa, iv xi, iv (0 : Int32)] [(.int (1 : Int32))] _
        refine XS.goto X9.here hx rfl (pc0 := 64) (pc' := 68) rfl (hb hby d28_64) (by decide) (by decide) ?_
        exact k
      obtain ⟨fs, hr, hrun, hended, hW, hsame⟩ := X9.leave (v := some (.int (1 : Int32))) (fun h => by rw [Bd.returns] at h; cases h)
      refine ⟨_, _, hG _ (pre14 _ ?_), hrun, hended, _, _, rfl, ?_, ⟨_, rfl⟩, hW, hsame.mono (by decide) (by decide)⟩
      · show own_K p e below m T9 68 #[rv oa, iv xi, iv (0 : Int32)] [(.int (1 : Int32))] _
        exact retN X9 hx (t := .boolean) Bd.returns (by simp) (hb hby d28_68) hr
      · show Q28 Z oa xi xw ow kw el ea kE h0 n0 _ T9.heap _
        rw [e9]
        exact ⟨(by simp only [if_neg hb45_6, if_neg hc60_12]), N2, rfl⟩

theorem d32_0 : decode jdk_92_method_14_code 0 = .ok (.aload_n 0, 1) := by decide +kernel
theorem d32_1 : decode jdk_92_method_14_code 1 = .ok (.getfield 11, 3) := by decide +kernel
theorem d32_4 : decode jdk_92_method_14_code 4 = .ok (.arraylength, 1) := by decide +kernel
theorem d32_5 : decode jdk_92_method_14_code 5 = .ok (.iload_n 1, 1) := by decide +kernel
theorem d32_6 : decode jdk_92_method_14_code 6 = .ok (.if_icmp .ge 32, 3) := by decide +kernel
theorem d32_38 : decode jdk_92_method_14_code 38 = .ok (.return_, 1) := by decide +kernel
theorem ef_32 (m : MethodId) (x0 : Addr) (x1 : Int32) : entryFrame m #[(.ref x0), (.int x1)] 3 = mkF m 0 #[rv x0, iv x1, .unset] [] := by first | (simp [entryFrame, mkF, argsToLocals, Value.category]; done) | rfl
def Q32 (Z : State) (oa : Addr) (xi : Int32) (xw : Int64) (ow : Addr) (kw : ClassId) (h0 : Heap) (n0 : Nat) (rv_ : Option Value) (h_ : Heap) (L_ : List Loc) : Prop := rv_ = none ∧ Fr n0 L_ ∧ h_ = h0
set_option maxRecDepth 65536 in
set_option maxHeartbeats 40000000 in
theorem rm32 (l : Launch) (Z : State) (a0 : Array Value) (hw : ∀ d ∈ tables_1, d.before a0 Z = true) (ws : List Jvm.Cond) (oa : Addr) (xi : Int32) (xw : Int64) (ow : Addr) (kw : ClassId) (h0 : Heap) (n0 : Nat) (Z0 : n0 ≤ h0.size) (Fx : Fld Z h0 oa "java/util/BitSet" "words" "[J" (.ref ow)) (Vx : Arv Z h0 ow kw .long (1 : Int32) [(.long xw)] (.long (0 : Int64))) (hx1 : xi = (1 : Int32)) :
    MetFree l (⟨"java/util/BitSet", "ensureCapacity", "(I)V"⟩ : MethodName) (head1 (Jvm.Cond.code (⟨"java/util/BitSet", "ensureCapacity", "(I)V"⟩ : MethodName) jdk_92_method_14_code 3 none :: ws) ({ frames := 0, cells := 0, slots := 0, locals := 0 } : Room)) (fun a U => a = #[(.ref oa), (.int xi)] ∧ Z.Warmed39 U.vm ∧ U.heap = h0) (fun _ _ _ _ _ => True) (fun _ U o U' => ∃ v L, o = .returned v ∧ Q32 Z oa xi xw ow kw h0 n0 v U'.heap L ∧ FrameEnd U o U' L ({ frames := 0, cells := 0, slots := 0, locals := 0 } : Room).cells ({ frames := 0, cells := 0, slots := 0, locals := 0 } : Room).slots) := by
  refine MetFree.of_bodySF (plainFor_of_name pn_7) hisR ?_
  intro p e s m args below meth c s₁ Bd hml0 hP hK
  obtain ⟨rfl, hZ, hh⟩ := hP
  have hx := Bd.exec
  have hby := Bd.bytes
  have hml : c.maxLocals = 3 := hml0
  have hown : s.vm.findClass "java/util/BitSet" = some m.cls := findClass_of_methodNamed Bd.named
  have hnm := (name_of_methodNamed Bd.named Bd.method).1
  have X0 : Stand p l e ({ frames := 0, cells := 0, slots := 0, locals := 0 } : Room) s m #[(.ref oa), (.int xi)] below meth c s₁ [] 0 0 := Stand.of_body Bd
  have e0 : s₁.heap = h0 := by rw [← hh, Bd.state]; rfl
  have N0 := Fr.nil n0
  obtain ⟨G, hG, pre0⟩ : ∃ G : State → Prop, (∀ t, G t → Steps p.tables e below (s₁.setTop (entryFrame m #[(.ref oa), (.int xi)] 3)) t) ∧ ∀ t, own_K p e below m s₁ 0 #[rv oa, iv xi, .unset] [] t → G t := ⟨fun t => Steps p.tables e below (s₁.setTop (entryFrame m #[(.ref oa), (.int xi)] 3)) t, fun _ k => k, fun t k => castTop (ef_32 m oa xi) k⟩
  obtain ⟨T1, X1, e1, st1⟩ := getF X0 hx hZ hown (host := "") (Or.inl (tw hw (i := 124) rfl)) Via.refl e0 Fx (g := (mkF m 1 #[rv oa, iv xi, .unset] [(.ref oa)])) rfl rfl (hb hby d32_1)
  have pre3 : ∀ t, own_K p e below m T1 38 #[rv oa, iv xi, .unset] [] t → G t := by
    intro t k
    refine pre0 t ?_
    show own_K p e below m s₁ 0 #[rv oa, iv xi, .unset] [] _
    refine XS.aloadN X0.here hx rfl (hb hby d32_0) rfl rfl ?_
    show own_K p e below m s₁ 1 #[rv oa, iv xi, .unset] [(.ref oa)] _
    refine st1 _ ?_
    show own_K p e below m T1 4 #[rv oa, iv xi, .unset] [(.ref ow)] _
    refine own_len X1 hx hZ e1 Vx (g := (mkF m 4 #[rv oa, iv xi, .unset] [(.ref ow)])) rfl rfl (hb hby d32_4) _ ?_
    show own_K p e below m T1 5 #[rv oa, iv xi, .unset] [(.int (1 : Int32))] _
    refine XS.iloadN X1.here hx rfl (hb hby d32_5) rfl ?_
    show own_K p e below m T1 6 #[rv oa, iv xi, .unset] [(.int xi), (.int (1 : Int32))] _
    refine XS.icmpYes X1.here hx rfl (pc0 := 6) (pc' := 38) rfl (hb hby d32_6) rfl (flt (by rw [hx1]; decide)).2.1 (by decide) (by decide) ?_
    exact k
  obtain ⟨fs, hr, hrun, hended, hW, hsame⟩ := X1.leave (v := none) (fun _ => rfl)
  refine ⟨_, _, hG _ (pre3 _ ?_), hrun, hended, _, _, rfl, ?_, ⟨_, rfl⟩, hW, hsame.mono (by decide) (by decide)⟩
  · show own_K p e below m T1 38 #[rv oa, iv xi, .unset] [] _
    exact X1.returnOut hx Bd.returns (hb hby d32_38) hr
  · show Q32 Z oa xi xw ow kw h0 n0 _ T1.heap _
    rw [e1]
    exact ⟨rfl, N0, rfl⟩

theorem d31_0 : decode jdk_92_method_15_code 0 = .ok (.iload_n 1, 1) := by decide +kernel
theorem d31_1 : decode jdk_92_method_15_code 1 = .ok (.iconst 1, 1) := by decide +kernel
theorem d31_2 : decode jdk_92_method_15_code 2 = .ok (.iadd, 1) := by decide +kernel
theorem d31_3 : decode jdk_92_method_15_code 3 = .ok (.istore_n 2, 1) := by decide +kernel
theorem d31_4 : decode jdk_92_method_15_code 4 = .ok (.aload_n 0, 1) := by decide +kernel
theorem d31_5 : decode jdk_92_method_15_code 5 = .ok (.getfield 7, 3) := by decide +kernel
theorem d31_8 : decode jdk_92_method_15_code 8 = .ok (.iload_n 2, 1) := by decide +kernel
theorem d31_9 : decode jdk_92_method_15_code 9 = .ok (.if_icmp .ge 13, 3) := by decide +kernel
theorem d31_12 : decode jdk_92_method_15_code 12 = .ok (.aload_n 0, 1) := by decide +kernel
theorem d31_13 : decode jdk_92_method_15_code 13 = .ok (.iload_n 2, 1) := by decide +kernel
theorem d31_14 : decode jdk_92_method_15_code 14 = .ok (.invokevirtual 139, 3) := by decide +kernel
theorem d31_17 : decode jdk_92_method_15_code 17 = .ok (.aload_n 0, 1) := by decide +kernel
theorem d31_18 : decode jdk_92_method_15_code 18 = .ok (.iload_n 2, 1) := by decide +kernel
theorem d31_19 : decode jdk_92_method_15_code 19 = .ok (.putfield 7, 3) := by decide +kernel
theorem d31_22 : decode jdk_92_method_15_code 22 = .ok (.return_, 1) := by decide +kernel
theorem ef_31 (m : MethodId) (x0 : Addr) (x1 : Int32) : entryFrame m #[(.ref x0), (.int x1)] 3 = mkF m 0 #[rv x0, iv x1, .unset] [] := by first | (simp [entryFrame, mkF, argsToLocals, Value.category]; done) | rfl
def Q31 (Z : State) (oa : Addr) (xi : Int32) (xw : Int64) (ow : Addr) (kw : ClassId) (uf_oa_sizeIsSticky : Value) (h0 : Heap) (n0 : Nat) (rv_ : Option Value) (h_ : Heap) (L_ : List Loc) : Prop := rv_ = none ∧ Fr n0 L_ ∧ Keep h0 h_ [oa] ∧ Fld Z h_ oa "java/util/BitSet" "wordsInUse" "I" (.int (1 : Int32)) ∧ Fld Z h_ oa "java/util/BitSet" "sizeIsSticky" "Z" uf_oa_sizeIsSticky ∧ Fld Z h_ oa "java/util/BitSet" "words" "[J" (.ref ow)
set_option maxRecDepth 65536 in
set_option maxHeartbeats 40000000 in
theorem rm31 (l : Launch) (Z : State) (a0 : Array Value) (hw : ∀ d ∈ tables_1, d.before a0 Z = true) (ws : List Jvm.Cond) (oa : Addr) (xi : Int32) (xw : Int64) (ow : Addr) (kw : ClassId) (uf_oa_sizeIsSticky : Value) (h0 : Heap) (n0 : Nat) (Z0 : n0 ≤ h0.size) (E_ : Exa Z h0 oa "java/util/BitSet") (Fw : Fld Z h0 oa "java/util/BitSet" "wordsInUse" "I" (.int (own_wu xw))) (Fx : Fld Z h0 oa "java/util/BitSet" "words" "[J" (.ref ow)) (Vx : Arv Z h0 ow kw .long (1 : Int32) [(.long xw)] (.long (0 : Int64))) (hx0 : xi = (0 : Int32)) (g_ : n0 ≤ oa) (nw : oa ≠ ow) (F_oa_sizeIsSticky : Fld Z h0 oa "java/util/BitSet" "sizeIsSticky" "Z" uf_oa_sizeIsSticky) :
    MetFree l (⟨"java/util/BitSet", "expandTo", "(I)V"⟩ : MethodName) (head1 (Jvm.Cond.code (⟨"java/util/BitSet", "expandTo", "(I)V"⟩ : MethodName) jdk_92_method_15_code 3 none :: ws) ({ frames := 1, cells := 0, slots := 0, locals := 14 } : Room)) (fun a U => a = #[(.ref oa), (.int xi)] ∧ Z.Warmed39 U.vm ∧ U.heap = h0) (fun _ _ _ _ _ => True) (fun _ U o U' => ∃ v L, o = .returned v ∧ Q31 Z oa xi xw ow kw uf_oa_sizeIsSticky h0 n0 v U'.heap L ∧ FrameEnd U o U' L ({ frames := 1, cells := 0, slots := 0, locals := 14 } : Room).cells ({ frames := 1, cells := 0, slots := 0, locals := 14 } : Room).slots) := by
  refine MetFree.of_bodySF (plainFor_of_name pn_7) hisR ?_
  intro p e s m args below meth c s₁ Bd hml0 hP hK
  obtain ⟨rfl, hZ, hh⟩ := hP
  have hx := Bd.exec
  have hby := Bd.bytes
  have hml : c.maxLocals = 3 := hml0
  have hown : s.vm.findClass "java/util/BitSet" = some m.cls := findClass_of_methodNamed Bd.named
  have hnm := (name_of_methodNamed Bd.named Bd.method).1
  have X0 : Stand p l e ({ frames := 1, cells := 0, slots := 0, locals := 14 } : Room) s m #[(.ref oa), (.int xi)] below meth c s₁ [] 0 0 := Stand.of_body Bd
  have e0 : s₁.heap = h0 := by rw [← hh, Bd.state]; rfl
  have N0 := Fr.nil n0
  obtain ⟨G, hG, pre0⟩ : ∃ G : State → Prop, (∀ t, G t → Steps p.tables e below (s₁.setTop (entryFrame m #[(.ref oa), (.int xi)] 3)) t) ∧ ∀ t, own_K p e below m s₁ 0 #[rv oa, iv xi, .unset] [] t → G t := ⟨fun t => Steps p.tables e below (s₁.setTop (entryFrame m #[(.ref oa), (.int xi)] 3)) t, fun _ k => k, fun t k => castTop (ef_31 m oa xi) k⟩
  have pre1 : ∀ t, own_K p e below m s₁ 3 #[rv oa, iv xi, .unset] [(.int (xi + (1 : Int32)))] t → G t := by
    intro t k
    refine pre0 t ?_
    show own_K p e below m s₁ 0 #[rv oa, iv xi, .unset] [] _
    refine XS.iloadN X0.here hx rfl (hb hby d31_0) rfl ?_
    show own_K p e below m s₁ 1 #[rv oa, iv xi, .unset] [(.int xi)] _
    refine XS.iconst X0.here hx rfl (hb hby d31_1) ?_
    show own_K p e below m s₁ 2 #[rv oa, iv xi, .unset] [(.int (1 : Int32)), (.int xi)] _
    refine XS.iadd X0.here hx rfl (hb hby d31_2) rfl ?_
    exact k
  have hq2 : (xi + (1 : Int32)) = (1 : Int32) := (by rw [hx0]; decide)
  have pre2 : ∀ t, own_K p e below m s₁ 3 #[rv oa, iv xi, .unset] [(.int (1 : Int32))] t → G t := fun t k => pre1 t (by rw [hq2]; exact k)
  obtain ⟨T3, X3, e3, st3⟩ := getF X0 hx hZ hown (host := "") (Or.inl (tw hw (i := 111) rfl)) Via.refl e0 Fw (g := (mkF m 5 #[rv oa, iv xi, iv (1 : Int32)] [(.ref oa)])) rfl rfl (hb hby d31_5)
  have pre5 : ∀ t, own_K p e below m T3 9 #[rv oa, iv xi, iv (1 : Int32)] [(.int (1 : Int32)), (.int (own_wu xw))] t → G t := by
    intro t k
    refine pre2 t ?_
    show own_K p e below m s₁ 3 #[rv oa, iv xi, .unset] [(.int (1 : Int32))] _
    refine XS.istoreN X0.here hx rfl (hb hby d31_3) rfl (l' := #[rv oa, iv xi, iv (1 : Int32)]) rfl ?_
    show own_K p e below m s₁ 4 #[rv oa, iv xi, iv (1 : Int32)] [] _
    refine XS.aloadN X0.here hx rfl (hb hby d31_4) rfl rfl ?_
    show own_K p e below m s₁ 5 #[rv oa, iv xi, iv (1 : Int32)] [(.ref oa)] _
    refine st3 _ ?_
    show own_K p e below m T3 8 #[rv oa, iv xi, iv (1 : Int32)] [(.int (own_wu xw))] _
    refine XS.iloadN X3.here hx rfl (hb hby d31_8) rfl ?_
    exact k
  by_cases hb9_4 : xw = (0 : Int64)
  · obtain ⟨cq6, q6, q6'⟩ := E_.cell
    obtain ⟨_, _, ⟨T6, L6, k6, n6⟩, -, X6, ⟨Lc6, hQ6, l6, y6, z6⟩, st6⟩ := X3.privateBack hx (y := (⟨"java/util/BitSet", "ensureCapacity", "(I)V"⟩ : MethodName)) hown (mvT hZ (tw hw (i := 237) rfl)) (mvT hZ (tw hw (i := 238) rfl)) (mvT hZ (tw hw (i := 240) rfl)) (Cond.privateMethod_at (mvP hZ (tw hw (i := 239) rfl) (args := #[]))) (mvT hZ (tw hw (i := 241) rfl)) (by decide) (backOf (W := 0) (rm32 l Z a0 hw [] oa (1 : Int32) xw ow kw h0 n0 Z0 Fx Vx rfl) hZ (tw hw (i := 241) rfl) (tw hw (i := 106) rfl) (by decide) (by decide)) (g := (mkF m 14 #[rv oa, iv xi, iv (1 : Int32)] [(.int (1 : Int32)), (.ref oa)])) rfl (by rw [hml]; rfl) (Steps.refl _) (a := oa) (by rw [e3]; exact q6) q6' (argsL := [(.int (1 : Int32))]) (rest := []) (lenOf pd_9 rfl) rfl (by show 2 * 0 + _ ≤ _; exact Nat.le_of_eq rfl) (hb hby d31_14) (fun _ _ => ⟨rfl, e3, (by decide : 0 + 0 ≤ _), (by decide : 0 + 0 ≤ _)⟩)
    dsimp only [Pt.U, Pt.locs, Pt.cells, Pt.slots] at X6 l6 y6 z6 st6 hQ6
    subst l6 y6 z6
    obtain ⟨rfl, Nq6, eh6⟩ := hQ6
    have N6 := Fr.app N0 Nq6
    obtain ⟨T7, h7, X7, e7, W7, st7⟩ := putF X6 hx hZ hown (host := "") (Or.inl (tw hw (i := 111) rfl)) Via.refl eh6 Fw E_ (Or.inl (tw hw (i := 112) rfl)) (tw hw (i := 105) rfl) (ty := .int) (by decide) rfl rfl (g := (mkF m 19 #[rv oa, iv xi, iv (1 : Int32)] [(.int (1 : Int32)), (.ref oa)])) rfl rfl (hb hby d31_19)
    have f7w := Fw.same W7
    have K7 : Keep h0 h7 [oa] := (Keep.refl h0 [oa]).wr W7 (Or.inl (List.mem_of_getElem? (i := 0) rfl))
    have N7 := Fr.snoc X7 N6 g_
    have sz7 : n0 ≤ h7.size := Nat.le_trans Z0 (Keep.of_wr W7).1
    have pre8 : ∀ t, own_K p e below m T7 22 #[rv oa, iv xi, iv (1 : Int32)] [] t → G t := by
      intro t k
      refine pre5 t ?_
      show own_K p e below m T3 9 #[rv oa, iv xi, iv (1 : Int32)] [(.int (1 : Int32)), (.int (own_wu xw))] _
      refine XS.icmpNo X3.here hx rfl (hb hby d31_9) rfl (tlt (own_wul hb9_4)).2.1 ?_
      show own_K p e below m T3 12 #[rv oa, iv xi, iv (1 : Int32)] [] _
      refine XS.aloadN X3.here hx rfl (hb hby d31_12) rfl rfl ?_
      show own_K p e below m T3 13 #[rv oa, iv xi, iv (1 : Int32)] [(.ref oa)] _
      refine XS.iloadN X3.here hx rfl (hb hby d31_13) rfl ?_
      show own_K p e below m T3 14 #[rv oa, iv xi, iv (1 : Int32)] [(.int (1 : Int32)), (.ref oa)] _
      refine st6.trans ?_
      show own_K p e below m T6 17 #[rv oa, iv xi, iv (1 : Int32)] [] _
      refine XS.aloadN X6.here hx rfl (hb hby d31_17) rfl rfl ?_
      show own_K p e below m T6 18 #[rv oa, iv xi, iv (1 : Int32)] [(.ref oa)] _
      refine XS.iloadN X6.here hx rfl (hb hby d31_18) rfl ?_
      show own_K p e below m T6 19 #[rv oa, iv xi, iv (1 : Int32)] [(.int (1 : Int32)), (.ref oa)] _
      refine st7 _ ?_
      exact k
    have f9 : Fld Z h7 oa "java/util/BitSet" "sizeIsSticky" "Z" uf_oa_sizeIsSticky := (F_oa_sizeIsSticky.other W7 (Or.inr (slot_ne (Or.inl (tw hw (i := 114) rfl)) (Or.inl (tw hw (i := 112) rfl)) (by decide) (t := .boolean) (t' := .int) (by decide) (by decide))))
    have f10 : Fld Z h7 oa "java/util/BitSet" "words" "[J" (.ref ow) := (Fx.other W7 (Or.inr (slot_ne (Or.inl (tw hw (i := 125) rfl)) (Or.inl (tw hw (i := 112) rfl)) (by decide) (t := (.array .long)) (t' := .int) (by decide) (by decide))))
    obtain ⟨fs, hr, hrun, hended, hW, hsame⟩ := X7.leave (v := none) (fun _ => rfl)
    refine ⟨_, _, hG _ (pre8 _ ?_), hrun, hended, _, _, rfl, ?_, ⟨_, rfl⟩, hW, hsame.mono (by decide) (by decide)⟩
    · show own_K p e below m T7 22 #[rv oa, iv xi, iv (1 : Int32)] [] _
      exact X7.returnOut hx Bd.returns (hb hby d31_22) hr
    · show Q31 Z oa xi xw ow kw uf_oa_sizeIsSticky h0 n0 _ T7.heap _
      rw [e7]
      exact ⟨rfl, N7, K7, f7w, f9, f10⟩
  · have pre11 : ∀ t, own_K p e below m T3 22 #[rv oa, iv xi, iv (1 : Int32)] [] t → G t := by
      intro t k
      refine pre5 t ?_
      show own_K p e below m T3 9 #[rv oa, iv xi, iv (1 : Int32)] [(.int (1 : Int32)), (.int (own_wu xw))] _
      refine XS.icmpYes X3.here hx rfl (pc0 := 9) (pc' := 22) rfl (hb hby d31_9) rfl (flt (own_wug hb9_4)).2.1 (by decide) (by decide) ?_
      exact k
    obtain ⟨fs, hr, hrun, hended, hW, hsame⟩ := X3.leave (v := none) (fun _ => rfl)
    refine ⟨_, _, hG _ (pre11 _ ?_), hrun, hended, _, _, rfl, ?_, ⟨_, rfl⟩, hW, hsame.mono (by decide) (by decide)⟩
    · show own_K p e below m T3 22 #[rv oa, iv xi, iv (1 : Int32)] [] _
      exact X3.returnOut hx Bd.returns (hb hby d31_22) hr
    · show Q31 Z oa xi xw ow kw uf_oa_sizeIsSticky h0 n0 _ T3.heap _
      rw [e3]
      exact ⟨rfl, N0, (Keep.refl h0 [oa]), (own_wun hb9_4 ▸ Fw), F_oa_sizeIsSticky, Fx⟩

theorem d30_0 : decode jdk_92_method_19_code 0 = .ok (.iload_n 1, 1) := by decide +kernel
theorem d30_1 : decode jdk_92_method_19_code 1 = .ok (.ifCond .ge 30, 3) := by decide +kernel
theorem d30_31 : decode jdk_92_method_19_code 31 = .ok (.iload_n 1, 1) := by decide +kernel
theorem d30_32 : decode jdk_92_method_19_code 32 = .ok (.invokestatic 52, 3) := by decide +kernel
theorem d30_35 : decode jdk_92_method_19_code 35 = .ok (.istore_n 2, 1) := by decide +kernel
theorem d30_36 : decode jdk_92_method_19_code 36 = .ok (.aload_n 0, 1) := by decide +kernel
theorem d30_37 : decode jdk_92_method_19_code 37 = .ok (.iload_n 2, 1) := by decide +kernel
theorem d30_38 : decode jdk_92_method_19_code 38 = .ok (.invokevirtual 155, 3) := by decide +kernel
theorem d30_41 : decode jdk_92_method_19_code 41 = .ok (.aload_n 0, 1) := by decide +kernel
theorem d30_42 : decode jdk_92_method_19_code 42 = .ok (.getfield 11, 3) := by decide +kernel
theorem d30_45 : decode jdk_92_method_19_code 45 = .ok (.iload_n 2, 1) := by decide +kernel
theorem d30_46 : decode jdk_92_method_19_code 46 = .ok (.dup2, 1) := by decide +kernel
theorem d30_47 : decode jdk_92_method_19_code 47 = .ok (.laload, 1) := by decide +kernel
theorem d30_48 : decode jdk_92_method_19_code 48 = .ok (.lconst 1, 1) := by decide +kernel
theorem d30_49 : decode jdk_92_method_19_code 49 = .ok (.iload_n 1, 1) := by decide +kernel
theorem d30_50 : decode jdk_92_method_19_code 50 = .ok (.lshl, 1) := by decide +kernel
theorem d30_51 : decode jdk_92_method_19_code 51 = .ok (.lor, 1) := by decide +kernel
theorem d30_52 : decode jdk_92_method_19_code 52 = .ok (.lastore, 1) := by decide +kernel
theorem d30_53 : decode jdk_92_method_19_code 53 = .ok (.aload_n 0, 1) := by decide +kernel
theorem d30_54 : decode jdk_92_method_19_code 54 = .ok (.invokevirtual 56, 3) := by decide +kernel
theorem d30_57 : decode jdk_92_method_19_code 57 = .ok (.return_, 1) := by decide +kernel
theorem ef_30 (m : MethodId) (x0 : Addr) (x1 : Int32) : entryFrame m #[(.ref x0), (.int x1)] 3 = mkF m 0 #[rv x0, iv x1, .unset] [] := by first | (simp [entryFrame, mkF, argsToLocals, Value.category]; done) | rfl
def Q30 (Z : State) (oa : Addr) (xi : Int32) (xw : Int64) (ow : Addr) (kw : ClassId) (el : Addr) (ea : Addr) (kE : ClassId) (uf_oa_sizeIsSticky : Value) (h0 : Heap) (n0 : Nat) (rv_ : Option Value) (h_ : Heap) (L_ : List Loc) : Prop := rv_ = none ∧ Fr n0 L_ ∧ Keep h0 h_ [oa, ow] ∧ Fld Z h_ oa "java/util/BitSet" "wordsInUse" "I" (.int (own_wu (xw ||| ((1 : Int64) <<< (xi &&& 0x3f).toInt64)))) ∧ Fld Z h_ oa "java/util/BitSet" "words" "[J" (.ref ow) ∧ Arv Z h_ ow kw .long (1 : Int32) [(.long (xw ||| ((1 : Int64) <<< (xi &&& 0x3f).toInt64)))] (.long (0 : Int64)) ∧ Fld Z h_ oa "java/util/BitSet" "sizeIsSticky" "Z" uf_oa_sizeIsSticky
set_option maxRecDepth 65536 in
set_option maxHeartbeats 40000000 in
theorem rm30 (l : Launch) (Z : State) (a0 : Array Value) (hw : ∀ d ∈ tables_1, d.before a0 Z = true) (ws : List Jvm.Cond) (oa : Addr) (xi : Int32) (xw : Int64) (ow : Addr) (kw : ClassId) (el : Addr) (ea : Addr) (kE : ClassId) (uf_oa_sizeIsSticky : Value) (h0 : Heap) (n0 : Nat) (Z0 : n0 ≤ h0.size) (E_ : Exa Z h0 oa "java/util/BitSet") (Fw : Fld Z h0 oa "java/util/BitSet" "wordsInUse" "I" (.int (own_wu xw))) (Fx : Fld Z h0 oa "java/util/BitSet" "words" "[J" (.ref ow)) (Vx : Arv Z h0 ow kw .long (1 : Int32) [(.long xw)] (.long (0 : Int64))) (hi : ¬ xi < (0 : Int32)) (hi2 : (xi >>> ((6 : Int32) &&& 31)) = (0 : Int32)) (g_ : n0 ≤ oa) (gw : n0 ≤ ow) (nw : oa ≠ ow) (O_ : Old Z n0 h0) (P_ : own_P Z el ea kE) (hor : (xw ||| ((1 : Int64) <<< (xi &&& 0x3f).toInt64)) ≠ (0 : Int64)) (F_oa_sizeIsSticky : Fld Z h0 oa "java/util/BitSet" "sizeIsSticky" "Z" uf_oa_sizeIsSticky) :
    MetFree l (⟨"java/util/BitSet", "set", "(I)V"⟩ : MethodName) (head1 (Jvm.Cond.code (⟨"java/util/BitSet", "set", "(I)V"⟩ : MethodName) jdk_92_method_19_code 3 none :: ws) ({ frames := 2, cells := 0, slots := 0, locals := 28 } : Room)) (fun a U => a = #[(.ref oa), (.int xi)] ∧ Z.Warmed39 U.vm ∧ U.heap = h0) (fun _ _ _ _ _ => True) (fun _ U o U' => ∃ v L, o = .returned v ∧ Q30 Z oa xi xw ow kw el ea kE uf_oa_sizeIsSticky h0 n0 v U'.heap L ∧ FrameEnd U o U' L ({ frames := 2, cells := 0, slots := 0, locals := 28 } : Room).cells ({ frames := 2, cells := 0, slots := 0, locals := 28 } : Room).slots) := by
  refine MetFree.of_bodySF (plainFor_of_name pn_7) hisR ?_
  intro p e s m args below meth c s₁ Bd hml0 hP hK
  obtain ⟨rfl, hZ, hh⟩ := hP
  have hx := Bd.exec
  have hby := Bd.bytes
  have hml : c.maxLocals = 3 := hml0
  have hown : s.vm.findClass "java/util/BitSet" = some m.cls := findClass_of_methodNamed Bd.named
  have hnm := (name_of_methodNamed Bd.named Bd.method).1
  have X0 : Stand p l e ({ frames := 2, cells := 0, slots := 0, locals := 28 } : Room) s m #[(.ref oa), (.int xi)] below meth c s₁ [] 0 0 := Stand.of_body Bd
  have e0 : s₁.heap = h0 := by rw [← hh, Bd.state]; rfl
  have N0 := Fr.nil n0
  obtain ⟨G, hG, pre0⟩ : ∃ G : State → Prop, (∀ t, G t → Steps p.tables e below (s₁.setTop (entryFrame m #[(.ref oa), (.int xi)] 3)) t) ∧ ∀ t, own_K p e below m s₁ 0 #[rv oa, iv xi, .unset] [] t → G t := ⟨fun t => Steps p.tables e below (s₁.setTop (entryFrame m #[(.ref oa), (.int xi)] 3)) t, fun _ k => k, fun t k => castTop (ef_30 m oa xi) k⟩
  obtain ⟨_, _, ⟨T1, L1, k1, n1⟩, -, X1, ⟨Lc1, hQ1, l1, y1, z1⟩, st1⟩ := Jvm.LawKit.callS X0 hx (y := (⟨"java/util/BitSet", "wordIndex", "(I)I"⟩ : MethodName)) hown (mvT hZ (tw hw (i := 120) rfl)) (mvT hZ (tw hw (i := 121) rfl)) (mvT hZ (tw hw (i := 106) rfl)) (mvT hZ (tw hw (i := 122) rfl)) (by decide) (backOf (W := 0) (rm15 l Z a0 hw [] xi h0 n0 Z0 ) hZ (tw hw (i := 122) rfl) (tw hw (i := 106) rfl) (by decide) (by decide)) (g := (mkF m 32 #[rv oa, iv xi, .unset] [(.int xi)])) rfl (by rw [hml]; rfl) (argsL := [(.int xi)]) (rest := []) (lenOf pd_8 rfl) rfl (by show 2 * 0 + _ ≤ _; exact Nat.le_of_eq rfl) (hb hby d30_32) (fun _ _ => ⟨rfl, e0, (by decide : 0 + 0 ≤ _), (by decide : 0 + 0 ≤ _)⟩)
  dsimp only [Pt.U, Pt.locs, Pt.cells, Pt.slots] at X1 l1 y1 z1 st1 hQ1
  subst l1 y1 z1
  obtain ⟨rfl, Nq1, eh1⟩ := hQ1
  have N1 := Fr.app N0 Nq1
  have pre2 : ∀ t, own_K p e below m T1 35 #[rv oa, iv xi, .unset] [(.int (xi >>> ((6 : Int32) &&& 31)))] t → G t := by
    intro t k
    refine pre0 t ?_
    show own_K p e below m s₁ 0 #[rv oa, iv xi, .unset] [] _
    refine XS.iloadN X0.here hx rfl (hb hby d30_0) rfl ?_
    show own_K p e below m s₁ 1 #[rv oa, iv xi, .unset] [(.int xi)] _
    refine XS.ifYes X0.here hx rfl (pc0 := 1) (pc' := 31) rfl (hb hby d30_1) rfl ((if0 _ _).trans (flt hi).2.1) (by decide) (by decide) ?_
    show own_K p e below m s₁ 31 #[rv oa, iv xi, .unset] [] _
    refine XS.iloadN X0.here hx rfl (hb hby d30_31) rfl ?_
    show own_K p e below m s₁ 32 #[rv oa, iv xi, .unset] [(.int xi)] _
    refine st1 _ ?_
    exact k
  have hq3 : (xi >>> ((6 : Int32) &&& 31)) = (0 : Int32) := hi2
  have pre3 : ∀ t, own_K p e below m T1 35 #[rv oa, iv xi, .unset] [(.int (0 : Int32))] t → G t := fun t k => pre2 t (by rw [hq3]; exact k)
  obtain ⟨cq4, q4, q4'⟩ := E_.cell
  obtain ⟨_, _, ⟨T4, L4, k4, n4⟩, -, X4, ⟨Lc4, hQ4, l4, y4, z4⟩, st4⟩ := X1.privateBack hx (y := (⟨"java/util/BitSet", "expandTo", "(I)V"⟩ : MethodName)) hown (mvT hZ (tw hw (i := 232) rfl)) (mvT hZ (tw hw (i := 233) rfl)) (mvT hZ (tw hw (i := 235) rfl)) (Cond.privateMethod_at (mvP hZ (tw hw (i := 234) rfl) (args := #[]))) (mvT hZ (tw hw (i := 236) rfl)) (by decide) (backOf (W := 0) (rm31 l Z a0 hw [] oa (0 : Int32) xw ow kw uf_oa_sizeIsSticky h0 n0 Z0 E_ Fw Fx Vx rfl g_ nw F_oa_sizeIsSticky) hZ (tw hw (i := 236) rfl) (tw hw (i := 106) rfl) (by decide) (by decide)) (g := (mkF m 38 #[rv oa, iv xi, iv (0 : Int32)] [(.int (0 : Int32)), (.ref oa)])) rfl (by rw [hml]; rfl) (Steps.refl _) (a := oa) (by rw [eh1]; exact q4) q4' (argsL := [(.int (0 : Int32))]) (rest := []) (lenOf pd_9 rfl) rfl (by show 2 * 0 + _ ≤ _; exact Nat.le_of_eq rfl) (hb hby d30_38) (fun _ _ => ⟨rfl, eh1, (by decide : 0 + 0 ≤ _), (by decide : 0 + 0 ≤ _)⟩)
  dsimp only [Pt.U, Pt.locs, Pt.cells, Pt.slots] at X4 l4 y4 z4 st4 hQ4
  subst l4 y4 z4
  obtain ⟨rfl, Nq4, Kc4, Fw2_4, P_oa_sizeIsSticky_4, P_oa_words_4⟩ := hQ4
  have N4 := Fr.app N1 Nq4
  have K4 : Keep h0 T4.heap [oa, ow] := (Keep.refl h0 [oa, ow]).trans Kc4 (allS (Or.inl (List.mem_of_getElem? (i := 0) rfl)) all0)
  have sz4 : n0 ≤ T4.heap.size := Nat.le_trans Z0 Kc4.1
  obtain ⟨T5, X5, e5, st5⟩ := getF X4 hx hZ hown (host := "") (Or.inl (tw hw (i := 124) rfl)) Via.refl rfl P_oa_words_4 (g := (mkF m 42 #[rv oa, iv xi, iv (0 : Int32)] [(.ref oa)])) rfl rfl (hb hby d30_42)
  have f7 : Arv Z T4.heap ow kw .long (1 : Int32) [(.long xw)] (.long (0 : Int64)) := (Vx.keep Kc4 (ninS (Ne.symm nw) nin0))
  obtain ⟨T8, h8, X8, e8, W8, V8, st8⟩ := own_las X5 hx hZ e5 f7 ⟨by decide, by decide⟩ (g := (mkF m 52 #[rv oa, iv xi, iv (0 : Int32)] [(.long (xw ||| ((1 : Int64) <<< (xi &&& 0x3f).toInt64))), (.int (0 : Int32)), (.ref ow)])) rfl rfl (hb hby d30_52) (i := 0) rfl (Nat.le_of_ble_eq_true rfl)
  have K8 : Keep h0 h8 [oa, ow] := K4.wr W8 (Or.inl (List.mem_of_getElem? (i := 1) rfl))
  have N8 := Fr.snoc X8 N4 gw
  have sz8 : n0 ≤ h8.size := Nat.le_trans sz4 (Keep.of_wr W8).1
  have Vw8 : Arv Z h8 ow kw .long (1 : Int32) [(.long (xw ||| ((1 : Int64) <<< (xi &&& 0x3f).toInt64)))] (.long (0 : Int64)) := V8
  have f10 : Old Z n0 h8 := ((O_.keep Kc4 (allS g_ all0)).wr W8 gw)
  have f11 : Exa Z h8 oa "java/util/BitSet" := ((E_.keep Kc4).wr W8)
  obtain ⟨cq9, q9, q9'⟩ := f11.cell
  obtain ⟨_, _, ⟨T9, L9, k9, n9⟩, -, X9, ⟨Lc9, hQ9, l9, y9, z9⟩, st9⟩ := X8.privateBack hx (y := (⟨"java/util/BitSet", "checkInvariants", "()V"⟩ : MethodName)) hown (mvT hZ (tw hw (i := 221) rfl)) (mvT hZ (tw hw (i := 222) rfl)) (mvT hZ (tw hw (i := 224) rfl)) (Cond.privateMethod_at (mvP hZ (tw hw (i := 223) rfl) (args := #[]))) (mvT hZ (tw hw (i := 225) rfl)) (by decide) (backOf (W := 0) (rm29 l Z a0 hw [] oa el ea kE h8 n0 sz8 f10 P_) hZ (tw hw (i := 225) rfl) (tw hw (i := 106) rfl) (by decide) (by decide)) (g := (mkF m 54 #[rv oa, iv xi, iv (0 : Int32)] [(.ref oa)])) rfl (by rw [hml]; rfl) (Steps.refl _) (a := oa) (by rw [e8]; exact q9) q9' (argsL := []) (rest := []) (lenOf pd_3 rfl) rfl (by show 2 * 0 + _ ≤ _; exact Nat.le_of_eq rfl) (hb hby d30_54) (fun _ _ => ⟨rfl, e8, (by decide : 0 + 0 ≤ _), (by decide : 0 + 0 ≤ _)⟩)
  dsimp only [Pt.U, Pt.locs, Pt.cells, Pt.slots] at X9 l9 y9 z9 st9 hQ9
  subst l9 y9 z9
  obtain ⟨rfl, Nq9, eh9⟩ := hQ9
  have N9 := Fr.app N8 Nq9
  have pre12 : ∀ t, own_K p e below m T9 57 #[rv oa, iv xi, iv (0 : Int32)] [] t → G t := by
    intro t k
    refine pre3 t ?_
    show own_K p e below m T1 35 #[rv oa, iv xi, .unset] [(.int (0 : Int32))] _
    refine XS.istoreN X1.here hx rfl (hb hby d30_35) rfl (l' := #[rv oa, iv xi, iv (0 : Int32)]) rfl ?_
    show own_K p e below m T1 36 #[rv oa, iv xi, iv (0 : Int32)] [] _
    refine XS.aloadN X1.here hx rfl (hb hby d30_36) rfl rfl ?_
    show own_K p e below m T1 37 #[rv oa, iv xi, iv (0 : Int32)] [(.ref oa)] _
    refine XS.iloadN X1.here hx rfl (hb hby d30_37) rfl ?_
    show own_K p e below m T1 38 #[rv oa, iv xi, iv (0 : Int32)] [(.int (0 : Int32)), (.ref oa)] _
    refine st4.trans ?_
    show own_K p e below m T4 41 #[rv oa, iv xi, iv (0 : Int32)] [] _
    refine XS.aloadN X4.here hx rfl (hb hby d30_41) rfl rfl ?_
    show own_K p e below m T4 42 #[rv oa, iv xi, iv (0 : Int32)] [(.ref oa)] _
    refine st5 _ ?_
    show own_K p e below m T5 45 #[rv oa, iv xi, iv (0 : Int32)] [(.ref ow)] _
    refine XS.iloadN X5.here hx rfl (hb hby d30_45) rfl ?_
    show own_K p e below m T5 46 #[rv oa, iv xi, iv (0 : Int32)] [(.int (0 : Int32)), (.ref ow)] _
    jvm_step X5.here [X5.here.top, hx, (hb hby d30_46), Value.category]
    show own_K p e below m T5 47 #[rv oa, iv xi, iv (0 : Int32)] [(.int (0 : Int32)), (.ref ow), (.int (0 : Int32)), (.ref ow)] _
    refine own_lal X5 hx hZ e5 f7 (v := (.long xw)) ⟨by decide, by decide⟩ rfl (g := (mkF m 47 #[rv oa, iv xi, iv (0 : Int32)] [(.int (0 : Int32)), (.ref ow), (.int (0 : Int32)), (.ref ow)])) rfl rfl (hb hby d30_47) _ ?_
    show own_K p e below m T5 48 #[rv oa, iv xi, iv (0 : Int32)] [(.long xw), (.int (0 : Int32)), (.ref ow)] _
    refine XS.lconst X5.here hx rfl (hb hby d30_48) ?_
    show own_K p e below m T5 49 #[rv oa, iv xi, iv (0 : Int32)] [(.long (1 : Int64)), (.long xw), (.int (0 : Int32)), (.ref ow)] _
    refine XS.iloadN X5.here hx rfl (hb hby d30_49) rfl ?_
    show own_K p e below m T5 50 #[rv oa, iv xi, iv (0 : Int32)] [(.int xi), (.long (1 : Int64)), (.long xw), (.int (0 : Int32)), (.ref ow)] _
    refine XS.lshl X5.here hx rfl (hb hby d30_50) rfl ?_
    show own_K p e below m T5 51 #[rv oa, iv xi, iv (0 : Int32)] [(.long ((1 : Int64) <<< (xi &&& 0x3f).toInt64)), (.long xw), (.int (0 : Int32)), (.ref ow)] _
    refine XS.lor X5.here hx rfl (hb hby d30_51) rfl ?_
    show own_K p e below m T5 52 #[rv oa, iv xi, iv (0 : Int32)] [(.long (xw ||| ((1 : Int64) <<< (xi &&& 0x3f).toInt64))), (.int (0 : Int32)), (.ref ow)] _
    refine st8 _ ?_
    show own_K p e below m T8 53 #[rv oa, iv xi, iv (0 : Int32)] [] _
    refine XS.aloadN X8.here hx rfl (hb hby d30_53) rfl rfl ?_
    show own_K p e below m T8 54 #[rv oa, iv xi, iv (0 : Int32)] [(.ref oa)] _
    refine st9.trans ?_
    exact k
  have f13 : Fld Z h8 oa "java/util/BitSet" "wordsInUse" "I" (.int (1 : Int32)) := (Fw2_4.other W8 (Or.inl nw))
  have f14 : Fld Z h8 oa "java/util/BitSet" "words" "[J" (.ref ow) := (P_oa_words_4.other W8 (Or.inl nw))
  have f15 : Fld Z h8 oa "java/util/BitSet" "sizeIsSticky" "Z" uf_oa_sizeIsSticky := (P_oa_sizeIsSticky_4.other W8 (Or.inl nw))
  obtain ⟨fs, hr, hrun, hended, hW, hsame⟩ := X9.leave (v := none) (fun _ => rfl)
  refine ⟨_, _, hG _ (pre12 _ ?_), hrun, hended, _, _, rfl, ?_, ⟨_, rfl⟩, hW, hsame.mono (by decide) (by decide)⟩
  · show own_K p e below m T9 57 #[rv oa, iv xi, iv (0 : Int32)] [] _
    exact X9.returnOut hx Bd.returns (hb hby d30_57) hr
  · show Q30 Z oa xi xw ow kw el ea kE uf_oa_sizeIsSticky h0 n0 _ T9.heap _
    rw [eh9]
    exact ⟨rfl, N9, K8, ((own_wun hor).symm ▸ f13), f14, Vw8, f15⟩

theorem d35_0 : decode jdk_92_method_3_code 0 = .ok (.aload_n 0, 1) := by decide +kernel
theorem d35_1 : decode jdk_92_method_3_code 1 = .ok (.getfield 7, 3) := by decide +kernel
theorem d35_4 : decode jdk_92_method_3_code 4 = .ok (.iconst 1, 1) := by decide +kernel
theorem d35_5 : decode jdk_92_method_3_code 5 = .ok (.isub, 1) := by decide +kernel
theorem d35_6 : decode jdk_92_method_3_code 6 = .ok (.istore_n 1, 1) := by decide +kernel
theorem d35_7 : decode jdk_92_method_3_code 7 = .ok (.iload_n 1, 1) := by decide +kernel
theorem d35_8 : decode jdk_92_method_3_code 8 = .ok (.ifCond .lt 23, 3) := by decide +kernel
theorem d35_11 : decode jdk_92_method_3_code 11 = .ok (.aload_n 0, 1) := by decide +kernel
theorem d35_12 : decode jdk_92_method_3_code 12 = .ok (.getfield 11, 3) := by decide +kernel
theorem d35_15 : decode jdk_92_method_3_code 15 = .ok (.iload_n 1, 1) := by decide +kernel
theorem d35_16 : decode jdk_92_method_3_code 16 = .ok (.laload, 1) := by decide +kernel
theorem d35_17 : decode jdk_92_method_3_code 17 = .ok (.lconst 0, 1) := by decide +kernel
theorem d35_18 : decode jdk_92_method_3_code 18 = .ok (.lcmp, 1) := by decide +kernel
theorem d35_19 : decode jdk_92_method_3_code 19 = .ok (.ifCond .eq 6, 3) := by decide +kernel
theorem d35_25 : decode jdk_92_method_3_code 25 = .ok (.iinc 1 (-1), 3) := by decide +kernel
theorem d35_28 : decode jdk_92_method_3_code 28 = .ok (.goto (-21), 3) := by decide +kernel
theorem d35_31 : decode jdk_92_method_3_code 31 = .ok (.aload_n 0, 1) := by decide +kernel
theorem d35_32 : decode jdk_92_method_3_code 32 = .ok (.iload_n 1, 1) := by decide +kernel
theorem d35_33 : decode jdk_92_method_3_code 33 = .ok (.iconst 1, 1) := by decide +kernel
theorem d35_34 : decode jdk_92_method_3_code 34 = .ok (.iadd, 1) := by decide +kernel
theorem d35_35 : decode jdk_92_method_3_code 35 = .ok (.putfield 7, 3) := by decide +kernel
theorem d35_38 : decode jdk_92_method_3_code 38 = .ok (.return_, 1) := by decide +kernel
theorem d35_22 : decode jdk_92_method_3_code 22 = .ok (.goto 9, 3) := by decide +kernel
theorem ef_35 (m : MethodId) (x0 : Addr) : entryFrame m #[(.ref x0)] 2 = mkF m 0 #[rv x0, .unset] [] := by first | (simp [entryFrame, mkF, argsToLocals, Value.category]; done) | rfl
def Q35 (Z : State) (oa : Addr) (xw : Int64) (ow : Addr) (kw : ClassId) (uf_oa_sizeIsSticky : Value) (h0 : Heap) (n0 : Nat) (rv_ : Option Value) (h_ : Heap) (L_ : List Loc) : Prop := rv_ = none ∧ Fr n0 L_ ∧ Keep h0 h_ [oa] ∧ Fld Z h_ oa "java/util/BitSet" "wordsInUse" "I" (.int (own_wu xw)) ∧ Fld Z h_ oa "java/util/BitSet" "sizeIsSticky" "Z" uf_oa_sizeIsSticky ∧ Fld Z h_ oa "java/util/BitSet" "words" "[J" (.ref ow)
set_option maxRecDepth 65536 in
set_option maxHeartbeats 40000000 in
theorem rm35 (l : Launch) (Z : State) (a0 : Array Value) (hw : ∀ d ∈ tables_1, d.before a0 Z = true) (ws : List Jvm.Cond) (oa : Addr) (xw : Int64) (ow : Addr) (kw : ClassId) (uf_oa_sizeIsSticky : Value) (h0 : Heap) (n0 : Nat) (Z0 : n0 ≤ h0.size) (E_ : Exa Z h0 oa "java/util/BitSet") (Fw : Fld Z h0 oa "java/util/BitSet" "wordsInUse" "I" (.int (1 : Int32))) (Fx : Fld Z h0 oa "java/util/BitSet" "words" "[J" (.ref ow)) (Vx : Arv Z h0 ow kw .long (1 : Int32) [(.long xw)] (.long (0 : Int64))) (g_ : n0 ≤ oa) (nw : oa ≠ ow) (F_oa_sizeIsSticky : Fld Z h0 oa "java/util/BitSet" "sizeIsSticky" "Z" uf_oa_sizeIsSticky) :
    MetFree l (⟨"java/util/BitSet", "recalculateWordsInUse", "()V"⟩ : MethodName) (head1 (Jvm.Cond.code (⟨"java/util/BitSet", "recalculateWordsInUse", "()V"⟩ : MethodName) jdk_92_method_3_code 2 none :: ws) ({ frames := 0, cells := 0, slots := 0, locals := 0 } : Room)) (fun a U => a = #[(.ref oa)] ∧ Z.Warmed39 U.vm ∧ U.heap = h0) (fun _ _ _ _ _ => True) (fun _ U o U' => ∃ v L, o = .returned v ∧ Q35 Z oa xw ow kw uf_oa_sizeIsSticky h0 n0 v U'.heap L ∧ FrameEnd U o U' L ({ frames := 0, cells := 0, slots := 0, locals := 0 } : Room).cells ({ frames := 0, cells := 0, slots := 0, locals := 0 } : Room).slots) := by
  refine MetFree.of_bodySF (plainFor_of_name pn_7) hisR ?_
  intro p e s m args below meth c s₁ Bd hml0 hP hK
  obtain ⟨rfl, hZ, hh⟩ := hP
  have hx := Bd.exec
  have hby := Bd.bytes
  have hml : c.maxLocals = 2 := hml0
  have hown : s.vm.findClass "java/util/BitSet" = some m.cls := findClass_of_methodNamed Bd.named
  have hnm := (name_of_methodNamed Bd.named Bd.method).1
  have X0 : Stand p l e ({ frames := 0, cells := 0, slots := 0, locals := 0 } : Room) s m #[(.ref oa)] below meth c s₁ [] 0 0 := Stand.of_body Bd
  have e0 : s₁.heap = h0 := by rw [← hh, Bd.state]; rfl
  have N0 := Fr.nil n0
  obtain ⟨G, hG, pre0⟩ : ∃ G : State → Prop, (∀ t, G t → Steps p.tables e below (s₁.setTop (entryFrame m #[(.ref oa)] 2)) t) ∧ ∀ t, own_K p e below m s₁ 0 #[rv oa, .unset] [] t → G t := ⟨fun t => Steps p.tables e below (s₁.setTop (entryFrame m #[(.ref oa)] 2)) t, fun _ k => k, fun t k => castTop (ef_35 m oa) k⟩
  obtain ⟨T1, X1, e1, st1⟩ := getF X0 hx hZ hown (host := "") (Or.inl (tw hw (i := 111) rfl)) Via.refl e0 Fw (g := (mkF m 1 #[rv oa, .unset] [(.ref oa)])) rfl rfl (hb hby d35_1)
  have pre2 : ∀ t, own_K p e below m T1 6 #[rv oa, .unset] [(.int ((1 : Int32) - (1 : Int32)))] t → G t := by
    intro t k
    refine pre0 t ?_
    show own_K p e below m s₁ 0 #[rv oa, .unset] [] _
    refine XS.aloadN X0.here hx rfl (hb hby d35_0) rfl rfl ?_
    show own_K p e below m s₁ 1 #[rv oa, .unset] [(.ref oa)] _
    refine st1 _ ?_
    show own_K p e below m T1 4 #[rv oa, .unset] [(.int (1 : Int32))] _
    refine XS.iconst X1.here hx rfl (hb hby d35_4) ?_
    show own_K p e below m T1 5 #[rv oa, .unset] [(.int (1 : Int32)), (.int (1 : Int32))] _
    refine XS.isub X1.here hx rfl (hb hby d35_5) rfl ?_
    exact k
  have hq3 : ((1 : Int32) - (1 : Int32)) = (0 : Int32) := (by decide)
  have pre3 : ∀ t, own_K p e below m T1 6 #[rv oa, .unset] [(.int (0 : Int32))] t → G t := fun t k => pre2 t (by rw [hq3]; exact k)
  obtain ⟨T4, X4, e4, st4⟩ := getF X1 hx hZ hown (host := "") (Or.inl (tw hw (i := 124) rfl)) Via.refl e1 Fx (g := (mkF m 12 #[rv oa, iv (0 : Int32)] [(.ref oa)])) rfl rfl (hb hby d35_12)
  have pre6 : ∀ t, own_K p e below m T4 19 #[rv oa, iv (0 : Int32)] [(.int (lcmpW xw (0 : Int64)))] t → G t := by
    intro t k
    refine pre3 t ?_
    show own_K p e below m T1 6 #[rv oa, .unset] [(.int (0 : Int32))] _
    refine XS.istoreN X1.here hx rfl (hb hby d35_6) rfl (l' := #[rv oa, iv (0 : Int32)]) rfl ?_
    show own_K p e below m T1 7 #[rv oa, iv (0 : Int32)] [] _
    refine XS.iloadN X1.here hx rfl (hb hby d35_7) rfl ?_
    show own_K p e below m T1 8 #[rv oa, iv (0 : Int32)] [(.int (0 : Int32))] _
    refine XS.ifNo X1.here hx rfl (hb hby d35_8) rfl ((if0 _ _).trans (flt (by decide : ¬ ((0 : Int32) < (0 : Int32)))).1) ?_
    show own_K p e below m T1 11 #[rv oa, iv (0 : Int32)] [] _
    refine XS.aloadN X1.here hx rfl (hb hby d35_11) rfl rfl ?_
    show own_K p e below m T1 12 #[rv oa, iv (0 : Int32)] [(.ref oa)] _
    refine st4 _ ?_
    show own_K p e below m T4 15 #[rv oa, iv (0 : Int32)] [(.ref ow)] _
    refine XS.iloadN X4.here hx rfl (hb hby d35_15) rfl ?_
    show own_K p e below m T4 16 #[rv oa, iv (0 : Int32)] [(.int (0 : Int32)), (.ref ow)] _
    refine own_lal X4 hx hZ e4 Vx (v := (.long xw)) ⟨by decide, by decide⟩ rfl (g := (mkF m 16 #[rv oa, iv (0 : Int32)] [(.int (0 : Int32)), (.ref ow)])) rfl rfl (hb hby d35_16) _ ?_
    show own_K p e below m T4 17 #[rv oa, iv (0 : Int32)] [(.long xw)] _
    refine XS.lconst X4.here hx rfl (hb hby d35_17) ?_
    show own_K p e below m T4 18 #[rv oa, iv (0 : Int32)] [(.long (0 : Int64)), (.long xw)] _
    refine XS.lcmp X4.here hx rfl (hb hby d35_18) rfl ?_
    exact k
  by_cases hc19_7 : xw = (0 : Int64)
  · have pre8 : ∀ t, own_K p e below m T4 35 #[rv oa, iv ((0 : Int32) + (-1 : Int32))] [(.int (((0 : Int32) + (-1 : Int32)) + (1 : Int32))), (.ref oa)] t → G t := by
      intro t k
      refine pre6 t ?_
      show own_K p e below m T4 19 #[rv oa, iv (0 : Int32)] [(.int (lcmpW xw (0 : Int64)))] _
      refine XS.ifYes X4.here hx rfl (pc0 := 19) (pc' := 25) rfl (hb hby d35_19) rfl ((if0 _ _).trans (teq ((lw_eq _ _).mpr hc19_7)).1) (by decide) (by decide) ?_
      show own_K p e below m T4 25 #[rv oa, iv (0 : Int32)] [] _
      refine XS.iinc X4.here hx rfl (hb hby d35_25) rfl (l' := #[rv oa, iv ((0 : Int32) + (-1 : Int32))]) rfl ?_
      show own_K p e below m T4 28 #[rv oa, iv ((0 : Int32) + (-1 : Int32))] [] _
      refine XS.goto X4.here hx rfl (pc0 := 28) (pc' := 7) rfl (hb hby d35_28) (by decide) (by decide) ?_
      show own_K p e below m T4 7 #[rv oa, iv ((0 : Int32) + (-1 : Int32))] [] _
      refine XS.iloadN X4.here hx rfl (hb hby d35_7) rfl ?_
      show own_K p e below m T4 8 #[rv oa, iv ((0 : Int32) + (-1 : Int32))] [(.int ((0 : Int32) + (-1 : Int32)))] _
      refine XS.ifYes X4.here hx rfl (pc0 := 8) (pc' := 31) rfl (hb hby d35_8) rfl ((if0 _ _).trans (tlt (by decide)).1) (by decide) (by decide) ?_
      show own_K p e below m T4 31 #[rv oa, iv ((0 : Int32) + (-1 : Int32))] [] _
      refine XS.aloadN X4.here hx rfl (hb hby d35_31) rfl rfl ?_
      show own_K p e below m T4 32 #[rv oa, iv ((0 : Int32) + (-1 : Int32))] [(.ref oa)] _
      refine XS.iloadN X4.here hx rfl (hb hby d35_32) rfl ?_
      show own_K p e below m T4 33 #[rv oa, iv ((0 : Int32) + (-1 : Int32))] [(.int ((0 : Int32) + (-1 : Int32))), (.ref oa)] _
      refine XS.iconst X4.here hx rfl (hb hby d35_33) ?_
      show own_K p e below m T4 34 #[rv oa, iv ((0 : Int32) + (-1 : Int32))] [(.int (1 : Int32)), (.int ((0 : Int32) + (-1 : Int32))), (.ref oa)] _
      refine XS.iadd X4.here hx rfl (hb hby d35_34) rfl ?_
      exact k
    have hq9 : (((0 : Int32) + (-1 : Int32)) + (1 : Int32)) = (own_wu xw) := (by rw [own_wuz hc19_7]; decide)
    have pre9 : ∀ t, own_K p e below m T4 35 #[rv oa, iv ((0 : Int32) + (-1 : Int32))] [(.int (own_wu xw)), (.ref oa)] t → G t := fun t k => pre8 t (by rw [hq9]; exact k)
    obtain ⟨T10, h10, X10, e10, W10, st10⟩ := putF X4 hx hZ hown (host := "") (Or.inl (tw hw (i := 111) rfl)) Via.refl e4 Fw E_ (Or.inl (tw hw (i := 112) rfl)) (tw hw (i := 105) rfl) (ty := .int) (by decide) rfl rfl (g := (mkF m 35 #[rv oa, iv ((0 : Int32) + (-1 : Int32))] [(.int (own_wu xw)), (.ref oa)])) rfl rfl (hb hby d35_35)
    have f10w := Fw.same W10
    have K10 : Keep h0 h10 [oa] := (Keep.refl h0 [oa]).wr W10 (Or.inl (List.mem_of_getElem? (i := 0) rfl))
    have N10 := Fr.snoc X10 N0 g_
    have sz10 : n0 ≤ h10.size := Nat.le_trans Z0 (Keep.of_wr W10).1
    have pre11 : ∀ t, own_K p e below m T10 38 #[rv oa, iv ((0 : Int32) + (-1 : Int32))] [] t → G t := by
      intro t k
      refine pre9 t ?_
      show own_K p e below m T4 35 #[rv oa, iv ((0 : Int32) + (-1 : Int32))] [(.int (own_wu xw)), (.ref oa)] _
      refine st10 _ ?_
      exact k
    have f12 : Fld Z h10 oa "java/util/BitSet" "sizeIsSticky" "Z" uf_oa_sizeIsSticky := (F_oa_sizeIsSticky.other W10 (Or.inr (slot_ne (Or.inl (tw hw (i := 114) rfl)) (Or.inl (tw hw (i := 112) rfl)) (by decide) (t := .boolean) (t' := .int) (by decide) (by decide))))
    have f13 : Fld Z h10 oa "java/util/BitSet" "words" "[J" (.ref ow) := (Fx.other W10 (Or.inr (slot_ne (Or.inl (tw hw (i := 125) rfl)) (Or.inl (tw hw (i := 112) rfl)) (by decide) (t := (.array .long)) (t' := .int) (by decide) (by decide))))
    obtain ⟨fs, hr, hrun, hended, hW, hsame⟩ := X10.leave (v := none) (fun _ => rfl)
    refine ⟨_, _, hG _ (pre11 _ ?_), hrun, hended, _, _, rfl, ?_, ⟨_, rfl⟩, hW, hsame.mono (by decide) (by decide)⟩
    · show own_K p e below m T10 38 #[rv oa, iv ((0 : Int32) + (-1 : Int32))] [] _
      exact X10.returnOut hx Bd.returns (hb hby d35_38) hr
    · show Q35 Z oa xw ow kw uf_oa_sizeIsSticky h0 n0 _ T10.heap _
      rw [e10]
      exact ⟨rfl, N10, K10, f10w, f12, f13⟩
  · have pre14 : ∀ t, own_K p e below m T4 35 #[rv oa, iv (0 : Int32)] [(.int ((0 : Int32) + (1 : Int32))), (.ref oa)] t → G t := by
      intro t k
      refine pre6 t ?_
      show own_K p e below m T4 19 #[rv oa, iv (0 : Int32)] [(.int (lcmpW xw (0 : Int64)))] _
      refine XS.ifNo X4.here hx rfl (hb hby d35_19) rfl ((if0 _ _).trans (feq (mt (lw_eq _ _).mp hc19_7)).1) ?_
      show own_K p e below m T4 22 #[rv oa, iv (0 : Int32)] [] _
      refine XS.goto X4.here hx rfl (pc0 := 22) (pc' := 31) rfl (hb hby d35_22) (by decide) (by decide) ?_
      show own_K p e below m T4 31 #[rv oa, iv (0 : Int32)] [] _
      refine XS.aloadN X4.here hx rfl (hb hby d35_31) rfl rfl ?_
      show own_K p e below m T4 32 #[rv oa, iv (0 : Int32)] [(.ref oa)] _
      refine XS.iloadN X4.here hx rfl (hb hby d35_32) rfl ?_
      show own_K p e below m T4 33 #[rv oa, iv (0 : Int32)] [(.int (0 : Int32)), (.ref oa)] _
      refine XS.iconst X4.here hx rfl (hb hby d35_33) ?_
      show own_K p e below m T4 34 #[rv oa, iv (0 : Int32)] [(.int (1 : Int32)), (.int (0 : Int32)), (.ref oa)] _
      refine XS.iadd X4.here hx rfl (hb hby d35_34) rfl ?_
      exact k
    have hq15 : ((0 : Int32) + (1 : Int32)) = (own_wu xw) := (by rw [own_wun hc19_7]; decide)
    have pre15 : ∀ t, own_K p e below m T4 35 #[rv oa, iv (0 : Int32)] [(.int (own_wu xw)), (.ref oa)] t → G t := fun t k => pre14 t (by rw [hq15]; exact k)
    obtain ⟨T16, h16, X16, e16, W16, st16⟩ := putF X4 hx hZ hown (host := "") (Or.inl (tw hw (i := 111) rfl)) Via.refl e4 Fw E_ (Or.inl (tw hw (i := 112) rfl)) (tw hw (i := 105) rfl) (ty := .int) (by decide) rfl rfl (g := (mkF m 35 #[rv oa, iv (0 : Int32)] [(.int (own_wu xw)), (.ref oa)])) rfl rfl (hb hby d35_35)
    have f16w := Fw.same W16
    have K16 : Keep h0 h16 [oa] := (Keep.refl h0 [oa]).wr W16 (Or.inl (List.mem_of_getElem? (i := 0) rfl))
    have N16 := Fr.snoc X16 N0 g_
    have sz16 : n0 ≤ h16.size := Nat.le_trans Z0 (Keep.of_wr W16).1
    have pre17 : ∀ t, own_K p e below m T16 38 #[rv oa, iv (0 : Int32)] [] t → G t := by
      intro t k
      refine pre15 t ?_
      show own_K p e below m T4 35 #[rv oa, iv (0 : Int32)] [(.int (own_wu xw)), (.ref oa)] _
      refine st16 _ ?_
      exact k
    have f18 : Fld Z h16 oa "java/util/BitSet" "sizeIsSticky" "Z" uf_oa_sizeIsSticky := (F_oa_sizeIsSticky.other W16 (Or.inr (slot_ne (Or.inl (tw hw (i := 114) rfl)) (Or.inl (tw hw (i := 112) rfl)) (by decide) (t := .boolean) (t' := .int) (by decide) (by decide))))
    have f19 : Fld Z h16 oa "java/util/BitSet" "words" "[J" (.ref ow) := (Fx.other W16 (Or.inr (slot_ne (Or.inl (tw hw (i := 125) rfl)) (Or.inl (tw hw (i := 112) rfl)) (by decide) (t := (.array .long)) (t' := .int) (by decide) (by decide))))
    obtain ⟨fs, hr, hrun, hended, hW, hsame⟩ := X16.leave (v := none) (fun _ => rfl)
    refine ⟨_, _, hG _ (pre17 _ ?_), hrun, hended, _, _, rfl, ?_, ⟨_, rfl⟩, hW, hsame.mono (by decide) (by decide)⟩
    · show own_K p e below m T16 38 #[rv oa, iv (0 : Int32)] [] _
      exact X16.returnOut hx Bd.returns (hb hby d35_38) hr
    · show Q35 Z oa xw ow kw uf_oa_sizeIsSticky h0 n0 _ T16.heap _
      rw [e16]
      exact ⟨rfl, N16, K16, f16w, f18, f19⟩

theorem d34_0 : decode jdk_92_method_23_code 0 = .ok (.iload_n 1, 1) := by decide +kernel
theorem d34_1 : decode jdk_92_method_23_code 1 = .ok (.ifCond .ge 30, 3) := by decide +kernel
theorem d34_31 : decode jdk_92_method_23_code 31 = .ok (.iload_n 1, 1) := by decide +kernel
theorem d34_32 : decode jdk_92_method_23_code 32 = .ok (.invokestatic 52, 3) := by decide +kernel
theorem d34_35 : decode jdk_92_method_23_code 35 = .ok (.istore_n 2, 1) := by decide +kernel
theorem d34_36 : decode jdk_92_method_23_code 36 = .ok (.iload_n 2, 1) := by decide +kernel
theorem d34_37 : decode jdk_92_method_23_code 37 = .ok (.aload_n 0, 1) := by decide +kernel
theorem d34_38 : decode jdk_92_method_23_code 38 = .ok (.getfield 7, 3) := by decide +kernel
theorem d34_41 : decode jdk_92_method_23_code 41 = .ok (.if_icmp .lt 4, 3) := by decide +kernel
theorem d34_45 : decode jdk_92_method_23_code 45 = .ok (.aload_n 0, 1) := by decide +kernel
theorem d34_46 : decode jdk_92_method_23_code 46 = .ok (.getfield 11, 3) := by decide +kernel
theorem d34_49 : decode jdk_92_method_23_code 49 = .ok (.iload_n 2, 1) := by decide +kernel
theorem d34_50 : decode jdk_92_method_23_code 50 = .ok (.dup2, 1) := by decide +kernel
theorem d34_51 : decode jdk_92_method_23_code 51 = .ok (.laload, 1) := by decide +kernel
theorem d34_52 : decode jdk_92_method_23_code 52 = .ok (.lconst 1, 1) := by decide +kernel
theorem d34_53 : decode jdk_92_method_23_code 53 = .ok (.iload_n 1, 1) := by decide +kernel
theorem d34_54 : decode jdk_92_method_23_code 54 = .ok (.lshl, 1) := by decide +kernel
theorem d34_55 : decode jdk_92_method_23_code 55 = .ok (.ldc2_w 165, 3) := by decide +kernel
theorem d34_58 : decode jdk_92_method_23_code 58 = .ok (.lxor, 1) := by decide +kernel
theorem d34_59 : decode jdk_92_method_23_code 59 = .ok (.land, 1) := by decide +kernel
theorem d34_60 : decode jdk_92_method_23_code 60 = .ok (.lastore, 1) := by decide +kernel
theorem d34_61 : decode jdk_92_method_23_code 61 = .ok (.aload_n 0, 1) := by decide +kernel
theorem d34_62 : decode jdk_92_method_23_code 62 = .ok (.invokevirtual 158, 3) := by decide +kernel
theorem d34_65 : decode jdk_92_method_23_code 65 = .ok (.aload_n 0, 1) := by decide +kernel
theorem d34_66 : decode jdk_92_method_23_code 66 = .ok (.invokevirtual 56, 3) := by decide +kernel
theorem d34_69 : decode jdk_92_method_23_code 69 = .ok (.return_, 1) := by decide +kernel
theorem ef_34 (m : MethodId) (x0 : Addr) (x1 : Int32) : entryFrame m #[(.ref x0), (.int x1)] 3 = mkF m 0 #[rv x0, iv x1, .unset] [] := by first | (simp [entryFrame, mkF, argsToLocals, Value.category]; done) | rfl
def Q34 (Z : State) (oa : Addr) (xi : Int32) (xw : Int64) (ow : Addr) (kw : ClassId) (el : Addr) (ea : Addr) (kE : ClassId) (uf_oa_sizeIsSticky : Value) (h0 : Heap) (n0 : Nat) (rv_ : Option Value) (h_ : Heap) (L_ : List Loc) : Prop := rv_ = none ∧ Fr n0 L_ ∧ Keep h0 h_ [oa, ow] ∧ Fld Z h_ oa "java/util/BitSet" "wordsInUse" "I" (.int (own_wu (xw &&& (((1 : Int64) <<< (xi &&& 0x3f).toInt64) ^^^ (-1 : Int64))))) ∧ Fld Z h_ oa "java/util/BitSet" "words" "[J" (.ref ow) ∧ Arv Z h_ ow kw .long (1 : Int32) [(.long (xw &&& (((1 : Int64) <<< (xi &&& 0x3f).toInt64) ^^^ (-1 : Int64))))] (.long (0 : Int64)) ∧ Fld Z h_ oa "java/util/BitSet" "sizeIsSticky" "Z" uf_oa_sizeIsSticky
set_option maxRecDepth 65536 in
set_option maxHeartbeats 40000000 in
theorem rm34 (l : Launch) (Z : State) (a0 : Array Value) (hw : ∀ d ∈ tables_1, d.before a0 Z = true) (ws : List Jvm.Cond) (oa : Addr) (xi : Int32) (xw : Int64) (ow : Addr) (kw : ClassId) (el : Addr) (ea : Addr) (kE : ClassId) (uf_oa_sizeIsSticky : Value) (h0 : Heap) (n0 : Nat) (Z0 : n0 ≤ h0.size) (E_ : Exa Z h0 oa "java/util/BitSet") (Fw : Fld Z h0 oa "java/util/BitSet" "wordsInUse" "I" (.int (own_wu xw))) (Fx : Fld Z h0 oa "java/util/BitSet" "words" "[J" (.ref ow)) (Vx : Arv Z h0 ow kw .long (1 : Int32) [(.long xw)] (.long (0 : Int64))) (hi : ¬ xi < (0 : Int32)) (hi2 : (xi >>> ((6 : Int32) &&& 31)) = (0 : Int32)) (g_ : n0 ≤ oa) (gw : n0 ≤ ow) (nw : oa ≠ ow) (O_ : Old Z n0 h0) (P_ : own_P Z el ea kE) (hxw : ¬ xw = (0 : Int64)) (F_oa_sizeIsSticky : Fld Z h0 oa "java/util/BitSet" "sizeIsSticky" "Z" uf_oa_sizeIsSticky) :
    MetFree l (⟨"java/util/BitSet", "clear", "(I)V"⟩ : MethodName) (head1 (Jvm.Cond.code (⟨"java/util/BitSet", "clear", "(I)V"⟩ : MethodName) jdk_92_method_23_code 3 none :: ws) ({ frames := 1, cells := 0, slots := 0, locals := 13 } : Room)) (fun a U => a = #[(.ref oa), (.int xi)] ∧ Z.Warmed39 U.vm ∧ U.heap = h0) (fun _ _ _ _ _ => True) (fun _ U o U' => ∃ v L, o = .returned v ∧ Q34 Z oa xi xw ow kw el ea kE uf_oa_sizeIsSticky h0 n0 v U'.heap L ∧ FrameEnd U o U' L ({ frames := 1, cells := 0, slots := 0, locals := 13 } : Room).cells ({ frames := 1, cells := 0, slots := 0, locals := 13 } : Room).slots) := by
  refine MetFree.of_bodySF (plainFor_of_name pn_7) hisR ?_
  intro p e s m args below meth c s₁ Bd hml0 hP hK
  obtain ⟨rfl, hZ, hh⟩ := hP
  have hx := Bd.exec
  have hby := Bd.bytes
  have hml : c.maxLocals = 3 := hml0
  have hown : s.vm.findClass "java/util/BitSet" = some m.cls := findClass_of_methodNamed Bd.named
  have hnm := (name_of_methodNamed Bd.named Bd.method).1
  have X0 : Stand p l e ({ frames := 1, cells := 0, slots := 0, locals := 13 } : Room) s m #[(.ref oa), (.int xi)] below meth c s₁ [] 0 0 := Stand.of_body Bd
  have e0 : s₁.heap = h0 := by rw [← hh, Bd.state]; rfl
  have N0 := Fr.nil n0
  obtain ⟨G, hG, pre0⟩ : ∃ G : State → Prop, (∀ t, G t → Steps p.tables e below (s₁.setTop (entryFrame m #[(.ref oa), (.int xi)] 3)) t) ∧ ∀ t, own_K p e below m s₁ 0 #[rv oa, iv xi, .unset] [] t → G t := ⟨fun t => Steps p.tables e below (s₁.setTop (entryFrame m #[(.ref oa), (.int xi)] 3)) t, fun _ k => k, fun t k => castTop (ef_34 m oa xi) k⟩
  obtain ⟨_, _, ⟨T1, L1, k1, n1⟩, -, X1, ⟨Lc1, hQ1, l1, y1, z1⟩, st1⟩ := Jvm.LawKit.callS X0 hx (y := (⟨"java/util/BitSet", "wordIndex", "(I)I"⟩ : MethodName)) hown (mvT hZ (tw hw (i := 120) rfl)) (mvT hZ (tw hw (i := 121) rfl)) (mvT hZ (tw hw (i := 106) rfl)) (mvT hZ (tw hw (i := 122) rfl)) (by decide) (backOf (W := 0) (rm15 l Z a0 hw [] xi h0 n0 Z0 ) hZ (tw hw (i := 122) rfl) (tw hw (i := 106) rfl) (by decide) (by decide)) (g := (mkF m 32 #[rv oa, iv xi, .unset] [(.int xi)])) rfl (by rw [hml]; rfl) (argsL := [(.int xi)]) (rest := []) (lenOf pd_8 rfl) rfl (by show 2 * 0 + _ ≤ _; exact Nat.le_of_eq rfl) (hb hby d34_32) (fun _ _ => ⟨rfl, e0, (by decide : 0 + 0 ≤ _), (by decide : 0 + 0 ≤ _)⟩)
  dsimp only [Pt.U, Pt.locs, Pt.cells, Pt.slots] at X1 l1 y1 z1 st1 hQ1
  subst l1 y1 z1
  obtain ⟨rfl, Nq1, eh1⟩ := hQ1
  have N1 := Fr.app N0 Nq1
  have pre2 : ∀ t, own_K p e below m T1 35 #[rv oa, iv xi, .unset] [(.int (xi >>> ((6 : Int32) &&& 31)))] t → G t := by
    intro t k
    refine pre0 t ?_
    show own_K p e below m s₁ 0 #[rv oa, iv xi, .unset] [] _
    refine XS.iloadN X0.here hx rfl (hb hby d34_0) rfl ?_
    show own_K p e below m s₁ 1 #[rv oa, iv xi, .unset] [(.int xi)] _
    refine XS.ifYes X0.here hx rfl (pc0 := 1) (pc' := 31) rfl (hb hby d34_1) rfl ((if0 _ _).trans (flt hi).2.1) (by decide) (by decide) ?_
    show own_K p e below m s₁ 31 #[rv oa, iv xi, .unset] [] _
    refine XS.iloadN X0.here hx rfl (hb hby d34_31) rfl ?_
    show own_K p e below m s₁ 32 #[rv oa, iv xi, .unset] [(.int xi)] _
    refine st1 _ ?_
    exact k
  have hq3 : (xi >>> ((6 : Int32) &&& 31)) = (0 : Int32) := hi2
  have pre3 : ∀ t, own_K p e below m T1 35 #[rv oa, iv xi, .unset] [(.int (0 : Int32))] t → G t := fun t k => pre2 t (by rw [hq3]; exact k)
  obtain ⟨T4, X4, e4, st4⟩ := getF X1 hx hZ hown (host := "") (Or.inl (tw hw (i := 111) rfl)) Via.refl eh1 Fw (g := (mkF m 38 #[rv oa, iv xi, iv (0 : Int32)] [(.ref oa), (.int (0 : Int32))])) rfl rfl (hb hby d34_38)
  obtain ⟨T5, X5, e5, st5⟩ := getF X4 hx hZ hown (host := "") (Or.inl (tw hw (i := 124) rfl)) Via.refl e4 Fx (g := (mkF m 46 #[rv oa, iv xi, iv (0 : Int32)] [(.ref oa)])) rfl rfl (hb hby d34_46)
  obtain ⟨T7, h7, X7, e7, W7, V7, st7⟩ := own_las X5 hx hZ e5 Vx ⟨by decide, by decide⟩ (g := (mkF m 60 #[rv oa, iv xi, iv (0 : Int32)] [(.long (xw &&& (((1 : Int64) <<< (xi &&& 0x3f).toInt64) ^^^ (-1 : Int64)))), (.int (0 : Int32)), (.ref ow)])) rfl rfl (hb hby d34_60) (i := 0) rfl (Nat.le_of_ble_eq_true rfl)
  have K7 : Keep h0 h7 [oa, ow] := (Keep.refl h0 [oa, ow]).wr W7 (Or.inl (List.mem_of_getElem? (i := 1) rfl))
  have N7 := Fr.snoc X7 N1 gw
  have sz7 : n0 ≤ h7.size := Nat.le_trans Z0 (Keep.of_wr W7).1
  have Vw7 : Arv Z h7 ow kw .long (1 : Int32) [(.long (xw &&& (((1 : Int64) <<< (xi &&& 0x3f).toInt64) ^^^ (-1 : Int64))))] (.long (0 : Int64)) := V7
  have pre8 : ∀ t, own_K p e below m T7 62 #[rv oa, iv xi, iv (0 : Int32)] [(.ref oa)] t → G t := by
    intro t k
    refine pre3 t ?_
    show own_K p e below m T1 35 #[rv oa, iv xi, .unset] [(.int (0 : Int32))] _
    refine XS.istoreN X1.here hx rfl (hb hby d34_35) rfl (l' := #[rv oa, iv xi, iv (0 : Int32)]) rfl ?_
    show own_K p e below m T1 36 #[rv oa, iv xi, iv (0 : Int32)] [] _
    refine XS.iloadN X1.here hx rfl (hb hby d34_36) rfl ?_
    show own_K p e below m T1 37 #[rv oa, iv xi, iv (0 : Int32)] [(.int (0 : Int32))] _
    refine XS.aloadN X1.here hx rfl (hb hby d34_37) rfl rfl ?_
    show own_K p e below m T1 38 #[rv oa, iv xi, iv (0 : Int32)] [(.ref oa), (.int (0 : Int32))] _
    refine st4 _ ?_
    show own_K p e below m T4 41 #[rv oa, iv xi, iv (0 : Int32)] [(.int (own_wu xw)), (.int (0 : Int32))] _
    refine XS.icmpYes X4.here hx rfl (pc0 := 41) (pc' := 45) rfl (hb hby d34_41) rfl (tlt (own_wu1 hxw)).1 (by decide) (by decide) ?_
    show own_K p e below m T4 45 #[rv oa, iv xi, iv (0 : Int32)] [] _
    refine XS.aloadN X4.here hx rfl (hb hby d34_45) rfl rfl ?_
    show own_K p e below m T4 46 #[rv oa, iv xi, iv (0 : Int32)] [(.ref oa)] _
    refine st5 _ ?_
    show own_K p e below m T5 49 #[rv oa, iv xi, iv (0 : Int32)] [(.ref ow)] _
    refine XS.iloadN X5.here hx rfl (hb hby d34_49) rfl ?_
    show own_K p e below m T5 50 #[rv oa, iv xi, iv (0 : Int32)] [(.int (0 : Int32)), (.ref ow)] _
    jvm_step X5.here [X5.here.top, hx, (hb hby d34_50), Value.category]
    show own_K p e below m T5 51 #[rv oa, iv xi, iv (0 : Int32)] [(.int (0 : Int32)), (.ref ow), (.int (0 : Int32)), (.ref ow)] _
    refine own_lal X5 hx hZ e5 Vx (v := (.long xw)) ⟨by decide, by decide⟩ rfl (g := (mkF m 51 #[rv oa, iv xi, iv (0 : Int32)] [(.int (0 : Int32)), (.ref ow), (.int (0 : Int32)), (.ref ow)])) rfl rfl (hb hby d34_51) _ ?_
    show own_K p e below m T5 52 #[rv oa, iv xi, iv (0 : Int32)] [(.long xw), (.int (0 : Int32)), (.ref ow)] _
    refine XS.lconst X5.here hx rfl (hb hby d34_52) ?_
    show own_K p e below m T5 53 #[rv oa, iv xi, iv (0 : Int32)] [(.long (1 : Int64)), (.long xw), (.int (0 : Int32)), (.ref ow)] _
    refine XS.iloadN X5.here hx rfl (hb hby d34_53) rfl ?_
    show own_K p e below m T5 54 #[rv oa, iv xi, iv (0 : Int32)] [(.int xi), (.long (1 : Int64)), (.long xw), (.int (0 : Int32)), (.ref ow)] _
    refine XS.lshl X5.here hx rfl (hb hby d34_54) rfl ?_
    show own_K p e below m T5 55 #[rv oa, iv xi, iv (0 : Int32)] [(.long ((1 : Int64) <<< (xi &&& 0x3f).toInt64)), (.long xw), (.int (0 : Int32)), (.ref ow)] _
    refine X5.ldc2Long hx hown (mvT hZ (tw hw (i := 253) rfl)) (g := (mkF m 55 #[rv oa, iv xi, iv (0 : Int32)] [(.long ((1 : Int64) <<< (xi &&& 0x3f).toInt64)), (.long xw), (.int (0 : Int32)), (.ref ow)])) rfl (hb hby d34_55) _ ?_
    show own_K p e below m T5 58 #[rv oa, iv xi, iv (0 : Int32)] [(.long (-1 : Int64)), (.long ((1 : Int64) <<< (xi &&& 0x3f).toInt64)), (.long xw), (.int (0 : Int32)), (.ref ow)] _
    refine XS.lxor X5.here hx rfl (hb hby d34_58) rfl ?_
    show own_K p e below m T5 59 #[rv oa, iv xi, iv (0 : Int32)] [(.long (((1 : Int64) <<< (xi &&& 0x3f).toInt64) ^^^ (-1 : Int64))), (.long xw), (.int (0 : Int32)), (.ref ow)] _
    refine XS.land X5.here hx rfl (hb hby d34_59) rfl ?_
    show own_K p e below m T5 60 #[rv oa, iv xi, iv (0 : Int32)] [(.long (xw &&& (((1 : Int64) <<< (xi &&& 0x3f).toInt64) ^^^ (-1 : Int64)))), (.int (0 : Int32)), (.ref ow)] _
    refine st7 _ ?_
    show own_K p e below m T7 61 #[rv oa, iv xi, iv (0 : Int32)] [] _
    refine XS.aloadN X7.here hx rfl (hb hby d34_61) rfl rfl ?_
    exact k
  have f9 : Fld Z h7 oa "java/util/BitSet" "wordsInUse" "I" (.int (own_wu xw)) := (Fw.other W7 (Or.inl nw))
  have f11 : Exa Z h7 oa "java/util/BitSet" := (E_.wr W7)
  have f12 : Fld Z h7 oa "java/util/BitSet" "words" "[J" (.ref ow) := (Fx.other W7 (Or.inl nw))
  have f13 : Fld Z h7 oa "java/util/BitSet" "sizeIsSticky" "Z" uf_oa_sizeIsSticky := (F_oa_sizeIsSticky.other W7 (Or.inl nw))
  obtain ⟨cq10, q10, q10'⟩ := f11.cell
  obtain ⟨_, _, ⟨T10, L10, k10, n10⟩, -, X10, ⟨Lc10, hQ10, l10, y10, z10⟩, st10⟩ := X7.privateBack hx (y := (⟨"java/util/BitSet", "recalculateWordsInUse", "()V"⟩ : MethodName)) hown (mvT hZ (tw hw (i := 254) rfl)) (mvT hZ (tw hw (i := 255) rfl)) (mvT hZ (tw hw (i := 257) rfl)) (Cond.privateMethod_at (mvP hZ (tw hw (i := 256) rfl) (args := #[]))) (mvT hZ (tw hw (i := 258) rfl)) (by decide) (backOf (W := 0) (rm35 l Z a0 hw [] oa (xw &&& (((1 : Int64) <<< (xi &&& 0x3f).toInt64) ^^^ (-1 : Int64))) ow kw uf_oa_sizeIsSticky h7 n0 sz7 f11 (own_wun hxw ▸ f9) f12 Vw7 g_ nw f13) hZ (tw hw (i := 258) rfl) (tw hw (i := 106) rfl) (by decide) (by decide)) (g := (mkF m 62 #[rv oa, iv xi, iv (0 : Int32)] [(.ref oa)])) rfl (by rw [hml]; rfl) (Steps.refl _) (a := oa) (by rw [e7]; exact q10) q10' (argsL := []) (rest := []) (lenOf pd_3 rfl) rfl (by show 2 * 0 + _ ≤ _; exact Nat.le_of_eq rfl) (hb hby d34_62) (fun _ _ => ⟨rfl, e7, (by decide : 0 + 0 ≤ _), (by decide : 0 + 0 ≤ _)⟩)
  dsimp only [Pt.U, Pt.locs, Pt.cells, Pt.slots] at X10 l10 y10 z10 st10 hQ10
  subst l10 y10 z10
  obtain ⟨rfl, Nq10, Kc10, Fw2_10, P_oa_sizeIsSticky_10, P_oa_words_10⟩ := hQ10
  have N10 := Fr.app N7 Nq10
  have K10 : Keep h0 T10.heap [oa, ow] := K7.trans Kc10 (allS (Or.inl (List.mem_of_getElem? (i := 0) rfl)) all0)
  have sz10 : n0 ≤ T10.heap.size := Nat.le_trans sz7 Kc10.1
  have f15 : Old Z n0 T10.heap := ((O_.wr W7 gw).keep Kc10 (allS g_ all0))
  have f16 : Exa Z T10.heap oa "java/util/BitSet" := (f11.keep Kc10)
  obtain ⟨cq14, q14, q14'⟩ := f16.cell
  obtain ⟨_, _, ⟨T14, L14, k14, n14⟩, -, X14, ⟨Lc14, hQ14, l14, y14, z14⟩, st14⟩ := X10.privateBack hx (y := (⟨"java/util/BitSet", "checkInvariants", "()V"⟩ : MethodName)) hown (mvT hZ (tw hw (i := 221) rfl)) (mvT hZ (tw hw (i := 222) rfl)) (mvT hZ (tw hw (i := 224) rfl)) (Cond.privateMethod_at (mvP hZ (tw hw (i := 223) rfl) (args := #[]))) (mvT hZ (tw hw (i := 225) rfl)) (by decide) (backOf (W := 0) (rm29 l Z a0 hw [] oa el ea kE T10.heap n0 sz10 f15 P_) hZ (tw hw (i := 225) rfl) (tw hw (i := 106) rfl) (by decide) (by decide)) (g := (mkF m 66 #[rv oa, iv xi, iv (0 : Int32)] [(.ref oa)])) rfl (by rw [hml]; rfl) (Steps.refl _) (a := oa) q14 q14' (argsL := []) (rest := []) (lenOf pd_3 rfl) rfl (by show 2 * 0 + _ ≤ _; exact Nat.le_of_eq rfl) (hb hby d34_66) (fun _ _ => ⟨rfl, rfl, (by decide : 0 + 0 ≤ _), (by decide : 0 + 0 ≤ _)⟩)
  dsimp only [Pt.U, Pt.locs, Pt.cells, Pt.slots] at X14 l14 y14 z14 st14 hQ14
  subst l14 y14 z14
  obtain ⟨rfl, Nq14, eh14⟩ := hQ14
  have N14 := Fr.app N10 Nq14
  have pre17 : ∀ t, own_K p e below m T14 69 #[rv oa, iv xi, iv (0 : Int32)] [] t → G t := by
    intro t k
    refine pre8 t ?_
    show own_K p e below m T7 62 #[rv oa, iv xi, iv (0 : Int32)] [(.ref oa)] _
    refine st10.trans ?_
    show own_K p e below m T10 65 #[rv oa, iv xi, iv (0 : Int32)] [] _
    refine XS.aloadN X10.here hx rfl (hb hby d34_65) rfl rfl ?_
    show own_K p e below m T10 66 #[rv oa, iv xi, iv (0 : Int32)] [(.ref oa)] _
    refine st14.trans ?_
    exact k
  have f18 : Arv Z T10.heap ow kw .long (1 : Int32) [(.long (xw &&& (((1 : Int64) <<< (xi &&& 0x3f).toInt64) ^^^ (-1 : Int64))))] (.long (0 : Int64)) := (Vw7.keep Kc10 (ninS (Ne.symm nw) nin0))
  obtain ⟨fs, hr, hrun, hended, hW, hsame⟩ := X14.leave (v := none) (fun _ => rfl)
  refine ⟨_, _, hG _ (pre17 _ ?_), hrun, hended, _, _, rfl, ?_, ⟨_, rfl⟩, hW, hsame.mono (by decide) (by decide)⟩
  · show own_K p e below m T14 69 #[rv oa, iv xi, iv (0 : Int32)] [] _
    exact X14.returnOut hx Bd.returns (hb hby d34_69) hr
  · show Q34 Z oa xi xw ow kw el ea kE uf_oa_sizeIsSticky h0 n0 _ T14.heap _
    rw [eh14]
    exact ⟨rfl, N14, K10, Fw2_10, P_oa_words_10, f18, P_oa_sizeIsSticky_10⟩

def Q33w (Z : State) (oa : Addr) (xw : Int64) (h0 : Heap) (n0 : Nat) (rv_ : Option Value) (h_ : Heap) (L_ : List Loc) : Prop := rv_ = some (.int (if xw = (0 : Int64) then (1 : Int32) else (0 : Int32))) ∧ Fr n0 L_ ∧ h_ = h0
set_option maxRecDepth 65536 in
set_option maxHeartbeats 40000000 in
theorem rm33w (l : Launch) (Z : State) (a0 : Array Value) (hw : ∀ d ∈ tables_1, d.before a0 Z = true) (ws : List Jvm.Cond) (oa : Addr) (xw : Int64) (h0 : Heap) (n0 : Nat) (Z0 : n0 ≤ h0.size) (Fw : Fld Z h0 oa "java/util/BitSet" "wordsInUse" "I" (.int (own_wu xw))) :
    MetFree l (⟨"java/util/BitSet", "isEmpty", "()Z"⟩ : MethodName) (head1 (Jvm.Cond.code (⟨"java/util/BitSet", "isEmpty", "()Z"⟩ : MethodName) jdk_92_method_33_code 1 (some .boolean) :: ws) ({ frames := 0, cells := 0, slots := 0, locals := 0 } : Room)) (fun a U => a = #[(.ref oa)] ∧ Z.Warmed39 U.vm ∧ U.heap = h0) (fun _ _ _ _ _ => True) (fun _ U o U' => ∃ v L, o = .returned v ∧ Q33w Z oa xw h0 n0 v U'.heap L ∧ FrameEnd U o U' L ({ frames := 0, cells := 0, slots := 0, locals := 0 } : Room).cells ({ frames := 0, cells := 0, slots := 0, locals := 0 } : Room).slots) := by
  refine MetFree.of_bodySF (plainFor_of_name pn_7) hisR ?_
  intro p e s m args below meth c s₁ Bd hml0 hP hK
  obtain ⟨rfl, hZ, hh⟩ := hP
  have hx := Bd.exec
  have hby := Bd.bytes
  have hml : c.maxLocals = 1 := hml0
  have hown : s.vm.findClass "java/util/BitSet" = some m.cls := findClass_of_methodNamed Bd.named
  have hnm := (name_of_methodNamed Bd.named Bd.method).1
  have X0 : Stand p l e ({ frames := 0, cells := 0, slots := 0, locals := 0 } : Room) s m #[(.ref oa)] below meth c s₁ [] 0 0 := Stand.of_body Bd
  have e0 : s₁.heap = h0 := by rw [← hh, Bd.state]; rfl
  have N0 := Fr.nil n0
  obtain ⟨G, hG, pre0⟩ : ∃ G : State → Prop, (∀ t, G t → Steps p.tables e below (s₁.setTop (entryFrame m #[(.ref oa)] 1)) t) ∧ ∀ t, own_K p e below m s₁ 0 #[rv oa] [] t → G t := ⟨fun t => Steps p.tables e below (s₁.setTop (entryFrame m #[(.ref oa)] 1)) t, fun _ k => k, fun t k => castTop (ef_33 m oa) k⟩
  obtain ⟨T1, X1, e1, st1⟩ := getF X0 hx hZ hown (host := "") (Or.inl (tw hw (i := 111) rfl)) Via.refl e0 Fw (g := (mkF m 1 #[rv oa] [(.ref oa)])) rfl rfl (hb hby d33_1)
  have pre3 : ∀ t, own_K p e below m T1 4 #[rv oa] [(.int (own_wu xw))] t → G t := by
    intro t k
    refine pre0 t ?_
    show own_K p e below m s₁ 0 #[rv oa] [] _
    refine XS.aloadN X0.here hx rfl (hb hby d33_0) rfl rfl ?_
    show own_K p e below m s₁ 1 #[rv oa] [(.ref oa)] _
    refine st1 _ ?_
    exact k
  by_cases hb4_2 : xw = (0 : Int64)
  · have pre4 : ∀ t, own_K p e below m T1 12 #[rv oa] [(.int (1 : Int32))] t → G t := by
      intro t k
      refine pre3 t ?_
      show own_K p e below m T1 4 #[rv oa] [(.int (own_wu xw))] _
      refine XS.ifNo X1.here hx rfl (hb hby d33_4) rfl ((if0 _ _).trans (teq (own_wuz hb4_2)).2) ?_
      show own_K p e below m T1 7 #[rv oa] [] _
      refine XS.iconst X1.here hx rfl (hb hby d33_7) ?_
      show own_K p e below m T1 8 #[rv oa] [(.int (1 : Int32))] _
      refine XS.goto X1.here hx rfl (pc0 := 8) (pc' := 12) rfl (hb hby d33_8) (by decide) (by decide) ?_
      exact k
    obtain ⟨fs, hr, hrun, hended, hW, hsame⟩ := X1.leave (v := some (.int (1 : Int32))) (fun h => by rw [Bd.returns] at h; cases h)
    refine ⟨_, _, hG _ (pre4 _ ?_), hrun, hended, _, _, rfl, ?_, ⟨_, rfl⟩, hW, hsame.mono (by decide) (by decide)⟩
    · show own_K p e below m T1 12 #[rv oa] [(.int (1 : Int32))] _
      exact retN X1 hx (t := .boolean) Bd.returns (by simp) (hb hby d33_12) hr
    · show Q33w Z oa xw h0 n0 _ T1.heap _
      rw [e1]
      exact ⟨(by simp only [if_pos hb4_2]), N0, rfl⟩
  · have pre5 : ∀ t, own_K p e below m T1 12 #[rv oa] [(.int (0 : Int32))] t → G t := by
      intro t k
      refine pre3 t ?_
      show own_K p e below m T1 4 #[rv oa] [(.int (own_wu xw))] _
      refine XS.ifYes X1.here hx rfl (pc0 := 4) (pc' := 11) rfl (hb hby d33_4) rfl ((if0 _ _).trans (feq (by rw [own_wun hb4_2]; decide)).2) (by decide) (by decide) ?_
      show own_K p e below m T1 11 #[rv oa] [] _
      refine XS.iconst X1.here hx rfl (hb hby d33_11) ?_
      exact k
    obtain ⟨fs, hr, hrun, hended, hW, hsame⟩ := X1.leave (v := some (.int (0 : Int32))) (fun h => by rw [Bd.returns] at h; cases h)
    refine ⟨_, _, hG _ (pre5 _ ?_), hrun, hended, _, _, rfl, ?_, ⟨_, rfl⟩, hW, hsame.mono (by decide) (by decide)⟩
    · show own_K p e below m T1 12 #[rv oa] [(.int (0 : Int32))] _
      exact retN X1 hx (t := .boolean) Bd.returns (by simp) (hb hby d33_12) hr
    · show Q33w Z oa xw h0 n0 _ T1.heap _
      rw [e1]
      exact ⟨(by simp only [if_neg hb4_2]), N0, rfl⟩

theorem d25_0 : decode prog_141_method_12_code 0 = .ok (.lload_n 1, 1) := by decide +kernel
theorem d25_1 : decode prog_141_method_12_code 1 = .ok (.aload_n 0, 1) := by decide +kernel
theorem d25_2 : decode prog_141_method_12_code 2 = .ok (.getfield 48, 3) := by decide +kernel
theorem d25_5 : decode prog_141_method_12_code 5 = .ok (.lcmp, 1) := by decide +kernel
theorem d25_6 : decode prog_141_method_12_code 6 = .ok (.ifCond .lt 55, 3) := by decide +kernel
theorem d25_61 : decode prog_141_method_12_code 61 = .ok (.iconst 0, 1) := by decide +kernel
theorem d25_62 : decode prog_141_method_12_code 62 = .ok (.ireturn, 1) := by decide +kernel
theorem d25_9 : decode prog_141_method_12_code 9 = .ok (.lload_n 1, 1) := by decide +kernel
theorem d25_10 : decode prog_141_method_12_code 10 = .ok (.aload_n 0, 1) := by decide +kernel
theorem d25_11 : decode prog_141_method_12_code 11 = .ok (.getfield 51, 3) := by decide +kernel
theorem d25_14 : decode prog_141_method_12_code 14 = .ok (.lcmp, 1) := by decide +kernel
theorem d25_15 : decode prog_141_method_12_code 15 = .ok (.ifCond .ge 46, 3) := by decide +kernel
theorem ef_25f (m : MethodId) (x0 : Addr) (x1 : Int64) : entryFrame m #[(.ref x0), (.long x1)] 3 = mkF m 0 #[rv x0, lv x1, .second] [] := by first | (simp [entryFrame, mkF, argsToLocals, Value.category]; done) | rfl
def Q25f (Z : State) (oa : Addr) (qo : Int64) (qu : Int64) (qn : Int64) (h0 : Heap) (n0 : Nat) (rv_ : Option Value) (h_ : Heap) (L_ : List Loc) : Prop := rv_ = some (.int (0 : Int32)) ∧ Fr n0 L_ ∧ h_ = h0
set_option maxRecDepth 65536 in
set_option maxHeartbeats 40000000 in
theorem rm25f (l : Launch) (Z : State) (a0 : Array Value) (hw : ∀ d ∈ tables_1, d.before a0 Z = true) (ws : List Jvm.Cond) (oa : Addr) (qo : Int64) (qu : Int64) (qn : Int64) (h0 : Heap) (n0 : Nat) (Z0 : n0 ≤ h0.size) (E_ : Exa Z h0 oa "evenkeel/client/Window") (Fu : Fld Z h0 oa "evenkeel/client/Window" "unfinished" "J" (.long qu)) (Fn : Fld Z h0 oa "evenkeel/client/Window" "next" "J" (.long qn)) (hout : qo < qu ∨ ¬ qo < qn) :
    MetFree l (⟨"evenkeel/client/Window", "inHand", "(J)Z"⟩ : MethodName) (head1 (Jvm.Cond.code (⟨"evenkeel/client/Window", "inHand", "(J)Z"⟩ : MethodName) prog_141_method_12_code 3 (some .boolean) :: ws) ({ frames := 0, cells := 0, slots := 0, locals := 0 } : Room)) (fun a U => a = #[(.ref oa), (.long qo)] ∧ Z.Warmed39 U.vm ∧ U.heap = h0) (fun _ _ _ _ _ => True) (fun _ U o U' => ∃ v L, o = .returned v ∧ Q25f Z oa qo qu qn h0 n0 v U'.heap L ∧ FrameEnd U o U' L ({ frames := 0, cells := 0, slots := 0, locals := 0 } : Room).cells ({ frames := 0, cells := 0, slots := 0, locals := 0 } : Room).slots) := by
  refine MetFree.of_bodySF (plainFor_of_name pn_8) hisR ?_
  intro p e s m args below meth c s₁ Bd hml0 hP hK
  obtain ⟨rfl, hZ, hh⟩ := hP
  have hx := Bd.exec
  have hby := Bd.bytes
  have hml : c.maxLocals = 3 := hml0
  have hown : s.vm.findClass "evenkeel/client/Window" = some m.cls := findClass_of_methodNamed Bd.named
  have hnm := (name_of_methodNamed Bd.named Bd.method).1
  have X0 : Stand p l e ({ frames := 0, cells := 0, slots := 0, locals := 0 } : Room) s m #[(.ref oa), (.long qo)] below meth c s₁ [] 0 0 := Stand.of_body Bd
  have e0 : s₁.heap = h0 := by rw [← hh, Bd.state]; rfl
  have N0 := Fr.nil n0
  obtain ⟨G, hG, pre0⟩ : ∃ G : State → Prop, (∀ t, G t → Steps p.tables e below (s₁.setTop (entryFrame m #[(.ref oa), (.long qo)] 3)) t) ∧ ∀ t, own_K p e below m s₁ 0 #[rv oa, lv qo, .second] [] t → G t := ⟨fun t => Steps p.tables e below (s₁.setTop (entryFrame m #[(.ref oa), (.long qo)] 3)) t, fun _ k => k, fun t k => castTop (ef_25f m oa qo) k⟩
  obtain ⟨T1, X1, e1, st1⟩ := getF X0 hx hZ hown (host := "") (Or.inl (tw hw (i := 142) rfl)) Via.refl e0 Fu (g := (mkF m 2 #[rv oa, lv qo, .second] [(.ref oa), (.long qo)])) rfl rfl (hb hby d25_2)
  have pre2 : ∀ t, own_K p e below m T1 6 #[rv oa, lv qo, .second] [(.int (lcmpW qo qu))] t → G t := by
    intro t k
    refine pre0 t ?_
    show own_K p e below m s₁ 0 #[rv oa, lv qo, .second] [] _
    refine XS.lloadN X0.here hx rfl (hb hby d25_0) rfl ?_
    show own_K p e below m s₁ 1 #[rv oa, lv qo, .second] [(.long qo)] _
    refine XS.aloadN X0.here hx rfl (hb hby d25_1) rfl rfl ?_
    show own_K p e below m s₁ 2 #[rv oa, lv qo, .second] [(.ref oa), (.long qo)] _
    refine st1 _ ?_
    show own_K p e below m T1 5 #[rv oa, lv qo, .second] [(.long qu), (.long qo)] _
    refine XS.lcmp X1.here hx rfl (hb hby d25_5) rfl ?_
    exact k
  by_cases hc6_3 : qo < qu
  · have pre4 : ∀ t, own_K p e below m T1 62 #[rv oa, lv qo, .second] [(.int (0 : Int32))] t → G t := by
      intro t k
      refine pre2 t ?_
      show own_K p e below m T1 6 #[rv oa, lv qo, .second] [(.int (lcmpW qo qu))] _
      refine XS.ifYes X1.here hx rfl (pc0 := 6) (pc' := 61) rfl (hb hby d25_6) rfl ((if0 _ _).trans (tlt ((lw_lt _ _).mpr hc6_3)).1) (by decide) (by decide) ?_
      show own_K p e below m T1 61 #[rv oa, lv qo, .second] [] _
      refine XS.iconst X1.here hx rfl (hb hby d25_61) ?_
      exact k
    obtain ⟨fs, hr, hrun, hended, hW, hsame⟩ := X1.leave (v := some (.int (0 : Int32))) (fun h => by rw [Bd.returns] at h; cases h)
    refine ⟨_, _, hG _ (pre4 _ ?_), hrun, hended, _, _, rfl, ?_, ⟨_, rfl⟩, hW, hsame.mono (by decide) (by decide)⟩
    · show own_K p e below m T1 62 #[rv oa, lv qo, .second] [(.int (0 : Int32))] _
      exact retN X1 hx (t := .boolean) Bd.returns (by simp) (hb hby d25_62) hr
    · show Q25f Z oa qo qu qn h0 n0 _ T1.heap _
      rw [e1]
      exact ⟨rfl, N0, rfl⟩
  · obtain ⟨T5, X5, e5, st5⟩ := getF X1 hx hZ hown (host := "") (Or.inl (tw hw (i := 144) rfl)) Via.refl e1 Fn (g := (mkF m 11 #[rv oa, lv qo, .second] [(.ref oa), (.long qo)])) rfl rfl (hb hby d25_11)
    have pre6 : ∀ t, own_K p e below m T5 62 #[rv oa, lv qo, .second] [(.int (0 : Int32))] t → G t := by
      intro t k
      refine pre2 t ?_
      show own_K p e below m T1 6 #[rv oa, lv qo, .second] [(.int (lcmpW qo qu))] _
      refine XS.ifNo X1.here hx rfl (hb hby d25_6) rfl ((if0 _ _).trans (flt (mt (lw_lt _ _).mp hc6_3)).1) ?_
      show own_K p e below m T1 9 #[rv oa, lv qo, .second] [] _
      refine XS.lloadN X1.here hx rfl (hb hby d25_9) rfl ?_
      show own_K p e below m T1 10 #[rv oa, lv qo, .second] [(.long qo)] _
      refine XS.aloadN X1.here hx rfl (hb hby d25_10) rfl rfl ?_
      show own_K p e below m T1 11 #[rv oa, lv qo, .second] [(.ref oa), (.long qo)] _
      refine st5 _ ?_
      show own_K p e below m T5 14 #[rv oa, lv qo, .second] [(.long qn), (.long qo)] _
      refine XS.lcmp X5.here hx rfl (hb hby d25_14) rfl ?_
      show own_K p e below m T5 15 #[rv oa, lv qo, .second] [(.int (lcmpW qo qn))] _
      refine XS.ifYes X5.here hx rfl (pc0 := 15) (pc' := 61) rfl (hb hby d25_15) rfl ((if0 _ _).trans (flt (mt (lw_lt _ _).mp (hout.resolve_left hc6_3))).2.1) (by decide) (by decide) ?_
      show own_K p e below m T5 61 #[rv oa, lv qo, .second] [] _
      refine XS.iconst X5.here hx rfl (hb hby d25_61) ?_
      exact k
    obtain ⟨fs, hr, hrun, hended, hW, hsame⟩ := X5.leave (v := some (.int (0 : Int32))) (fun h => by rw [Bd.returns] at h; cases h)
    refine ⟨_, _, hG _ (pre6 _ ?_), hrun, hended, _, _, rfl, ?_, ⟨_, rfl⟩, hW, hsame.mono (by decide) (by decide)⟩
    · show own_K p e below m T5 62 #[rv oa, lv qo, .second] [(.int (0 : Int32))] _
      exact retN X5 hx (t := .boolean) Bd.returns (by simp) (hb hby d25_62) hr
    · show Q25f Z oa qo qu qn h0 n0 _ T5.heap _
      rw [e5]
      exact ⟨rfl, N0, rfl⟩

theorem d25_18 : decode prog_141_method_12_code 18 = .ok (.lload_n 1, 1) := by decide +kernel
theorem d25_19 : decode prog_141_method_12_code 19 = .ok (.aload_n 0, 1) := by decide +kernel
theorem d25_20 : decode prog_141_method_12_code 20 = .ok (.getfield 48, 3) := by decide +kernel
theorem d25_23 : decode prog_141_method_12_code 23 = .ok (.lcmp, 1) := by decide +kernel
theorem d25_24 : decode prog_141_method_12_code 24 = .ok (.ifCond .eq 18, 3) := by decide +kernel
theorem d25_27 : decode prog_141_method_12_code 27 = .ok (.aload_n 0, 1) := by decide +kernel
theorem d25_28 : decode prog_141_method_12_code 28 = .ok (.getfield 22, 3) := by decide +kernel
theorem d25_31 : decode prog_141_method_12_code 31 = .ok (.aload_n 0, 1) := by decide +kernel
theorem d25_32 : decode prog_141_method_12_code 32 = .ok (.lload_n 1, 1) := by decide +kernel
theorem d25_33 : decode prog_141_method_12_code 33 = .ok (.invokevirtual 154, 3) := by decide +kernel
theorem pd_12 : parseMethodDescriptor "(J)I" = some ⟨[.long], some .int⟩ := by decide +kernel
theorem d25_36 : decode prog_141_method_12_code 36 = .ok (.invokevirtual 169, 3) := by decide +kernel
theorem pd_13 : parseMethodDescriptor "(I)Z" = some ⟨[.int], some .boolean⟩ := by decide +kernel
theorem d25_39 : decode prog_141_method_12_code 39 = .ok (.ifCond .ne 22, 3) := by decide +kernel
theorem d25_42 : decode prog_141_method_12_code 42 = .ok (.aload_n 0, 1) := by decide +kernel
theorem d25_43 : decode prog_141_method_12_code 43 = .ok (.getfield 32, 3) := by decide +kernel
theorem d25_46 : decode prog_141_method_12_code 46 = .ok (.aload_n 0, 1) := by decide +kernel
theorem d25_47 : decode prog_141_method_12_code 47 = .ok (.lload_n 1, 1) := by decide +kernel
theorem d25_48 : decode prog_141_method_12_code 48 = .ok (.invokevirtual 154, 3) := by decide +kernel
theorem d25_51 : decode prog_141_method_12_code 51 = .ok (.invokevirtual 169, 3) := by decide +kernel
theorem d25_54 : decode prog_141_method_12_code 54 = .ok (.ifCond .ne 7, 3) := by decide +kernel
theorem d25_57 : decode prog_141_method_12_code 57 = .ok (.iconst 1, 1) := by decide +kernel
theorem d25_58 : decode prog_141_method_12_code 58 = .ok (.goto 4, 3) := by decide +kernel
def Q25b (Z : State) (oa : Addr) (qo : Int64) (qu : Int64) (qn : Int64) (xs : Int32) (xw : Int64) (bf : Addr) (of : Addr) (kf : ClassId) (bl : Addr) (ol : Addr) (kl : ClassId) (el : Addr) (ea : Addr) (kE : ClassId) (h0 : Heap) (n0 : Nat) (rv_ : Option Value) (h_ : Heap) (L_ : List Loc) : Prop := rv_ = some (.int (1 : Int32)) ∧ Fr n0 L_ ∧ h_ = h0
set_option maxRecDepth 65536 in
set_option maxHeartbeats 40000000 in
theorem rm25b (l : Launch) (Z : State) (a0 : Array Value) (hw : ∀ d ∈ tables_1, d.before a0 Z = true) (ws : List Jvm.Cond) (oa : Addr) (qo : Int64) (qu : Int64) (qn : Int64) (xs : Int32) (xw : Int64) (bf : Addr) (of : Addr) (kf : ClassId) (bl : Addr) (ol : Addr) (kl : ClassId) (el : Addr) (ea : Addr) (kE : ClassId) (h0 : Heap) (n0 : Nat) (Z0 : n0 ≤ h0.size) (E_ : Exa Z h0 oa "evenkeel/client/Window") (Fu : Fld Z h0 oa "evenkeel/client/Window" "unfinished" "J" (.long qu)) (Fn : Fld Z h0 oa "evenkeel/client/Window" "next" "J" (.long qn)) (Fs : Fld Z h0 oa "evenkeel/client/Window" "size" "I" (.int xs)) (Ff : Fld Z h0 oa "evenkeel/client/Window" "finished" "Ljava/util/BitSet;" (.ref bf)) (Ef : Exa Z h0 bf "java/util/BitSet") (Fwf : Fld Z h0 bf "java/util/BitSet" "wordsInUse" "I" (.int (own_wu xw))) (Fxf : Fld Z h0 bf "java/util/BitSet" "words" "[J" (.ref of)) (Vxf : Arv Z h0 of kf .long (1 : Int32) [(.long xw)] (.long (0 : Int64))) (Fl : Fld Z h0 oa "evenkeel/client/Window" "left" "Ljava/util/BitSet;" (.ref bl)) (El : Exa Z h0 bl "java/util/BitSet") (Fwl : Fld Z h0 bl "java/util/BitSet" "wordsInUse" "I" (.int (own_wu (0 : Int64)))) (Fxl : Fld Z h0 bl "java/util/BitSet" "words" "[J" (.ref ol)) (Vxl : Arv Z h0 ol kl .long (1 : Int32) [(.long (0 : Int64))] (.long (0 : Int64))) (hsz : 1 ≤ xs.toInt ∧ xs.toInt ≤ 4) (hq0 : 0 ≤ qo.toInt) (h1 : ¬ qo < qu) (h2 : qo < qn) (h3 : ¬ qo = qu) (hbw : (xw &&& ((1 : Int64) <<< (((qo - (qo / (xs.toInt64)) * (xs.toInt64)).toInt32) &&& 0x3f).toInt64)) = (0 : Int64)) (O_ : Old Z n0 h0) (P_ : own_P Z el ea kE) :
    MetFree l (⟨"evenkeel/client/Window", "inHand", "(J)Z"⟩ : MethodName) (head1 (Jvm.Cond.code (⟨"evenkeel/client/Window", "inHand", "(J)Z"⟩ : MethodName) prog_141_method_12_code 3 (some .boolean) :: ws) ({ frames := 2, cells := 0, slots := 0, locals := 26 } : Room)) (fun a U => a = #[(.ref oa), (.long qo)] ∧ Z.Warmed39 U.vm ∧ U.heap = h0) (fun _ _ _ _ _ => True) (fun _ U o U' => ∃ v L, o = .returned v ∧ Q25b Z oa qo qu qn xs xw bf of kf bl ol kl el ea kE h0 n0 v U'.heap L ∧ FrameEnd U o U' L ({ frames := 2, cells := 0, slots := 0, locals := 26 } : Room).cells ({ frames := 2, cells := 0, slots := 0, locals := 26 } : Room).slots) := by
  refine MetFree.of_bodySF (plainFor_of_name pn_8) hisR ?_
  intro p e s m args below meth c s₁ Bd hml0 hP hK
  obtain ⟨rfl, hZ, hh⟩ := hP
  have hx := Bd.exec
  have hby := Bd.bytes
  have hml : c.maxLocals = 3 := hml0
  have hown : s.vm.findClass "evenkeel/client/Window" = some m.cls := findClass_of_methodNamed Bd.named
  have hnm := (name_of_methodNamed Bd.named Bd.method).1
  have X0 : Stand p l e ({ frames := 2, cells := 0, slots := 0, locals := 26 } : Room) s m #[(.ref oa), (.long qo)] below meth c s₁ [] 0 0 := Stand.of_body Bd
  have e0 : s₁.heap = h0 := by rw [← hh, Bd.state]; rfl
  have N0 := Fr.nil n0
  obtain ⟨G, hG, pre0⟩ : ∃ G : State → Prop, (∀ t, G t → Steps p.tables e below (s₁.setTop (entryFrame m #[(.ref oa), (.long qo)] 3)) t) ∧ ∀ t, own_K p e below m s₁ 0 #[rv oa, lv qo, .second] [] t → G t := ⟨fun t => Steps p.tables e below (s₁.setTop (entryFrame m #[(.ref oa), (.long qo)] 3)) t, fun _ k => k, fun t k => castTop (ef_25f m oa qo) k⟩
  obtain ⟨T1, X1, e1, st1⟩ := getF X0 hx hZ hown (host := "") (Or.inl (tw hw (i := 142) rfl)) Via.refl e0 Fu (g := (mkF m 2 #[rv oa, lv qo, .second] [(.ref oa), (.long qo)])) rfl rfl (hb hby d25_2)
  obtain ⟨T2, X2, e2, st2⟩ := getF X1 hx hZ hown (host := "") (Or.inl (tw hw (i := 144) rfl)) Via.refl e1 Fn (g := (mkF m 11 #[rv oa, lv qo, .second] [(.ref oa), (.long qo)])) rfl rfl (hb hby d25_11)
  obtain ⟨T3, X3, e3, st3⟩ := getF X2 hx hZ hown (host := "") (Or.inl (tw hw (i := 142) rfl)) Via.refl e2 Fu (g := (mkF m 20 #[rv oa, lv qo, .second] [(.ref oa), (.long qo)])) rfl rfl (hb hby d25_20)
  obtain ⟨T4, X4, e4, st4⟩ := getF X3 hx hZ hown (host := "") (Or.inl (tw hw (i := 126) rfl)) Via.refl e3 Ff (g := (mkF m 28 #[rv oa, lv qo, .second] [(.ref oa)])) rfl rfl (hb hby d25_28)
  obtain ⟨cq5, q5, q5'⟩ := E_.cell
  obtain ⟨_, _, ⟨T5, L5, k5, n5⟩, -, X5, ⟨Lc5, hQ5, l5, y5, z5⟩, st5⟩ := X4.privateBack hx (y := (⟨"evenkeel/client/Window", "bit", "(J)I"⟩ : MethodName)) hown (mvT hZ (tw hw (i := 212) rfl)) (mvT hZ (tw hw (i := 213) rfl)) (own_selp hZ (tw hw (i := 3) rfl) (tw hw (i := 214) rfl) (tw hw (i := 213) rfl) (by decide)) (Cond.privateMethod_at (mvP hZ (tw hw (i := 214) rfl) (args := #[]))) (mvT hZ (tw hw (i := 215) rfl)) (by decide) (backOf (W := 1) (rm27 l Z a0 hw [] oa qo xs h0 n0 Z0 Fs (own_snz hsz)) hZ (tw hw (i := 215) rfl) (tw hw (i := 4) rfl) (by decide) (by decide)) (g := (mkF m 33 #[rv oa, lv qo, .second] [(.long qo), (.ref oa), (.ref bf)])) rfl (by rw [hml]; rfl) (Steps.refl _) (a := oa) (by rw [e4]; exact q5) q5' (argsL := [(.long qo)]) (rest := [(.ref bf)]) (lenOf pd_12 rfl) rfl (by show 2 * 0 + _ ≤ _; exact Nat.le_of_eq rfl) (hb hby d25_33) (fun _ _ => ⟨rfl, e4, (by decide : 0 + 0 ≤ _), (by decide : 0 + 0 ≤ _)⟩)
  dsimp only [Pt.U, Pt.locs, Pt.cells, Pt.slots] at X5 l5 y5 z5 st5 hQ5
  subst l5 y5 z5
  obtain ⟨rfl, Nq5, eh5⟩ := hQ5
  have N5 := Fr.app N0 Nq5
  obtain ⟨cq6, kq6, q6a, q6b, q6c⟩ := isOf hZ eh5 Ef
  obtain ⟨_, _, ⟨T6, L6, k6, n6⟩, -, X6, ⟨Lc6, hQ6, l6, y6, z6⟩, st6⟩ := X5.virtualBack hx (y := (⟨"java/util/BitSet", "get", "(I)Z"⟩ : MethodName)) (z := (⟨"java/util/BitSet", "get", "(I)Z"⟩ : MethodName)) hown (mvT hZ (tw hw (i := 216) rfl)) (mvT hZ (tw hw (i := 217) rfl)) (notFace_of_selects (args := #[]) (mvT hZ (tw hw (i := 219) rfl))) (mvT hZ (tw hw (i := 219) rfl)) (mvT hZ (tw hw (i := 218) rfl)) (by decide) (backOf (W := 0) (rm28 l Z a0 hw [] bf ((qo - (qo / (xs.toInt64)) * (xs.toInt64)).toInt32) xw of kf el ea kE h0 n0 Z0 Ef Fwf Fxf Vxf (own_bit0 hq0 hsz) (own_bit6 hq0 hsz) O_ P_) hZ (tw hw (i := 220) rfl) (tw hw (i := 106) rfl) (by decide) (by decide)) q6a q6c (g := (mkF m 36 #[rv oa, lv qo, .second] [(.int ((qo - (qo / (xs.toInt64)) * (xs.toInt64)).toInt32)), (.ref bf)])) rfl (by rw [hml]; rfl) (Steps.refl _) (argsL := [(.int ((qo - (qo / (xs.toInt64)) * (xs.toInt64)).toInt32))]) (rest := []) (lenOf pd_13 rfl) rfl (by show 2 * 0 + _ ≤ _; exact Nat.le_of_eq rfl) (hb hby d25_36) (fun _ _ => ⟨rfl, eh5, (by decide : 0 + 0 ≤ _), (by decide : 0 + 0 ≤ _)⟩)
  dsimp only [Pt.U, Pt.locs, Pt.cells, Pt.slots] at X6 l6 y6 z6 st6 hQ6
  subst l6 y6 z6
  obtain ⟨rfl, Nq6, eh6⟩ := hQ6
  have N6 := Fr.app N5 Nq6
  have pre7 : ∀ t, own_K p e below m T6 39 #[rv oa, lv qo, .second] [(.int (if (xw &&& ((1 : Int64) <<< (((qo - (qo / (xs.toInt64)) * (xs.toInt64)).toInt32) &&& 0x3f).toInt64)) = (0 : Int64) then (0 : Int32) else (1 : Int32)))] t → G t := by
    intro t k
    refine pre0 t ?_
    show own_K p e below m s₁ 0 #[rv oa, lv qo, .second] [] _
    refine XS.lloadN X0.here hx rfl (hb hby d25_0) rfl ?_
    show own_K p e below m s₁ 1 #[rv oa, lv qo, .second] [(.long qo)] _
    refine XS.aloadN X0.here hx rfl (hb hby d25_1) rfl rfl ?_
    show own_K p e below m s₁ 2 #[rv oa, lv qo, .second] [(.ref oa), (.long qo)] _
    refine st1 _ ?_
    show own_K p e below m T1 5 #[rv oa, lv qo, .second] [(.long qu), (.long qo)] _
    refine XS.lcmp X1.here hx rfl (hb hby d25_5) rfl ?_
    show own_K p e below m T1 6 #[rv oa, lv qo, .second] [(.int (lcmpW qo qu))] _
    refine XS.ifNo X1.here hx rfl (hb hby d25_6) rfl ((if0 _ _).trans (flt (mt (lw_lt _ _).mp h1)).1) ?_
    show own_K p e below m T1 9 #[rv oa, lv qo, .second] [] _
    refine XS.lloadN X1.here hx rfl (hb hby d25_9) rfl ?_
    show own_K p e below m T1 10 #[rv oa, lv qo, .second] [(.long qo)] _
    refine XS.aloadN X1.here hx rfl (hb hby d25_10) rfl rfl ?_
    show own_K p e below m T1 11 #[rv oa, lv qo, .second] [(.ref oa), (.long qo)] _
    refine st2 _ ?_
    show own_K p e below m T2 14 #[rv oa, lv qo, .second] [(.long qn), (.long qo)] _
    refine XS.lcmp X2.here hx rfl (hb hby d25_14) rfl ?_
    show own_K p e below m T2 15 #[rv oa, lv qo, .second] [(.int (lcmpW qo qn))] _
    refine XS.ifNo X2.here hx rfl (hb hby d25_15) rfl ((if0 _ _).trans (tlt ((lw_lt _ _).mpr h2)).2.1) ?_
    show own_K p e below m T2 18 #[rv oa, lv qo, .second] [] _
    refine XS.lloadN X2.here hx rfl (hb hby d25_18) rfl ?_
    show own_K p e below m T2 19 #[rv oa, lv qo, .second] [(.long qo)] _
    refine XS.aloadN X2.here hx rfl (hb hby d25_19) rfl rfl ?_
    show own_K p e below m T2 20 #[rv oa, lv qo, .second] [(.ref oa), (.long qo)] _
    refine st3 _ ?_
    show own_K p e below m T3 23 #[rv oa, lv qo, .second] [(.long qu), (.long qo)] _
    refine XS.lcmp X3.here hx rfl (hb hby d25_23) rfl ?_
    show own_K p e below m T3 24 #[rv oa, lv qo, .second] [(.int (lcmpW qo qu))] _
    refine XS.ifNo X3.here hx rfl (hb hby d25_24) rfl ((if0 _ _).trans (feq (mt (lw_eq _ _).mp h3)).1) ?_
    show own_K p e below m T3 27 #[rv oa, lv qo, .second] [] _
    refine XS.aloadN X3.here hx rfl (hb hby d25_27) rfl rfl ?_
    show own_K p e below m T3 28 #[rv oa, lv qo, .second] [(.ref oa)] _
    refine st4 _ ?_
    show own_K p e below m T4 31 #[rv oa, lv qo, .second] [(.ref bf)] _
    refine XS.aloadN X4.here hx rfl (hb hby d25_31) rfl rfl ?_
    show own_K p e below m T4 32 #[rv oa, lv qo, .second] [(.ref oa), (.ref bf)] _
    refine XS.lloadN X4.here hx rfl (hb hby d25_32) rfl ?_
    show own_K p e below m T4 33 #[rv oa, lv qo, .second] [(.long qo), (.ref oa), (.ref bf)] _
    refine st5.trans ?_
    show own_K p e below m T5 36 #[rv oa, lv qo, .second] [(.int ((qo - (qo / (xs.toInt64)) * (xs.toInt64)).toInt32)), (.ref bf)] _
    refine st6.trans ?_
    exact k
  have hq8 : (if (xw &&& ((1 : Int64) <<< (((qo - (qo / (xs.toInt64)) * (xs.toInt64)).toInt32) &&& 0x3f).toInt64)) = (0 : Int64) then (0 : Int32) else (1 : Int32)) = (0 : Int32) := (if_pos hbw)
  have pre8 : ∀ t, own_K p e below m T6 39 #[rv oa, lv qo, .second] [(.int (0 : Int32))] t → G t := fun t k => pre7 t (by rw [hq8]; exact k)
  obtain ⟨T9, X9, e9, st9⟩ := getF X6 hx hZ hown (host := "") (Or.inl (tw hw (i := 131) rfl)) Via.refl eh6 Fl (g := (mkF m 43 #[rv oa, lv qo, .second] [(.ref oa)])) rfl rfl (hb hby d25_43)
  obtain ⟨cq10, q10, q10'⟩ := E_.cell
  obtain ⟨_, _, ⟨T10, L10, k10, n10⟩, -, X10, ⟨Lc10, hQ10, l10, y10, z10⟩, st10⟩ := X9.privateBack hx (y := (⟨"evenkeel/client/Window", "bit", "(J)I"⟩ : MethodName)) hown (mvT hZ (tw hw (i := 212) rfl)) (mvT hZ (tw hw (i := 213) rfl)) (own_selp hZ (tw hw (i := 3) rfl) (tw hw (i := 214) rfl) (tw hw (i := 213) rfl) (by decide)) (Cond.privateMethod_at (mvP hZ (tw hw (i := 214) rfl) (args := #[]))) (mvT hZ (tw hw (i := 215) rfl)) (by decide) (backOf (W := 1) (rm27 l Z a0 hw [] oa qo xs h0 n0 Z0 Fs (own_snz hsz)) hZ (tw hw (i := 215) rfl) (tw hw (i := 4) rfl) (by decide) (by decide)) (g := (mkF m 48 #[rv oa, lv qo, .second] [(.long qo), (.ref oa), (.ref bl)])) rfl (by rw [hml]; rfl) (Steps.refl _) (a := oa) (by rw [e9]; exact q10) q10' (argsL := [(.long qo)]) (rest := [(.ref bl)]) (lenOf pd_12 rfl) rfl (by show 2 * 0 + _ ≤ _; exact Nat.le_of_eq rfl) (hb hby d25_48) (fun _ _ => ⟨rfl, e9, (by decide : 0 + 0 ≤ _), (by decide : 0 + 0 ≤ _)⟩)
  dsimp only [Pt.U, Pt.locs, Pt.cells, Pt.slots] at X10 l10 y10 z10 st10 hQ10
  subst l10 y10 z10
  obtain ⟨rfl, Nq10, eh10⟩ := hQ10
  have N10 := Fr.app N6 Nq10
  obtain ⟨cq11, kq11, q11a, q11b, q11c⟩ := isOf hZ eh10 El
  obtain ⟨_, _, ⟨T11, L11, k11, n11⟩, -, X11, ⟨Lc11, hQ11, l11, y11, z11⟩, st11⟩ := X10.virtualBack hx (y := (⟨"java/util/BitSet", "get", "(I)Z"⟩ : MethodName)) (z := (⟨"java/util/BitSet", "get", "(I)Z"⟩ : MethodName)) hown (mvT hZ (tw hw (i := 216) rfl)) (mvT hZ (tw hw (i := 217) rfl)) (notFace_of_selects (args := #[]) (mvT hZ (tw hw (i := 219) rfl))) (mvT hZ (tw hw (i := 219) rfl)) (mvT hZ (tw hw (i := 218) rfl)) (by decide) (backOf (W := 0) (rm28 l Z a0 hw [] bl ((qo - (qo / (xs.toInt64)) * (xs.toInt64)).toInt32) (0 : Int64) ol kl el ea kE h0 n0 Z0 El Fwl Fxl Vxl (own_bit0 hq0 hsz) (own_bit6 hq0 hsz) O_ P_) hZ (tw hw (i := 220) rfl) (tw hw (i := 106) rfl) (by decide) (by decide)) q11a q11c (g := (mkF m 51 #[rv oa, lv qo, .second] [(.int ((qo - (qo / (xs.toInt64)) * (xs.toInt64)).toInt32)), (.ref bl)])) rfl (by rw [hml]; rfl) (Steps.refl _) (argsL := [(.int ((qo - (qo / (xs.toInt64)) * (xs.toInt64)).toInt32))]) (rest := []) (lenOf pd_13 rfl) rfl (by show 2 * 0 + _ ≤ _; exact Nat.le_of_eq rfl) (hb hby d25_51) (fun _ _ => ⟨rfl, eh10, (by decide : 0 + 0 ≤ _), (by decide : 0 + 0 ≤ _)⟩)
  dsimp only [Pt.U, Pt.locs, Pt.cells, Pt.slots] at X11 l11 y11 z11 st11 hQ11
  subst l11 y11 z11
  obtain ⟨rfl, Nq11, eh11⟩ := hQ11
  have N11 := Fr.app N10 Nq11
  have pre12 : ∀ t, own_K p e below m T11 54 #[rv oa, lv qo, .second] [(.int (if ((0 : Int64) &&& ((1 : Int64) <<< (((qo - (qo / (xs.toInt64)) * (xs.toInt64)).toInt32) &&& 0x3f).toInt64)) = (0 : Int64) then (0 : Int32) else (1 : Int32)))] t → G t := by
    intro t k
    refine pre8 t ?_
    show own_K p e below m T6 39 #[rv oa, lv qo, .second] [(.int (0 : Int32))] _
    refine XS.ifNo X6.here hx rfl (hb hby d25_39) rfl ((if0 _ _).trans (teq (by decide : (0 : Int32) = (0 : Int32))).2) ?_
    show own_K p e below m T6 42 #[rv oa, lv qo, .second] [] _
    refine XS.aloadN X6.here hx rfl (hb hby d25_42) rfl rfl ?_
    show own_K p e below m T6 43 #[rv oa, lv qo, .second] [(.ref oa)] _
    refine st9 _ ?_
    show own_K p e below m T9 46 #[rv oa, lv qo, .second] [(.ref bl)] _
    refine XS.aloadN X9.here hx rfl (hb hby d25_46) rfl rfl ?_
    show own_K p e below m T9 47 #[rv oa, lv qo, .second] [(.ref oa), (.ref bl)] _
    refine XS.lloadN X9.here hx rfl (hb hby d25_47) rfl ?_
    show own_K p e below m T9 48 #[rv oa, lv qo, .second] [(.long qo), (.ref oa), (.ref bl)] _
    refine st10.trans ?_
    show own_K p e below m T10 51 #[rv oa, lv qo, .second] [(.int ((qo - (qo / (xs.toInt64)) * (xs.toInt64)).toInt32)), (.ref bl)] _
    refine st11.trans ?_
    exact k
  have hq13 : (if ((0 : Int64) &&& ((1 : Int64) <<< (((qo - (qo / (xs.toInt64)) * (xs.toInt64)).toInt32) &&& 0x3f).toInt64)) = (0 : Int64) then (0 : Int32) else (1 : Int32)) = (0 : Int32) := (if_pos (own_and0 rfl))
  have pre13 : ∀ t, own_K p e below m T11 54 #[rv oa, lv qo, .second] [(.int (0 : Int32))] t → G t := fun t k => pre12 t (by rw [hq13]; exact k)
  have pre14 : ∀ t, own_K p e below m T11 62 #[rv oa, lv qo, .second] [(.int (1 : Int32))] t → G t := by
    intro t k
    refine pre13 t ?_
    show own_K p e below m T11 54 #[rv oa, lv qo, .second] [(.int (0 : Int32))] _
    refine XS.ifNo X11.here hx rfl (hb hby d25_54) rfl ((if0 _ _).trans (teq (by decide : (0 : Int32) = (0 : Int32))).2) ?_
    show own_K p e below m T11 57 #[rv oa, lv qo, .second] [] _
    refine XS.iconst X11.here hx rfl (hb hby d25_57) ?_
    show own_K p e below m T11 58 #[rv oa, lv qo, .second] [(.int (1 : Int32))] _
    refine XS.goto X11.here hx rfl (pc0 := 58) (pc' := 62) rfl (hb hby d25_58) (by decide) (by decide) ?_
    exact k
  obtain ⟨fs, hr, hrun, hended, hW, hsame⟩ := X11.leave (v := some (.int (1 : Int32))) (fun h => by rw [Bd.returns] at h; cases h)
  refine ⟨_, _, hG _ (pre14 _ ?_), hrun, hended, _, _, rfl, ?_, ⟨_, rfl⟩, hW, hsame.mono (by decide) (by decide)⟩
  · show own_K p e below m T11 62 #[rv oa, lv qo, .second] [(.int (1 : Int32))] _
    exact retN X11 hx (t := .boolean) Bd.returns (by simp) (hb hby d25_62) hr
  · show Q25b Z oa qo qu qn xs xw bf of kf bl ol kl el ea kE h0 n0 _ T11.heap _
    rw [eh11]
    exact ⟨rfl, N11, rfl⟩

def Q25c (Z : State) (oa : Addr) (qo : Int64) (qn : Int64) (xs : Int32) (bl : Addr) (ol : Addr) (kl : ClassId) (el : Addr) (ea : Addr) (kE : ClassId) (h0 : Heap) (n0 : Nat) (rv_ : Option Value) (h_ : Heap) (L_ : List Loc) : Prop := rv_ = some (.int (1 : Int32)) ∧ Fr n0 L_ ∧ h_ = h0
set_option maxRecDepth 65536 in
set_option maxHeartbeats 40000000 in
theorem rm25c (l : Launch) (Z : State) (a0 : Array Value) (hw : ∀ d ∈ tables_1, d.before a0 Z = true) (ws : List Jvm.Cond) (oa : Addr) (qo : Int64) (qn : Int64) (xs : Int32) (bl : Addr) (ol : Addr) (kl : ClassId) (el : Addr) (ea : Addr) (kE : ClassId) (h0 : Heap) (n0 : Nat) (Z0 : n0 ≤ h0.size) (E_ : Exa Z h0 oa "evenkeel/client/Window") (Fu : Fld Z h0 oa "evenkeel/client/Window" "unfinished" "J" (.long qo)) (Fn : Fld Z h0 oa "evenkeel/client/Window" "next" "J" (.long qn)) (Fs : Fld Z h0 oa "evenkeel/client/Window" "size" "I" (.int xs)) (Fl : Fld Z h0 oa "evenkeel/client/Window" "left" "Ljava/util/BitSet;" (.ref bl)) (El : Exa Z h0 bl "java/util/BitSet") (Fwl : Fld Z h0 bl "java/util/BitSet" "wordsInUse" "I" (.int (own_wu (0 : Int64)))) (Fxl : Fld Z h0 bl "java/util/BitSet" "words" "[J" (.ref ol)) (Vxl : Arv Z h0 ol kl .long (1 : Int32) [(.long (0 : Int64))] (.long (0 : Int64))) (hsz : 1 ≤ xs.toInt ∧ xs.toInt ≤ 4) (hq0 : 0 ≤ qo.toInt) (h2 : qo < qn) (O_ : Old Z n0 h0) (P_ : own_P Z el ea kE) :
    MetFree l (⟨"evenkeel/client/Window", "inHand", "(J)Z"⟩ : MethodName) (head1 (Jvm.Cond.code (⟨"evenkeel/client/Window", "inHand", "(J)Z"⟩ : MethodName) prog_141_method_12_code 3 (some .boolean) :: ws) ({ frames := 2, cells := 0, slots := 0, locals := 26 } : Room)) (fun a U => a = #[(.ref oa), (.long qo)] ∧ Z.Warmed39 U.vm ∧ U.heap = h0) (fun _ _ _ _ _ => True) (fun _ U o U' => ∃ v L, o = .returned v ∧ Q25c Z oa qo qn xs bl ol kl el ea kE h0 n0 v U'.heap L ∧ FrameEnd U o U' L ({ frames := 2, cells := 0, slots := 0, locals := 26 } : Room).cells ({ frames := 2, cells := 0, slots := 0, locals := 26 } : Room).slots) := by
  refine MetFree.of_bodySF (plainFor_of_name pn_8) hisR ?_
  intro p e s m args below meth c s₁ Bd hml0 hP hK
  obtain ⟨rfl, hZ, hh⟩ := hP
  have hx := Bd.exec
  have hby := Bd.bytes
  have hml : c.maxLocals = 3 := hml0
  have hown : s.vm.findClass "evenkeel/client/Window" = some m.cls := findClass_of_methodNamed Bd.named
  have hnm := (name_of_methodNamed Bd.named Bd.method).1
  have X0 : Stand p l e ({ frames := 2, cells := 0, slots := 0, locals := 26 } : Room) s m #[(.ref oa), (.long qo)] below meth c s₁ [] 0 0 := Stand.of_body Bd
  have e0 : s₁.heap = h0 := by rw [← hh, Bd.state]; rfl
  have N0 := Fr.nil n0
  obtain ⟨G, hG, pre0⟩ : ∃ G : State → Prop, (∀ t, G t → Steps p.tables e below (s₁.setTop (entryFrame m #[(.ref oa), (.long qo)] 3)) t) ∧ ∀ t, own_K p e below m s₁ 0 #[rv oa, lv qo, .second] [] t → G t := ⟨fun t => Steps p.tables e below (s₁.setTop (entryFrame m #[(.ref oa), (.long qo)] 3)) t, fun _ k => k, fun t k => castTop (ef_25f m oa qo) k⟩
  obtain ⟨T1, X1, e1, st1⟩ := getF X0 hx hZ hown (host := "") (Or.inl (tw hw (i := 142) rfl)) Via.refl e0 Fu (g := (mkF m 2 #[rv oa, lv qo, .second] [(.ref oa), (.long qo)])) rfl rfl (hb hby d25_2)
  obtain ⟨T2, X2, e2, st2⟩ := getF X1 hx hZ hown (host := "") (Or.inl (tw hw (i := 144) rfl)) Via.refl e1 Fn (g := (mkF m 11 #[rv oa, lv qo, .second] [(.ref oa), (.long qo)])) rfl rfl (hb hby d25_11)
  obtain ⟨T3, X3, e3, st3⟩ := getF X2 hx hZ hown (host := "") (Or.inl (tw hw (i := 142) rfl)) Via.refl e2 Fu (g := (mkF m 20 #[rv oa, lv qo, .second] [(.ref oa), (.long qo)])) rfl rfl (hb hby d25_20)
  obtain ⟨T4, X4, e4, st4⟩ := getF X3 hx hZ hown (host := "") (Or.inl (tw hw (i := 131) rfl)) Via.refl e3 Fl (g := (mkF m 43 #[rv oa, lv qo, .second] [(.ref oa)])) rfl rfl (hb hby d25_43)
  obtain ⟨cq5, q5, q5'⟩ := E_.cell
  obtain ⟨_, _, ⟨T5, L5, k5, n5⟩, -, X5, ⟨Lc5, hQ5, l5, y5, z5⟩, st5⟩ := X4.privateBack hx (y := (⟨"evenkeel/client/Window", "bit", "(J)I"⟩ : MethodName)) hown (mvT hZ (tw hw (i := 212) rfl)) (mvT hZ (tw hw (i := 213) rfl)) (own_selp hZ (tw hw (i := 3) rfl) (tw hw (i := 214) rfl) (tw hw (i := 213) rfl) (by decide)) (Cond.privateMethod_at (mvP hZ (tw hw (i := 214) rfl) (args := #[]))) (mvT hZ (tw hw (i := 215) rfl)) (by decide) (backOf (W := 1) (rm27 l Z a0 hw [] oa qo xs h0 n0 Z0 Fs (own_snz hsz)) hZ (tw hw (i := 215) rfl) (tw hw (i := 4) rfl) (by decide) (by decide)) (g := (mkF m 48 #[rv oa, lv qo, .second] [(.long qo), (.ref oa), (.ref bl)])) rfl (by rw [hml]; rfl) (Steps.refl _) (a := oa) (by rw [e4]; exact q5) q5' (argsL := [(.long qo)]) (rest := [(.ref bl)]) (lenOf pd_12 rfl) rfl (by show 2 * 0 + _ ≤ _; exact Nat.le_of_eq rfl) (hb hby d25_48) (fun _ _ => ⟨rfl, e4, (by decide : 0 + 0 ≤ _), (by decide : 0 + 0 ≤ _)⟩)
  dsimp only [Pt.U, Pt.locs, Pt.cells, Pt.slots] at X5 l5 y5 z5 st5 hQ5
  subst l5 y5 z5
  obtain ⟨rfl, Nq5, eh5⟩ := hQ5
  have N5 := Fr.app N0 Nq5
  obtain ⟨cq6, kq6, q6a, q6b, q6c⟩ := isOf hZ eh5 El
  obtain ⟨_, _, ⟨T6, L6, k6, n6⟩, -, X6, ⟨Lc6, hQ6, l6, y6, z6⟩, st6⟩ := X5.virtualBack hx (y := (⟨"java/util/BitSet", "get", "(I)Z"⟩ : MethodName)) (z := (⟨"java/util/BitSet", "get", "(I)Z"⟩ : MethodName)) hown (mvT hZ (tw hw (i := 216) rfl)) (mvT hZ (tw hw (i := 217) rfl)) (notFace_of_selects (args := #[]) (mvT hZ (tw hw (i := 219) rfl))) (mvT hZ (tw hw (i := 219) rfl)) (mvT hZ (tw hw (i := 218) rfl)) (by decide) (backOf (W := 0) (rm28 l Z a0 hw [] bl ((qo - (qo / (xs.toInt64)) * (xs.toInt64)).toInt32) (0 : Int64) ol kl el ea kE h0 n0 Z0 El Fwl Fxl Vxl (own_bit0 hq0 hsz) (own_bit6 hq0 hsz) O_ P_) hZ (tw hw (i := 220) rfl) (tw hw (i := 106) rfl) (by decide) (by decide)) q6a q6c (g := (mkF m 51 #[rv oa, lv qo, .second] [(.int ((qo - (qo / (xs.toInt64)) * (xs.toInt64)).toInt32)), (.ref bl)])) rfl (by rw [hml]; rfl) (Steps.refl _) (argsL := [(.int ((qo - (qo / (xs.toInt64)) * (xs.toInt64)).toInt32))]) (rest := []) (lenOf pd_13 rfl) rfl (by show 2 * 0 + _ ≤ _; exact Nat.le_of_eq rfl) (hb hby d25_51) (fun _ _ => ⟨rfl, eh5, (by decide : 0 + 0 ≤ _), (by decide : 0 + 0 ≤ _)⟩)
  dsimp only [Pt.U, Pt.locs, Pt.cells, Pt.slots] at X6 l6 y6 z6 st6 hQ6
  subst l6 y6 z6
  obtain ⟨rfl, Nq6, eh6⟩ := hQ6
  have N6 := Fr.app N5 Nq6
  have pre7 : ∀ t, own_K p e below m T6 54 #[rv oa, lv qo, .second] [(.int (if ((0 : Int64) &&& ((1 : Int64) <<< (((qo - (qo / (xs.toInt64)) * (xs.toInt64)).toInt32) &&& 0x3f).toInt64)) = (0 : Int64) then (0 : Int32) else (1 : Int32)))] t → G t := by
    intro t k
    refine pre0 t ?_
    show own_K p e below m s₁ 0 #[rv oa, lv qo, .second] [] _
    refine XS.lloadN X0.here hx rfl (hb hby d25_0) rfl ?_
    show own_K p e below m s₁ 1 #[rv oa, lv qo, .second] [(.long qo)] _
    refine XS.aloadN X0.here hx rfl (hb hby d25_1) rfl rfl ?_
    show own_K p e below m s₁ 2 #[rv oa, lv qo, .second] [(.ref oa), (.long qo)] _
    refine st1 _ ?_
    show own_K p e below m T1 5 #[rv oa, lv qo, .second] [(.long qo), (.long qo)] _
    refine XS.lcmp X1.here hx rfl (hb hby d25_5) rfl ?_
    show own_K p e below m T1 6 #[rv oa, lv qo, .second] [(.int (lcmpW qo qo))] _
    refine XS.ifNo X1.here hx rfl (hb hby d25_6) rfl ((if0 _ _).trans (flt (mt (lw_lt _ _).mp (own_irr _))).1) ?_
    show own_K p e below m T1 9 #[rv oa, lv qo, .second] [] _
    refine XS.lloadN X1.here hx rfl (hb hby d25_9) rfl ?_
    show own_K p e below m T1 10 #[rv oa, lv qo, .second] [(.long qo)] _
    refine XS.aloadN X1.here hx rfl (hb hby d25_10) rfl rfl ?_
    show own_K p e below m T1 11 #[rv oa, lv qo, .second] [(.ref oa), (.long qo)] _
    refine st2 _ ?_
    show own_K p e below m T2 14 #[rv oa, lv qo, .second] [(.long qn), (.long qo)] _
    refine XS.lcmp X2.here hx rfl (hb hby d25_14) rfl ?_
    show own_K p e below m T2 15 #[rv oa, lv qo, .second] [(.int (lcmpW qo qn))] _
    refine XS.ifNo X2.here hx rfl (hb hby d25_15) rfl ((if0 _ _).trans (tlt ((lw_lt _ _).mpr h2)).2.1) ?_
    show own_K p e below m T2 18 #[rv oa, lv qo, .second] [] _
    refine XS.lloadN X2.here hx rfl (hb hby d25_18) rfl ?_
    show own_K p e below m T2 19 #[rv oa, lv qo, .second] [(.long qo)] _
    refine XS.aloadN X2.here hx rfl (hb hby d25_19) rfl rfl ?_
    show own_K p e below m T2 20 #[rv oa, lv qo, .second] [(.ref oa), (.long qo)] _
    refine st3 _ ?_
    show own_K p e below m T3 23 #[rv oa, lv qo, .second] [(.long qo), (.long qo)] _
    refine XS.lcmp X3.here hx rfl (hb hby d25_23) rfl ?_
    show own_K p e below m T3 24 #[rv oa, lv qo, .second] [(.int (lcmpW qo qo))] _
    refine XS.ifYes X3.here hx rfl (pc0 := 24) (pc' := 42) rfl (hb hby d25_24) rfl ((if0 _ _).trans (teq ((lw_eq _ _).mpr (rfl : qo = qo))).1) (by decide) (by decide) ?_
    show own_K p e below m T3 42 #[rv oa, lv qo, .second] [] _
    refine XS.aloadN X3.here hx rfl (hb hby d25_42) rfl rfl ?_
    show own_K p e below m T3 43 #[rv oa, lv qo, .second] [(.ref oa)] _
    refine st4 _ ?_
    show own_K p e below m T4 46 #[rv oa, lv qo, .second] [(.ref bl)] _
    refine XS.aloadN X4.here hx rfl (hb hby d25_46) rfl rfl ?_
    show own_K p e below m T4 47 #[rv oa, lv qo, .second] [(.ref oa), (.ref bl)] _
    refine XS.lloadN X4.here hx rfl (hb hby d25_47) rfl ?_
    show own_K p e below m T4 48 #[rv oa, lv qo, .second] [(.long qo), (.ref oa), (.ref bl)] _
    refine st5.trans ?_
    show own_K p e below m T5 51 #[rv oa, lv qo, .second] [(.int ((qo - (qo / (xs.toInt64)) * (xs.toInt64)).toInt32)), (.ref bl)] _
    refine st6.trans ?_
    exact k
  have hq8 : (if ((0 : Int64) &&& ((1 : Int64) <<< (((qo - (qo / (xs.toInt64)) * (xs.toInt64)).toInt32) &&& 0x3f).toInt64)) = (0 : Int64) then (0 : Int32) else (1 : Int32)) = (0 : Int32) := (if_pos (own_and0 rfl))
  have pre8 : ∀ t, own_K p e below m T6 54 #[rv oa, lv qo, .second] [(.int (0 : Int32))] t → G t := fun t k => pre7 t (by rw [hq8]; exact k)
  have pre9 : ∀ t, own_K p e below m T6 62 #[rv oa, lv qo, .second] [(.int (1 : Int32))] t → G t := by
    intro t k
    refine pre8 t ?_
    show own_K p e below m T6 54 #[rv oa, lv qo, .second] [(.int (0 : Int32))] _
    refine XS.ifNo X6.here hx rfl (hb hby d25_54) rfl ((if0 _ _).trans (teq (by decide : (0 : Int32) = (0 : Int32))).2) ?_
    show own_K p e below m T6 57 #[rv oa, lv qo, .second] [] _
    refine XS.iconst X6.here hx rfl (hb hby d25_57) ?_
    show own_K p e below m T6 58 #[rv oa, lv qo, .second] [(.int (1 : Int32))] _
    refine XS.goto X6.here hx rfl (pc0 := 58) (pc' := 62) rfl (hb hby d25_58) (by decide) (by decide) ?_
    exact k
  obtain ⟨fs, hr, hrun, hended, hW, hsame⟩ := X6.leave (v := some (.int (1 : Int32))) (fun h => by rw [Bd.returns] at h; cases h)
  refine ⟨_, _, hG _ (pre9 _ ?_), hrun, hended, _, _, rfl, ?_, ⟨_, rfl⟩, hW, hsame.mono (by decide) (by decide)⟩
  · show own_K p e below m T6 62 #[rv oa, lv qo, .second] [(.int (1 : Int32))] _
    exact retN X6 hx (t := .boolean) Bd.returns (by simp) (hb hby d25_62) hr
  · show Q25c Z oa qo qn xs bl ol kl el ea kE h0 n0 _ T6.heap _
    rw [eh6]
    exact ⟨rfl, N6, rfl⟩

def Q22r (Z : State) (oa : Addr) (qo : Int64) (qu : Int64) (qn : Int64) (uf_oa_size : Value) (uf_oa_committed : Value) (uf_oa_committedAhead : Value) (uf_oa_finished : Value) (uf_oa_consumed : Value) (uf_oa_consumedAt : Value) (uf_oa_left : Value) (uf_oa_failing : Value) (uf_oa_committedFailures : Value) (h0 : Heap) (n0 : Nat) (rv_ : Option Value) (h_ : Heap) (L_ : List Loc) : Prop := rv_ = some (.int (0 : Int32)) ∧ Fr n0 L_ ∧ Keep h0 h_ [oa] ∧ Fld Z h_ oa "evenkeel/client/Window" "restart" "J" (.long qo) ∧ Fld Z h_ oa "evenkeel/client/Window" "size" "I" uf_oa_size ∧ Fld Z h_ oa "evenkeel/client/Window" "committed" "J" uf_oa_committed ∧ Fld Z h_ oa "evenkeel/client/Window" "committedAhead" "Ljava/util/List;" uf_oa_committedAhead ∧ Fld Z h_ oa "evenkeel/client/Window" "unfinished" "J" (.long qu) ∧ Fld Z h_ oa "evenkeel/client/Window" "next" "J" (.long qn) ∧ Fld Z h_ oa "evenkeel/client/Window" "finished" "Ljava/util/BitSet;" uf_oa_finished ∧ Fld Z h_ oa "evenkeel/client/Window" "consumed" "Ljava/util/List;" uf_oa_consumed ∧ Fld Z h_ oa "evenkeel/client/Window" "consumedAt" "I" uf_oa_consumedAt ∧ Fld Z h_ oa "evenkeel/client/Window" "left" "Ljava/util/BitSet;" uf_oa_left ∧ Fld Z h_ oa "evenkeel/client/Window" "failing" "Ljava/util/TreeMap;" uf_oa_failing ∧ Fld Z h_ oa "evenkeel/client/Window" "committedFailures" "Ljava/util/List;" uf_oa_committedFailures
set_option maxRecDepth 65536 in
set_option maxHeartbeats 40000000 in
theorem rm22r (l : Launch) (Z : State) (a0 : Array Value) (hw : ∀ d ∈ tables_1, d.before a0 Z = true) (ws : List Jvm.Cond) (oa : Addr) (qo : Int64) (qu : Int64) (qn : Int64) (uf_oa_size : Value) (uf_oa_committed : Value) (uf_oa_committedAhead : Value) (uf_oa_finished : Value) (uf_oa_consumed : Value) (uf_oa_consumedAt : Value) (uf_oa_left : Value) (uf_oa_failing : Value) (uf_oa_committedFailures : Value) (h0 : Heap) (n0 : Nat) (Z0 : n0 ≤ h0.size) (E_ : Exa Z h0 oa "evenkeel/client/Window") (Fu : Fld Z h0 oa "evenkeel/client/Window" "unfinished" "J" (.long qu)) (Fn : Fld Z h0 oa "evenkeel/client/Window" "next" "J" (.long qn)) (Fr_ : Fld Z h0 oa "evenkeel/client/Window" "restart" "J" (.long qo)) (g_ : n0 ≤ oa) (hne : ¬ qu = qn) (F_oa_size : Fld Z h0 oa "evenkeel/client/Window" "size" "I" uf_oa_size) (F_oa_committed : Fld Z h0 oa "evenkeel/client/Window" "committed" "J" uf_oa_committed) (F_oa_committedAhead : Fld Z h0 oa "evenkeel/client/Window" "committedAhead" "Ljava/util/List;" uf_oa_committedAhead) (F_oa_finished : Fld Z h0 oa "evenkeel/client/Window" "finished" "Ljava/util/BitSet;" uf_oa_finished) (F_oa_consumed : Fld Z h0 oa "evenkeel/client/Window" "consumed" "Ljava/util/List;" uf_oa_consumed) (F_oa_consumedAt : Fld Z h0 oa "evenkeel/client/Window" "consumedAt" "I" uf_oa_consumedAt) (F_oa_left : Fld Z h0 oa "evenkeel/client/Window" "left" "Ljava/util/BitSet;" uf_oa_left) (F_oa_failing : Fld Z h0 oa "evenkeel/client/Window" "failing" "Ljava/util/TreeMap;" uf_oa_failing) (F_oa_committedFailures : Fld Z h0 oa "evenkeel/client/Window" "committedFailures" "Ljava/util/List;" uf_oa_committedFailures) :
    MetFree l (⟨"evenkeel/client/Window", "skip", "(J)Z"⟩ : MethodName) (head1 (Jvm.Cond.code (⟨"evenkeel/client/Window", "skip", "(J)Z"⟩ : MethodName) prog_141_method_5_code 3 (some .boolean) :: ws) ({ frames := 1, cells := 0, slots := 0, locals := 16 } : Room)) (fun a U => a = #[(.ref oa), (.long qo)] ∧ Z.Warmed39 U.vm ∧ U.heap = h0) (fun _ _ _ _ _ => True) (fun _ U o U' => ∃ v L, o = .returned v ∧ Q22r Z oa qo qu qn uf_oa_size uf_oa_committed uf_oa_committedAhead uf_oa_finished uf_oa_consumed uf_oa_consumedAt uf_oa_left uf_oa_failing uf_oa_committedFailures h0 n0 v U'.heap L ∧ FrameEnd U o U' L ({ frames := 1, cells := 0, slots := 0, locals := 16 } : Room).cells ({ frames := 1, cells := 0, slots := 0, locals := 16 } : Room).slots) := by
  refine MetFree.of_bodySF (plainFor_of_name pn_8) hisR ?_
  intro p e s m args below meth c s₁ Bd hml0 hP hK
  obtain ⟨rfl, hZ, hh⟩ := hP
  have hx := Bd.exec
  have hby := Bd.bytes
  have hml : c.maxLocals = 3 := hml0
  have hown : s.vm.findClass "evenkeel/client/Window" = some m.cls := findClass_of_methodNamed Bd.named
  have hnm := (name_of_methodNamed Bd.named Bd.method).1
  have X0 : Stand p l e ({ frames := 1, cells := 0, slots := 0, locals := 16 } : Room) s m #[(.ref oa), (.long qo)] below meth c s₁ [] 0 0 := Stand.of_body Bd
  have e0 : s₁.heap = h0 := by rw [← hh, Bd.state]; rfl
  have N0 := Fr.nil n0
  obtain ⟨G, hG, pre0⟩ : ∃ G : State → Prop, (∀ t, G t → Steps p.tables e below (s₁.setTop (entryFrame m #[(.ref oa), (.long qo)] 3)) t) ∧ ∀ t, own_K p e below m s₁ 0 #[rv oa, lv qo, .second] [] t → G t := ⟨fun t => Steps p.tables e below (s₁.setTop (entryFrame m #[(.ref oa), (.long qo)] 3)) t, fun _ k => k, fun t k => castTop (ef_22 m oa qo) k⟩
  obtain ⟨cq1, q1, q1'⟩ := E_.cell
  obtain ⟨_, _, ⟨T1, L1, k1, n1⟩, -, X1, ⟨Lc1, hQ1, l1, y1, z1⟩, st1⟩ := X0.privateBack hx (y := (⟨"evenkeel/client/Window", "allFinished", "()Z"⟩ : MethodName)) hown (mvT hZ (tw hw (i := 191) rfl)) (mvT hZ (tw hw (i := 192) rfl)) (own_selp hZ (tw hw (i := 3) rfl) (tw hw (i := 193) rfl) (tw hw (i := 192) rfl) (by decide)) (Cond.privateMethod_at (mvP hZ (tw hw (i := 193) rfl) (args := #[]))) (mvT hZ (tw hw (i := 194) rfl)) (by decide) (backOf (W := 0) (rm23 l Z a0 hw [] oa qu qn h0 n0 Z0 Fu Fn) hZ (tw hw (i := 194) rfl) (tw hw (i := 4) rfl) (by decide) (by decide)) (g := (mkF m 1 #[rv oa, lv qo, .second] [(.ref oa)])) rfl (by rw [hml]; rfl) (Steps.refl _) (a := oa) (by rw [e0]; exact q1) q1' (argsL := []) (rest := []) (lenOf pd_5 rfl) rfl (by show 2 * 0 + _ ≤ _; exact Nat.le_of_eq rfl) (hb hby d22_1) (fun _ _ => ⟨rfl, e0, (by decide : 0 + 0 ≤ _), (by decide : 0 + 0 ≤ _)⟩)
  dsimp only [Pt.U, Pt.locs, Pt.cells, Pt.slots] at X1 l1 y1 z1 st1 hQ1
  subst l1 y1 z1
  obtain ⟨rfl, Nq1, eh1⟩ := hQ1
  have N1 := Fr.app N0 Nq1
  have pre2 : ∀ t, own_K p e below m T1 4 #[rv oa, lv qo, .second] [(.int (if qu = qn then (1 : Int32) else (0 : Int32)))] t → G t := by
    intro t k
    refine pre0 t ?_
    show own_K p e below m s₁ 0 #[rv oa, lv qo, .second] [] _
    refine XS.aloadN X0.here hx rfl (hb hby d22_0) rfl rfl ?_
    show own_K p e below m s₁ 1 #[rv oa, lv qo, .second] [(.ref oa)] _
    refine st1.trans ?_
    exact k
  have hq3 : (if qu = qn then (1 : Int32) else (0 : Int32)) = (0 : Int32) := (if_neg hne)
  have pre3 : ∀ t, own_K p e below m T1 4 #[rv oa, lv qo, .second] [(.int (0 : Int32))] t → G t := fun t k => pre2 t (by rw [hq3]; exact k)
  obtain ⟨T4, X4, e4, st4⟩ := getF X1 hx hZ hown (host := "") (Or.inl (tw hw (i := 129) rfl)) Via.refl eh1 Fr_ (g := (mkF m 56 #[rv oa, lv qo, .second] [(.ref oa), (.ref oa)])) rfl rfl (hb hby d22_56)
  obtain ⟨_, _, ⟨T5, L5, k5, n5⟩, -, X5, ⟨Lc5, hQ5, l5, y5, z5⟩, st5⟩ := Jvm.LawKit.callS X4 hx (y := (⟨"java/lang/Math", "max", "(JJ)J"⟩ : MethodName)) hown (mvT hZ (tw hw (i := 208) rfl)) (mvT hZ (tw hw (i := 209) rfl)) (mvT hZ (tw hw (i := 210) rfl)) (mvT hZ (tw hw (i := 211) rfl)) (by decide) (backOf (W := 1) (rm26 l Z a0 hw [] qo qo h0 n0 Z0 ) hZ (tw hw (i := 211) rfl) (tw hw (i := 210) rfl) (by decide) (by decide)) (g := (mkF m 60 #[rv oa, lv qo, .second] [(.long qo), (.long qo), (.ref oa)])) rfl (by rw [hml]; rfl) (argsL := [(.long qo), (.long qo)]) (rest := [(.ref oa)]) (lenOf pd_11 rfl) rfl (by show 2 * 0 + _ ≤ _; exact Nat.le_of_eq rfl) (hb hby d22_60) (fun _ _ => ⟨rfl, e4, (by decide : 0 + 0 ≤ _), (by decide : 0 + 0 ≤ _)⟩)
  dsimp only [Pt.U, Pt.locs, Pt.cells, Pt.slots] at X5 l5 y5 z5 st5 hQ5
  subst l5 y5 z5
  obtain ⟨rfl, Nq5, eh5⟩ := hQ5
  have N5 := Fr.app N1 Nq5
  obtain ⟨T6, h6, X6, e6, W6, st6⟩ := putF X5 hx hZ hown (host := "") (Or.inl (tw hw (i := 129) rfl)) Via.refl eh5 Fr_ E_ (Or.inl (tw hw (i := 130) rfl)) (tw hw (i := 3) rfl) (ty := .long) (by decide) rfl rfl (g := (mkF m 63 #[rv oa, lv qo, .second] [(.long (if qo < qo then qo else qo)), (.ref oa)])) rfl rfl (hb hby d22_63)
  have f6w := Fr_.same W6
  have K6 : Keep h0 h6 [oa] := (Keep.refl h0 [oa]).wr W6 (Or.inl (List.mem_of_getElem? (i := 0) rfl))
  have N6 := Fr.snoc X6 N5 g_
  have sz6 : n0 ≤ h6.size := Nat.le_trans Z0 (Keep.of_wr W6).1
  have pre7 : ∀ t, own_K p e below m T6 67 #[rv oa, lv qo, .second] [(.int (0 : Int32))] t → G t := by
    intro t k
    refine pre3 t ?_
    show own_K p e below m T1 4 #[rv oa, lv qo, .second] [(.int (0 : Int32))] _
    refine XS.ifYes X1.here hx rfl (pc0 := 4) (pc' := 54) rfl (hb hby d22_4) rfl ((if0 _ _).trans (teq (by decide : (0 : Int32) = (0 : Int32))).1) (by decide) (by decide) ?_
    show own_K p e below m T1 54 #[rv oa, lv qo, .second] [] _
    refine XS.aloadN X1.here hx rfl (hb hby d22_54) rfl rfl ?_
    show own_K p e below m T1 55 #[rv oa, lv qo, .second] [(.ref oa)] _
    refine XS.aloadN X1.here hx rfl (hb hby d22_55) rfl rfl ?_
    show own_K p e below m T1 56 #[rv oa, lv qo, .second] [(.ref oa), (.ref oa)] _
    refine st4 _ ?_
    show own_K p e below m T4 59 #[rv oa, lv qo, .second] [(.long qo), (.ref oa)] _
    refine XS.lloadN X4.here hx rfl (hb hby d22_59) rfl ?_
    show own_K p e below m T4 60 #[rv oa, lv qo, .second] [(.long qo), (.long qo), (.ref oa)] _
    refine st5 _ ?_
    show own_K p e below m T5 63 #[rv oa, lv qo, .second] [(.long (if qo < qo then qo else qo)), (.ref oa)] _
    refine st6 _ ?_
    show own_K p e below m T6 66 #[rv oa, lv qo, .second] [] _
    refine XS.iconst X6.here hx rfl (hb hby d22_66) ?_
    exact k
  have f8 : Fld Z h6 oa "evenkeel/client/Window" "size" "I" uf_oa_size := (F_oa_size.other W6 (Or.inr (slot_ne (Or.inr (tw hw (i := 134) rfl)) (Or.inl (tw hw (i := 130) rfl)) (by decide) (t := .int) (t' := .long) (by decide) (by decide))))
  have f9 : Fld Z h6 oa "evenkeel/client/Window" "committed" "J" uf_oa_committed := (F_oa_committed.other W6 (Or.inr (slot_ne (Or.inl (tw hw (i := 141) rfl)) (Or.inl (tw hw (i := 130) rfl)) (by decide) (t := .long) (t' := .long) (by decide) (by decide))))
  have f10 : Fld Z h6 oa "evenkeel/client/Window" "committedAhead" "Ljava/util/List;" uf_oa_committedAhead := (F_oa_committedAhead.other W6 (Or.inr (slot_ne (Or.inl (tw hw (i := 103) rfl)) (Or.inl (tw hw (i := 130) rfl)) (by decide) (t := (.object "java/util/List")) (t' := .long) (by decide) (by decide))))
  have f11 : Fld Z h6 oa "evenkeel/client/Window" "unfinished" "J" (.long qu) := (Fu.other W6 (Or.inr (slot_ne (Or.inl (tw hw (i := 143) rfl)) (Or.inl (tw hw (i := 130) rfl)) (by decide) (t := .long) (t' := .long) (by decide) (by decide))))
  have f12 : Fld Z h6 oa "evenkeel/client/Window" "next" "J" (.long qn) := (Fn.other W6 (Or.inr (slot_ne (Or.inl (tw hw (i := 145) rfl)) (Or.inl (tw hw (i := 130) rfl)) (by decide) (t := .long) (t' := .long) (by decide) (by decide))))
  have f13 : Fld Z h6 oa "evenkeel/client/Window" "finished" "Ljava/util/BitSet;" uf_oa_finished := (F_oa_finished.other W6 (Or.inr (slot_ne (Or.inr (tw hw (i := 127) rfl)) (Or.inl (tw hw (i := 130) rfl)) (by decide) (t := (.object "java/util/BitSet")) (t' := .long) (by decide) (by decide))))
  have f14 : Fld Z h6 oa "evenkeel/client/Window" "consumed" "Ljava/util/List;" uf_oa_consumed := (F_oa_consumed.other W6 (Or.inr (slot_ne (Or.inr (tw hw (i := 152) rfl)) (Or.inl (tw hw (i := 130) rfl)) (by decide) (t := (.object "java/util/List")) (t' := .long) (by decide) (by decide))))
  have f15 : Fld Z h6 oa "evenkeel/client/Window" "consumedAt" "I" uf_oa_consumedAt := (F_oa_consumedAt.other W6 (Or.inr (slot_ne (Or.inl (tw hw (i := 174) rfl)) (Or.inl (tw hw (i := 130) rfl)) (by decide) (t := .int) (t' := .long) (by decide) (by decide))))
  have f16 : Fld Z h6 oa "evenkeel/client/Window" "left" "Ljava/util/BitSet;" uf_oa_left := (F_oa_left.other W6 (Or.inr (slot_ne (Or.inr (tw hw (i := 132) rfl)) (Or.inl (tw hw (i := 130) rfl)) (by decide) (t := (.object "java/util/BitSet")) (t' := .long) (by decide) (by decide))))
  have f17 : Fld Z h6 oa "evenkeel/client/Window" "failing" "Ljava/util/TreeMap;" uf_oa_failing := (F_oa_failing.other W6 (Or.inr (slot_ne (Or.inl (tw hw (i := 196) rfl)) (Or.inl (tw hw (i := 130) rfl)) (by decide) (t := (.object "java/util/TreeMap")) (t' := .long) (by decide) (by decide))))
  have f18 : Fld Z h6 oa "evenkeel/client/Window" "committedFailures" "Ljava/util/List;" uf_oa_committedFailures := (F_oa_committedFailures.other W6 (Or.inr (slot_ne (Or.inl (tw hw (i := 159) rfl)) (Or.inl (tw hw (i := 130) rfl)) (by decide) (t := (.object "java/util/List")) (t' := .long) (by decide) (by decide))))
  obtain ⟨fs, hr, hrun, hended, hW, hsame⟩ := X6.leave (v := some (.int (0 : Int32))) (fun h => by rw [Bd.returns] at h; cases h)
  refine ⟨_, _, hG _ (pre7 _ ?_), hrun, hended, _, _, rfl, ?_, ⟨_, rfl⟩, hW, hsame.mono (by decide) (by decide)⟩
  · show own_K p e below m T6 67 #[rv oa, lv qo, .second] [(.int (0 : Int32))] _
    exact retN X6 hx (t := .boolean) Bd.returns (by simp) (hb hby d22_67) hr
  · show Q22r Z oa qo qu qn uf_oa_size uf_oa_committed uf_oa_committedAhead uf_oa_finished uf_oa_consumed uf_oa_consumedAt uf_oa_left uf_oa_failing uf_oa_committedFailures h0 n0 _ T6.heap _
    rw [e6]
    exact ⟨rfl, N6, K6, (by have q := f6w; rwa [ite_self] at q), f8, f9, f10, f11, f12, f13, f14, f15, f16, f17, f18⟩

theorem d24_0 : decode prog_141_method_11_code 0 = .ok (.aload_n 0, 1) := by decide +kernel
theorem d24_1 : decode prog_141_method_11_code 1 = .ok (.lload_n 1, 1) := by decide +kernel
theorem d24_2 : decode prog_141_method_11_code 2 = .ok (.invokevirtual 151, 3) := by decide +kernel
theorem pd_14 : parseMethodDescriptor "(J)Z" = some ⟨[.long], some .boolean⟩ := by decide +kernel
theorem d24_5 : decode prog_141_method_11_code 5 = .ok (.ifCond .ne 5, 3) := by decide +kernel
theorem d24_8 : decode prog_141_method_11_code 8 = .ok (.iconst 0, 1) := by decide +kernel
theorem d24_9 : decode prog_141_method_11_code 9 = .ok (.ireturn, 1) := by decide +kernel
theorem ef_24a (m : MethodId) (x0 : Addr) (x1 : Int64) : entryFrame m #[(.ref x0), (.long x1)] 3 = mkF m 0 #[rv x0, lv x1, .second] [] := by first | (simp [entryFrame, mkF, argsToLocals, Value.category]; done) | rfl
def Q24a (Z : State) (oa : Addr) (qo : Int64) (qu : Int64) (qn : Int64) (h0 : Heap) (n0 : Nat) (rv_ : Option Value) (h_ : Heap) (L_ : List Loc) : Prop := rv_ = some (.int (0 : Int32)) ∧ Fr n0 L_ ∧ h_ = h0
set_option maxRecDepth 65536 in
set_option maxHeartbeats 40000000 in
theorem rm24a (l : Launch) (Z : State) (a0 : Array Value) (hw : ∀ d ∈ tables_1, d.before a0 Z = true) (ws : List Jvm.Cond) (oa : Addr) (qo : Int64) (qu : Int64) (qn : Int64) (h0 : Heap) (n0 : Nat) (Z0 : n0 ≤ h0.size) (E_ : Exa Z h0 oa "evenkeel/client/Window") (Fu : Fld Z h0 oa "evenkeel/client/Window" "unfinished" "J" (.long qu)) (Fn : Fld Z h0 oa "evenkeel/client/Window" "next" "J" (.long qn)) (hout : qo < qu ∨ ¬ qo < qn) :
    MetFree l (⟨"evenkeel/client/Window", "finish", "(J)Z"⟩ : MethodName) (head1 (Jvm.Cond.code (⟨"evenkeel/client/Window", "finish", "(J)Z"⟩ : MethodName) prog_141_method_11_code 3 (some .boolean) :: ws) ({ frames := 1, cells := 0, slots := 0, locals := 14 } : Room)) (fun a U => a = #[(.ref oa), (.long qo)] ∧ Z.Warmed39 U.vm ∧ U.heap = h0) (fun _ _ _ _ _ => True) (fun _ U o U' => ∃ v L, o = .returned v ∧ Q24a Z oa qo qu qn h0 n0 v U'.heap L ∧ FrameEnd U o U' L ({ frames := 1, cells := 0, slots := 0, locals := 14 } : Room).cells ({ frames := 1, cells := 0, slots := 0, locals := 14 } : Room).slots) := by
  refine MetFree.of_bodySF (plainFor_of_name pn_8) hisR ?_
  intro p e s m args below meth c s₁ Bd hml0 hP hK
  obtain ⟨rfl, hZ, hh⟩ := hP
  have hx := Bd.exec
  have hby := Bd.bytes
  have hml : c.maxLocals = 3 := hml0
  have hown : s.vm.findClass "evenkeel/client/Window" = some m.cls := findClass_of_methodNamed Bd.named
  have hnm := (name_of_methodNamed Bd.named Bd.method).1
  have X0 : Stand p l e ({ frames := 1, cells := 0, slots := 0, locals := 14 } : Room) s m #[(.ref oa), (.long qo)] below meth c s₁ [] 0 0 := Stand.of_body Bd
  have e0 : s₁.heap = h0 := by rw [← hh, Bd.state]; rfl
  have N0 := Fr.nil n0
  obtain ⟨G, hG, pre0⟩ : ∃ G : State → Prop, (∀ t, G t → Steps p.tables e below (s₁.setTop (entryFrame m #[(.ref oa), (.long qo)] 3)) t) ∧ ∀ t, own_K p e below m s₁ 0 #[rv oa, lv qo, .second] [] t → G t := ⟨fun t => Steps p.tables e below (s₁.setTop (entryFrame m #[(.ref oa), (.long qo)] 3)) t, fun _ k => k, fun t k => castTop (ef_24a m oa qo) k⟩
  obtain ⟨cq1, q1, q1'⟩ := E_.cell
  obtain ⟨_, _, ⟨T1, L1, k1, n1⟩, -, X1, ⟨Lc1, hQ1, l1, y1, z1⟩, st1⟩ := X0.privateBack hx (y := (⟨"evenkeel/client/Window", "inHand", "(J)Z"⟩ : MethodName)) hown (mvT hZ (tw hw (i := 202) rfl)) (mvT hZ (tw hw (i := 203) rfl)) (own_selp hZ (tw hw (i := 3) rfl) (tw hw (i := 204) rfl) (tw hw (i := 203) rfl) (by decide)) (Cond.privateMethod_at (mvP hZ (tw hw (i := 204) rfl) (args := #[]))) (mvT hZ (tw hw (i := 205) rfl)) (by decide) (backOf (W := 0) (rm25f l Z a0 hw [] oa qo qu qn h0 n0 Z0 E_ Fu Fn hout) hZ (tw hw (i := 205) rfl) (tw hw (i := 4) rfl) (by decide) (by decide)) (g := (mkF m 2 #[rv oa, lv qo, .second] [(.long qo), (.ref oa)])) rfl (by rw [hml]; rfl) (Steps.refl _) (a := oa) (by rw [e0]; exact q1) q1' (argsL := [(.long qo)]) (rest := []) (lenOf pd_14 rfl) rfl (by show 2 * 0 + _ ≤ _; exact Nat.le_of_eq rfl) (hb hby d24_2) (fun _ _ => ⟨rfl, e0, (by decide : 0 + 0 ≤ _), (by decide : 0 + 0 ≤ _)⟩)
  dsimp only [Pt.U, Pt.locs, Pt.cells, Pt.slots] at X1 l1 y1 z1 st1 hQ1
  subst l1 y1 z1
  obtain ⟨rfl, Nq1, eh1⟩ := hQ1
  have N1 := Fr.app N0 Nq1
  have pre2 : ∀ t, own_K p e below m T1 9 #[rv oa, lv qo, .second] [(.int (0 : Int32))] t → G t := by
    intro t k
    refine pre0 t ?_
    show own_K p e below m s₁ 0 #[rv oa, lv qo, .second] [] _
    refine XS.aloadN X0.here hx rfl (hb hby d24_0) rfl rfl ?_
    show own_K p e below m s₁ 1 #[rv oa, lv qo, .second] [(.ref oa)] _
    refine XS.lloadN X0.here hx rfl (hb hby d24_1) rfl ?_
    show own_K p e below m s₁ 2 #[rv oa, lv qo, .second] [(.long qo), (.ref oa)] _
    refine st1.trans ?_
    show own_K p e below m T1 5 #[rv oa, lv qo, .second] [(.int (0 : Int32))] _
    refine XS.ifNo X1.here hx rfl (hb hby d24_5) rfl ((if0 _ _).trans (teq (by decide : (0 : Int32) = (0 : Int32))).2) ?_
    show own_K p e below m T1 8 #[rv oa, lv qo, .second] [] _
    refine XS.iconst X1.here hx rfl (hb hby d24_8) ?_
    exact k
  obtain ⟨fs, hr, hrun, hended, hW, hsame⟩ := X1.leave (v := some (.int (0 : Int32))) (fun h => by rw [Bd.returns] at h; cases h)
  refine ⟨_, _, hG _ (pre2 _ ?_), hrun, hended, _, _, rfl, ?_, ⟨_, rfl⟩, hW, hsame.mono (by decide) (by decide)⟩
  · show own_K p e below m T1 9 #[rv oa, lv qo, .second] [(.int (0 : Int32))] _
    exact retN X1 hx (t := .boolean) Bd.returns (by simp) (hb hby d24_9) hr
  · show Q24a Z oa qo qu qn h0 n0 _ T1.heap _
    rw [eh1]
    exact ⟨rfl, N1, rfl⟩

theorem d24_10 : decode prog_141_method_11_code 10 = .ok (.lload_n 1, 1) := by decide +kernel
theorem d24_11 : decode prog_141_method_11_code 11 = .ok (.aload_n 0, 1) := by decide +kernel
theorem d24_12 : decode prog_141_method_11_code 12 = .ok (.getfield 48, 3) := by decide +kernel
theorem d24_15 : decode prog_141_method_11_code 15 = .ok (.lcmp, 1) := by decide +kernel
theorem d24_16 : decode prog_141_method_11_code 16 = .ok (.ifCond .ne 81, 3) := by decide +kernel
theorem d24_97 : decode prog_141_method_11_code 97 = .ok (.aload_n 0, 1) := by decide +kernel
theorem d24_98 : decode prog_141_method_11_code 98 = .ok (.getfield 22, 3) := by decide +kernel
theorem d24_101 : decode prog_141_method_11_code 101 = .ok (.aload_n 0, 1) := by decide +kernel
theorem d24_102 : decode prog_141_method_11_code 102 = .ok (.lload_n 1, 1) := by decide +kernel
theorem d24_103 : decode prog_141_method_11_code 103 = .ok (.invokevirtual 154, 3) := by decide +kernel
theorem d24_106 : decode prog_141_method_11_code 106 = .ok (.invokevirtual 158, 3) := by decide +kernel
theorem d24_109 : decode prog_141_method_11_code 109 = .ok (.aload_n 0, 1) := by decide +kernel
theorem d24_110 : decode prog_141_method_11_code 110 = .ok (.getfield 72, 3) := by decide +kernel
theorem d24_113 : decode prog_141_method_11_code 113 = .ok (.ifnull 32, 3) := by decide +kernel
theorem d24_145 : decode prog_141_method_11_code 145 = .ok (.aload_n 0, 1) := by decide +kernel
theorem d24_146 : decode prog_141_method_11_code 146 = .ok (.getfield 28, 3) := by decide +kernel
theorem d24_149 : decode prog_141_method_11_code 149 = .ok (.lconst 0, 1) := by decide +kernel
theorem d24_150 : decode prog_141_method_11_code 150 = .ok (.lcmp, 1) := by decide +kernel
theorem d24_151 : decode prog_141_method_11_code 151 = .ok (.ifCond .lt 12, 3) := by decide +kernel
theorem d24_154 : decode prog_141_method_11_code 154 = .ok (.aload_n 0, 1) := by decide +kernel
theorem d24_155 : decode prog_141_method_11_code 155 = .ok (.aload_n 0, 1) := by decide +kernel
theorem d24_156 : decode prog_141_method_11_code 156 = .ok (.getfield 28, 3) := by decide +kernel
theorem d24_159 : decode prog_141_method_11_code 159 = .ok (.invokevirtual 179, 3) := by decide +kernel
theorem d24_162 : decode prog_141_method_11_code 162 = .ok (.pop, 1) := by decide +kernel
theorem d24_163 : decode prog_141_method_11_code 163 = .ok (.iconst 1, 1) := by decide +kernel
theorem d24_164 : decode prog_141_method_11_code 164 = .ok (.ireturn, 1) := by decide +kernel
def Q24b (Z : State) (oa : Addr) (qo : Int64) (qu : Int64) (qn : Int64) (qr : Int64) (xs : Int32) (xw : Int64) (bf : Addr) (of : Addr) (kf : ClassId) (bl : Addr) (ol : Addr) (kl : ClassId) (el : Addr) (ea : Addr) (kE : ClassId) (uf_oa_committed : Value) (uf_oa_committedAhead : Value) (uf_oa_consumed : Value) (uf_oa_consumedAt : Value) (uf_oa_committedFailures : Value) (uf_bf_sizeIsSticky : Value) (h0 : Heap) (n0 : Nat) (rv_ : Option Value) (h_ : Heap) (L_ : List Loc) : Prop := rv_ = some (.int (1 : Int32)) ∧ Fr n0 L_ ∧ Keep h0 h_ [oa, bf, of] ∧ Fld Z h_ bf "java/util/BitSet" "wordsInUse" "I" (.int (own_wu (xw ||| (own_m qo xs)))) ∧ Fld Z h_ bf "java/util/BitSet" "words" "[J" (.ref of) ∧ Arv Z h_ of kf .long (1 : Int32) [(.long (xw ||| (own_m qo xs)))] (.long (0 : Int64)) ∧ Fld Z h_ oa "evenkeel/client/Window" "size" "I" (.int xs) ∧ Fld Z h_ oa "evenkeel/client/Window" "committed" "J" uf_oa_committed ∧ Fld Z h_ oa "evenkeel/client/Window" "committedAhead" "Ljava/util/List;" uf_oa_committedAhead ∧ Fld Z h_ oa "evenkeel/client/Window" "unfinished" "J" (.long qu) ∧ Fld Z h_ oa "evenkeel/client/Window" "next" "J" (.long qn) ∧ Fld Z h_ oa "evenkeel/client/Window" "finished" "Ljava/util/BitSet;" (.ref bf) ∧ Fld Z h_ oa "evenkeel/client/Window" "restart" "J" (.long qr) ∧ Fld Z h_ oa "evenkeel/client/Window" "consumed" "Ljava/util/List;" uf_oa_consumed ∧ Fld Z h_ oa "evenkeel/client/Window" "consumedAt" "I" uf_oa_consumedAt ∧ Fld Z h_ oa "evenkeel/client/Window" "left" "Ljava/util/BitSet;" (.ref bl) ∧ Fld Z h_ oa "evenkeel/client/Window" "failing" "Ljava/util/TreeMap;" .null ∧ Fld Z h_ oa "evenkeel/client/Window" "committedFailures" "Ljava/util/List;" uf_oa_committedFailures ∧ Fld Z h_ bf "java/util/BitSet" "sizeIsSticky" "Z" uf_bf_sizeIsSticky
set_option maxRecDepth 65536 in
set_option maxHeartbeats 40000000 in
theorem rm24b (l : Launch) (Z : State) (a0 : Array Value) (hw : ∀ d ∈ tables_1, d.before a0 Z = true) (ws : List Jvm.Cond) (oa : Addr) (qo : Int64) (qu : Int64) (qn : Int64) (qr : Int64) (xs : Int32) (xw : Int64) (bf : Addr) (of : Addr) (kf : ClassId) (bl : Addr) (ol : Addr) (kl : ClassId) (el : Addr) (ea : Addr) (kE : ClassId) (uf_oa_committed : Value) (uf_oa_committedAhead : Value) (uf_oa_consumed : Value) (uf_oa_consumedAt : Value) (uf_oa_committedFailures : Value) (uf_bf_sizeIsSticky : Value) (h0 : Heap) (n0 : Nat) (Z0 : n0 ≤ h0.size) (E_ : Exa Z h0 oa "evenkeel/client/Window") (Fu : Fld Z h0 oa "evenkeel/client/Window" "unfinished" "J" (.long qu)) (Fn : Fld Z h0 oa "evenkeel/client/Window" "next" "J" (.long qn)) (Fre : Fld Z h0 oa "evenkeel/client/Window" "restart" "J" (.long qr)) (Ffa : Fld Z h0 oa "evenkeel/client/Window" "failing" "Ljava/util/TreeMap;" .null) (Fs : Fld Z h0 oa "evenkeel/client/Window" "size" "I" (.int xs)) (Ff : Fld Z h0 oa "evenkeel/client/Window" "finished" "Ljava/util/BitSet;" (.ref bf)) (Ef : Exa Z h0 bf "java/util/BitSet") (Fwf : Fld Z h0 bf "java/util/BitSet" "wordsInUse" "I" (.int (own_wu xw))) (Fxf : Fld Z h0 bf "java/util/BitSet" "words" "[J" (.ref of)) (Vxf : Arv Z h0 of kf .long (1 : Int32) [(.long xw)] (.long (0 : Int64))) (Fl : Fld Z h0 oa "evenkeel/client/Window" "left" "Ljava/util/BitSet;" (.ref bl)) (El : Exa Z h0 bl "java/util/BitSet") (Fwl : Fld Z h0 bl "java/util/BitSet" "wordsInUse" "I" (.int (own_wu (0 : Int64)))) (Fxl : Fld Z h0 bl "java/util/BitSet" "words" "[J" (.ref ol)) (Vxl : Arv Z h0 ol kl .long (1 : Int32) [(.long (0 : Int64))] (.long (0 : Int64))) (hsz : 1 ≤ xs.toInt ∧ xs.toInt ≤ 4) (hq0 : 0 ≤ qo.toInt) (h1 : ¬ qo < qu) (h2 : qo < qn) (h3 : ¬ qo = qu) (hbw : (xw &&& (own_m qo xs)) = (0 : Int64)) (hne : ¬ qu = qn) (noabf : oa ≠ bf) (noaof : oa ≠ of) (nbfof : bf ≠ of) (noabl : oa ≠ bl) (noaol : oa ≠ ol) (nbfbl : bf ≠ bl) (nbfol : bf ≠ ol) (nofbl : of ≠ bl) (nofol : of ≠ ol) (g_ : n0 ≤ oa) (gf : n0 ≤ bf) (go : n0 ≤ of) (O_ : Old Z n0 h0) (P_ : own_P Z el ea kE) (F_oa_committed : Fld Z h0 oa "evenkeel/client/Window" "committed" "J" uf_oa_committed) (F_oa_committedAhead : Fld Z h0 oa "evenkeel/client/Window" "committedAhead" "Ljava/util/List;" uf_oa_committedAhead) (F_oa_consumed : Fld Z h0 oa "evenkeel/client/Window" "consumed" "Ljava/util/List;" uf_oa_consumed) (F_oa_consumedAt : Fld Z h0 oa "evenkeel/client/Window" "consumedAt" "I" uf_oa_consumedAt) (F_oa_committedFailures : Fld Z h0 oa "evenkeel/client/Window" "committedFailures" "Ljava/util/List;" uf_oa_committedFailures) (F_bf_sizeIsSticky : Fld Z h0 bf "java/util/BitSet" "sizeIsSticky" "Z" uf_bf_sizeIsSticky) :
    MetFree l (⟨"evenkeel/client/Window", "finish", "(J)Z"⟩ : MethodName) (head1 (Jvm.Cond.code (⟨"evenkeel/client/Window", "finish", "(J)Z"⟩ : MethodName) prog_141_method_11_code 3 (some .boolean) :: ws) ({ frames := 3, cells := 0, slots := 0, locals := 42 } : Room)) (fun a U => a = #[(.ref oa), (.long qo)] ∧ Z.Warmed39 U.vm ∧ U.heap = h0) (fun _ _ _ _ _ => True) (fun _ U o U' => ∃ v L, o = .returned v ∧ Q24b Z oa qo qu qn qr xs xw bf of kf bl ol kl el ea kE uf_oa_committed uf_oa_committedAhead uf_oa_consumed uf_oa_consumedAt uf_oa_committedFailures uf_bf_sizeIsSticky h0 n0 v U'.heap L ∧ FrameEnd U o U' L ({ frames := 3, cells := 0, slots := 0, locals := 42 } : Room).cells ({ frames := 3, cells := 0, slots := 0, locals := 42 } : Room).slots) := by
  refine MetFree.of_bodySF (plainFor_of_name pn_8) hisR ?_
  intro p e s m args below meth c s₁ Bd hml0 hP hK
  obtain ⟨rfl, hZ, hh⟩ := hP
  have hx := Bd.exec
  have hby := Bd.bytes
  have hml : c.maxLocals = 3 := hml0
  have hown : s.vm.findClass "evenkeel/client/Window" = some m.cls := findClass_of_methodNamed Bd.named
  have hnm := (name_of_methodNamed Bd.named Bd.method).1
  have X0 : Stand p l e ({ frames := 3, cells := 0, slots := 0, locals := 42 } : Room) s m #[(.ref oa), (.long qo)] below meth c s₁ [] 0 0 := Stand.of_body Bd
  have e0 : s₁.heap = h0 := by rw [← hh, Bd.state]; rfl
  have N0 := Fr.nil n0
  obtain ⟨G, hG, pre0⟩ : ∃ G : State → Prop, (∀ t, G t → Steps p.tables e below (s₁.setTop (entryFrame m #[(.ref oa), (.long qo)] 3)) t) ∧ ∀ t, own_K p e below m s₁ 0 #[rv oa, lv qo, .second] [] t → G t := ⟨fun t => Steps p.tables e below (s₁.setTop (entryFrame m #[(.ref oa), (.long qo)] 3)) t, fun _ k => k, fun t k => castTop (ef_24a m oa qo) k⟩
  obtain ⟨cq1, q1, q1'⟩ := E_.cell
  obtain ⟨_, _, ⟨T1, L1, k1, n1⟩, -, X1, ⟨Lc1, hQ1, l1, y1, z1⟩, st1⟩ := X0.privateBack hx (y := (⟨"evenkeel/client/Window", "inHand", "(J)Z"⟩ : MethodName)) hown (mvT hZ (tw hw (i := 202) rfl)) (mvT hZ (tw hw (i := 203) rfl)) (own_selp hZ (tw hw (i := 3) rfl) (tw hw (i := 204) rfl) (tw hw (i := 203) rfl) (by decide)) (Cond.privateMethod_at (mvP hZ (tw hw (i := 204) rfl) (args := #[]))) (mvT hZ (tw hw (i := 205) rfl)) (by decide) (backOf (W := 0) (rm25b l Z a0 hw [] oa qo qu qn xs xw bf of kf bl ol kl el ea kE h0 n0 Z0 E_ Fu Fn Fs Ff Ef Fwf Fxf Vxf Fl El Fwl Fxl Vxl hsz hq0 h1 h2 h3 hbw O_ P_) hZ (tw hw (i := 205) rfl) (tw hw (i := 4) rfl) (by decide) (by decide)) (g := (mkF m 2 #[rv oa, lv qo, .second] [(.long qo), (.ref oa)])) rfl (by rw [hml]; rfl) (Steps.refl _) (a := oa) (by rw [e0]; exact q1) q1' (argsL := [(.long qo)]) (rest := []) (lenOf pd_14 rfl) rfl (by show 2 * 0 + _ ≤ _; exact Nat.le_of_eq rfl) (hb hby d24_2) (fun _ _ => ⟨rfl, e0, (by decide : 0 + 0 ≤ _), (by decide : 0 + 0 ≤ _)⟩)
  dsimp only [Pt.U, Pt.locs, Pt.cells, Pt.slots] at X1 l1 y1 z1 st1 hQ1
  subst l1 y1 z1
  obtain ⟨rfl, Nq1, eh1⟩ := hQ1
  have N1 := Fr.app N0 Nq1
  obtain ⟨T2, X2, e2, st2⟩ := getF X1 hx hZ hown (host := "") (Or.inl (tw hw (i := 142) rfl)) Via.refl eh1 Fu (g := (mkF m 12 #[rv oa, lv qo, .second] [(.ref oa), (.long qo)])) rfl rfl (hb hby d24_12)
  obtain ⟨T3, X3, e3, st3⟩ := getF X2 hx hZ hown (host := "") (Or.inl (tw hw (i := 126) rfl)) Via.refl e2 Ff (g := (mkF m 98 #[rv oa, lv qo, .second] [(.ref oa)])) rfl rfl (hb hby d24_98)
  obtain ⟨cq4, q4, q4'⟩ := E_.cell
  obtain ⟨_, _, ⟨T4, L4, k4, n4⟩, -, X4, ⟨Lc4, hQ4, l4, y4, z4⟩, st4⟩ := X3.privateBack hx (y := (⟨"evenkeel/client/Window", "bit", "(J)I"⟩ : MethodName)) hown (mvT hZ (tw hw (i := 212) rfl)) (mvT hZ (tw hw (i := 213) rfl)) (own_selp hZ (tw hw (i := 3) rfl) (tw hw (i := 214) rfl) (tw hw (i := 213) rfl) (by decide)) (Cond.privateMethod_at (mvP hZ (tw hw (i := 214) rfl) (args := #[]))) (mvT hZ (tw hw (i := 215) rfl)) (by decide) (backOf (W := 1) (rm27 l Z a0 hw [] oa qo xs h0 n0 Z0 Fs (own_snz hsz)) hZ (tw hw (i := 215) rfl) (tw hw (i := 4) rfl) (by decide) (by decide)) (g := (mkF m 103 #[rv oa, lv qo, .second] [(.long qo), (.ref oa), (.ref bf)])) rfl (by rw [hml]; rfl) (Steps.refl _) (a := oa) (by rw [e3]; exact q4) q4' (argsL := [(.long qo)]) (rest := [(.ref bf)]) (lenOf pd_12 rfl) rfl (by show 2 * 0 + _ ≤ _; exact Nat.le_of_eq rfl) (hb hby d24_103) (fun _ _ => ⟨rfl, e3, (by decide : 0 + 0 ≤ _), (by decide : 0 + 0 ≤ _)⟩)
  dsimp only [Pt.U, Pt.locs, Pt.cells, Pt.slots] at X4 l4 y4 z4 st4 hQ4
  subst l4 y4 z4
  obtain ⟨rfl, Nq4, eh4⟩ := hQ4
  have N4 := Fr.app N1 Nq4
  obtain ⟨cq5, kq5, q5a, q5b, q5c⟩ := isOf hZ eh4 Ef
  obtain ⟨_, _, ⟨T5, L5, k5, n5⟩, -, X5, ⟨Lc5, hQ5, l5, y5, z5⟩, st5⟩ := X4.virtualBack hx (y := (⟨"java/util/BitSet", "set", "(I)V"⟩ : MethodName)) (z := (⟨"java/util/BitSet", "set", "(I)V"⟩ : MethodName)) hown (mvT hZ (tw hw (i := 227) rfl)) (mvT hZ (tw hw (i := 228) rfl)) (notFace_of_selects (args := #[]) (mvT hZ (tw hw (i := 230) rfl))) (mvT hZ (tw hw (i := 230) rfl)) (mvT hZ (tw hw (i := 229) rfl)) (by decide) (backOf (W := 0) (rm30 l Z a0 hw [] bf ((qo - (qo / (xs.toInt64)) * (xs.toInt64)).toInt32) xw of kf el ea kE uf_bf_sizeIsSticky h0 n0 Z0 Ef Fwf Fxf Vxf (own_bit0 hq0 hsz) (own_bit6 hq0 hsz) gf go nbfof O_ P_ (own_orne _ hq0 hsz) F_bf_sizeIsSticky) hZ (tw hw (i := 231) rfl) (tw hw (i := 106) rfl) (by decide) (by decide)) q5a q5c (g := (mkF m 106 #[rv oa, lv qo, .second] [(.int ((qo - (qo / (xs.toInt64)) * (xs.toInt64)).toInt32)), (.ref bf)])) rfl (by rw [hml]; rfl) (Steps.refl _) (argsL := [(.int ((qo - (qo / (xs.toInt64)) * (xs.toInt64)).toInt32))]) (rest := []) (lenOf pd_9 rfl) rfl (by show 2 * 0 + _ ≤ _; exact Nat.le_of_eq rfl) (hb hby d24_106) (fun _ _ => ⟨rfl, eh4, (by decide : 0 + 0 ≤ _), (by decide : 0 + 0 ≤ _)⟩)
  dsimp only [Pt.U, Pt.locs, Pt.cells, Pt.slots] at X5 l5 y5 z5 st5 hQ5
  subst l5 y5 z5
  obtain ⟨rfl, Nq5, Kc5, Fw2_5, Fx2_5, Vx2_5, P_oa_sizeIsSticky_5⟩ := hQ5
  have N5 := Fr.app N4 Nq5
  have K5 : Keep h0 T5.heap [oa, bf, of] := (Keep.refl h0 [oa, bf, of]).trans Kc5 (allS (Or.inl (List.mem_of_getElem? (i := 1) rfl)) (allS (Or.inl (List.mem_of_getElem? (i := 2) rfl)) all0))
  have sz5 : n0 ≤ T5.heap.size := Nat.le_trans Z0 Kc5.1
  have f7 : Fld Z T5.heap oa "evenkeel/client/Window" "failing" "Ljava/util/TreeMap;" .null := (Ffa.keep Kc5 (ninS noabf (ninS noaof nin0)))
  obtain ⟨T6, X6, e6, st6⟩ := getF X5 hx hZ hown (host := "") (Or.inl (tw hw (i := 195) rfl)) Via.refl rfl f7 (g := (mkF m 110 #[rv oa, lv qo, .second] [(.ref oa)])) rfl rfl (hb hby d24_110)
  have f9 : Fld Z T5.heap oa "evenkeel/client/Window" "restart" "J" (.long qr) := (Fre.keep Kc5 (ninS noabf (ninS noaof nin0)))
  obtain ⟨T8, X8, e8, st8⟩ := getF X6 hx hZ hown (host := "") (Or.inl (tw hw (i := 129) rfl)) Via.refl e6 f9 (g := (mkF m 146 #[rv oa, lv qo, .second] [(.ref oa)])) rfl rfl (hb hby d24_146)
  have pre10 : ∀ t, own_K p e below m T8 151 #[rv oa, lv qo, .second] [(.int (lcmpW qr (0 : Int64)))] t → G t := by
    intro t k
    refine pre0 t ?_
    show own_K p e below m s₁ 0 #[rv oa, lv qo, .second] [] _
    refine XS.aloadN X0.here hx rfl (hb hby d24_0) rfl rfl ?_
    show own_K p e below m s₁ 1 #[rv oa, lv qo, .second] [(.ref oa)] _
    refine XS.lloadN X0.here hx rfl (hb hby d24_1) rfl ?_
    show own_K p e below m s₁ 2 #[rv oa, lv qo, .second] [(.long qo), (.ref oa)] _
    refine st1.trans ?_
    show own_K p e below m T1 5 #[rv oa, lv qo, .second] [(.int (1 : Int32))] _
    refine XS.ifYes X1.here hx rfl (pc0 := 5) (pc' := 10) rfl (hb hby d24_5) rfl ((if0 _ _).trans (feq (by decide : ¬ ((1 : Int32) = (0 : Int32)))).2) (by decide) (by decide) ?_
    show own_K p e below m T1 10 #[rv oa, lv qo, .second] [] _
    refine XS.lloadN X1.here hx rfl (hb hby d24_10) rfl ?_
    show own_K p e below m T1 11 #[rv oa, lv qo, .second] [(.long qo)] _
    refine XS.aloadN X1.here hx rfl (hb hby d24_11) rfl rfl ?_
    show own_K p e below m T1 12 #[rv oa, lv qo, .second] [(.ref oa), (.long qo)] _
    refine st2 _ ?_
    show own_K p e below m T2 15 #[rv oa, lv qo, .second] [(.long qu), (.long qo)] _
    refine XS.lcmp X2.here hx rfl (hb hby d24_15) rfl ?_
    show own_K p e below m T2 16 #[rv oa, lv qo, .second] [(.int (lcmpW qo qu))] _
    refine XS.ifYes X2.here hx rfl (pc0 := 16) (pc' := 97) rfl (hb hby d24_16) rfl ((if0 _ _).trans (feq (mt (lw_eq _ _).mp h3)).2) (by decide) (by decide) ?_
    show own_K p e below m T2 97 #[rv oa, lv qo, .second] [] _
    refine XS.aloadN X2.here hx rfl (hb hby d24_97) rfl rfl ?_
    show own_K p e below m T2 98 #[rv oa, lv qo, .second] [(.ref oa)] _
    refine st3 _ ?_
    show own_K p e below m T3 101 #[rv oa, lv qo, .second] [(.ref bf)] _
    refine XS.aloadN X3.here hx rfl (hb hby d24_101) rfl rfl ?_
    show own_K p e below m T3 102 #[rv oa, lv qo, .second] [(.ref oa), (.ref bf)] _
    refine XS.lloadN X3.here hx rfl (hb hby d24_102) rfl ?_
    show own_K p e below m T3 103 #[rv oa, lv qo, .second] [(.long qo), (.ref oa), (.ref bf)] _
    refine st4.trans ?_
    show own_K p e below m T4 106 #[rv oa, lv qo, .second] [(.int ((qo - (qo / (xs.toInt64)) * (xs.toInt64)).toInt32)), (.ref bf)] _
    refine st5.trans ?_
    show own_K p e below m T5 109 #[rv oa, lv qo, .second] [] _
    refine XS.aloadN X5.here hx rfl (hb hby d24_109) rfl rfl ?_
    show own_K p e below m T5 110 #[rv oa, lv qo, .second] [(.ref oa)] _
    refine st6 _ ?_
    show own_K p e below m T6 113 #[rv oa, lv qo, .second] [.null] _
    refine XS.ifnullYes X6.here hx rfl (pc0 := 113) (pc' := 145) rfl (hb hby d24_113) rfl (by decide) (by decide) ?_
    show own_K p e below m T6 145 #[rv oa, lv qo, .second] [] _
    refine XS.aloadN X6.here hx rfl (hb hby d24_145) rfl rfl ?_
    show own_K p e below m T6 146 #[rv oa, lv qo, .second] [(.ref oa)] _
    refine st8 _ ?_
    show own_K p e below m T8 149 #[rv oa, lv qo, .second] [(.long qr)] _
    refine XS.lconst X8.here hx rfl (hb hby d24_149) ?_
    show own_K p e below m T8 150 #[rv oa, lv qo, .second] [(.long (0 : Int64)), (.long qr)] _
    refine XS.lcmp X8.here hx rfl (hb hby d24_150) rfl ?_
    exact k
  obtain ⟨T27, h27, lo27, X27, N27, e27, K27, j27_0, j27_1, j27_2, j27_3, j27_4, j27_5, j27_6, j27_7, j27_8, j27_9, j27_10, j27_11, j27_12, j27_13, j27_14, j27_15, j27_16, j27_17, j27_18, j27_19, j27_20, j27_21, j27_22, pre27⟩ : ∃ (T' : State) (h' : Heap) (l' : List Loc), Stand p l e ({ frames := 3, cells := 0, slots := 0, locals := 42 } : Room) s m #[(.ref oa), (.long qo)] below meth c T' l' 0 0 ∧ Fr n0 l' ∧ T'.heap = h' ∧ Keep h0 h' [oa, bf, of] ∧ Exa Z h' oa "evenkeel/client/Window" ∧ Fld Z h' oa "evenkeel/client/Window" "unfinished" "J" (.long qu) ∧ Fld Z h' oa "evenkeel/client/Window" "next" "J" (.long qn) ∧ Fld Z h' oa "evenkeel/client/Window" "restart" "J" (.long qr) ∧ Fld Z h' oa "evenkeel/client/Window" "failing" "Ljava/util/TreeMap;" .null ∧ Fld Z h' oa "evenkeel/client/Window" "size" "I" (.int xs) ∧ Fld Z h' oa "evenkeel/client/Window" "finished" "Ljava/util/BitSet;" (.ref bf) ∧ Exa Z h' bf "java/util/BitSet" ∧ Fld Z h' bf "java/util/BitSet" "wordsInUse" "I" (.int (own_wu (xw ||| ((1 : Int64) <<< (((qo - (qo / (xs.toInt64)) * (xs.toInt64)).toInt32) &&& 0x3f).toInt64)))) ∧ Fld Z h' bf "java/util/BitSet" "words" "[J" (.ref of) ∧ Arv Z h' of kf .long (1 : Int32) [(.long (xw ||| ((1 : Int64) <<< (((qo - (qo / (xs.toInt64)) * (xs.toInt64)).toInt32) &&& 0x3f).toInt64)))] (.long (0 : Int64)) ∧ Fld Z h' oa "evenkeel/client/Window" "left" "Ljava/util/BitSet;" (.ref bl) ∧ Exa Z h' bl "java/util/BitSet" ∧ Fld Z h' bl "java/util/BitSet" "wordsInUse" "I" (.int (own_wu (0 : Int64))) ∧ Fld Z h' bl "java/util/BitSet" "words" "[J" (.ref ol) ∧ Arv Z h' ol kl .long (1 : Int32) [(.long (0 : Int64))] (.long (0 : Int64)) ∧ Old Z n0 h' ∧ Fld Z h' oa "evenkeel/client/Window" "committed" "J" uf_oa_committed ∧ Fld Z h' oa "evenkeel/client/Window" "committedAhead" "Ljava/util/List;" uf_oa_committedAhead ∧ Fld Z h' oa "evenkeel/client/Window" "consumed" "Ljava/util/List;" uf_oa_consumed ∧ Fld Z h' oa "evenkeel/client/Window" "consumedAt" "I" uf_oa_consumedAt ∧ Fld Z h' oa "evenkeel/client/Window" "committedFailures" "Ljava/util/List;" uf_oa_committedFailures ∧ Fld Z h' bf "java/util/BitSet" "sizeIsSticky" "Z" uf_bf_sizeIsSticky ∧ ∀ t, own_K p e below m T' 163 #[rv oa, lv qo, .second] [] t → G t := by
    by_cases hc151_11 : qr < (0 : Int64)
    · have pre12 : ∀ t, own_K p e below m T8 163 #[rv oa, lv qo, .second] [] t → G t := by
        intro t k
        refine pre10 t ?_
        show own_K p e below m T8 151 #[rv oa, lv qo, .second] [(.int (lcmpW qr (0 : Int64)))] _
        refine XS.ifYes X8.here hx rfl (pc0 := 151) (pc' := 163) rfl (hb hby d24_151) rfl ((if0 _ _).trans (tlt ((lw_lt _ _).mpr hc151_11)).1) (by decide) (by decide) ?_
        exact k
      have f28 : Exa Z T5.heap oa "evenkeel/client/Window" := (E_.keep Kc5)
      have f29 : Fld Z T5.heap oa "evenkeel/client/Window" "unfinished" "J" (.long qu) := (Fu.keep Kc5 (ninS noabf (ninS noaof nin0)))
      have f30 : Fld Z T5.heap oa "evenkeel/client/Window" "next" "J" (.long qn) := (Fn.keep Kc5 (ninS noabf (ninS noaof nin0)))
      have f31 : Fld Z T5.heap oa "evenkeel/client/Window" "size" "I" (.int xs) := (Fs.keep Kc5 (ninS noabf (ninS noaof nin0)))
      have f32 : Fld Z T5.heap oa "evenkeel/client/Window" "finished" "Ljava/util/BitSet;" (.ref bf) := (Ff.keep Kc5 (ninS noabf (ninS noaof nin0)))
      have f33 : Exa Z T5.heap bf "java/util/BitSet" := (Ef.keep Kc5)
      have f34 : Fld Z T5.heap oa "evenkeel/client/Window" "left" "Ljava/util/BitSet;" (.ref bl) := (Fl.keep Kc5 (ninS noabf (ninS noaof nin0)))
      have f35 : Exa Z T5.heap bl "java/util/BitSet" := (El.keep Kc5)
      have f36 : Fld Z T5.heap bl "java/util/BitSet" "wordsInUse" "I" (.int (own_wu (0 : Int64))) := (Fwl.keep Kc5 (ninS (Ne.symm nbfbl) (ninS (Ne.symm nofbl) nin0)))
      have f37 : Fld Z T5.heap bl "java/util/BitSet" "words" "[J" (.ref ol) := (Fxl.keep Kc5 (ninS (Ne.symm nbfbl) (ninS (Ne.symm nofbl) nin0)))
      have f38 : Arv Z T5.heap ol kl .long (1 : Int32) [(.long (0 : Int64))] (.long (0 : Int64)) := (Vxl.keep Kc5 (ninS (Ne.symm nbfol) (ninS (Ne.symm nofol) nin0)))
      have f39 : Old Z n0 T5.heap := (O_.keep Kc5 (allS gf (allS go all0)))
      have f40 : Fld Z T5.heap oa "evenkeel/client/Window" "committed" "J" uf_oa_committed := (F_oa_committed.keep Kc5 (ninS noabf (ninS noaof nin0)))
      have f41 : Fld Z T5.heap oa "evenkeel/client/Window" "committedAhead" "Ljava/util/List;" uf_oa_committedAhead := (F_oa_committedAhead.keep Kc5 (ninS noabf (ninS noaof nin0)))
      have f42 : Fld Z T5.heap oa "evenkeel/client/Window" "consumed" "Ljava/util/List;" uf_oa_consumed := (F_oa_consumed.keep Kc5 (ninS noabf (ninS noaof nin0)))
      have f43 : Fld Z T5.heap oa "evenkeel/client/Window" "consumedAt" "I" uf_oa_consumedAt := (F_oa_consumedAt.keep Kc5 (ninS noabf (ninS noaof nin0)))
      have f44 : Fld Z T5.heap oa "evenkeel/client/Window" "committedFailures" "Ljava/util/List;" uf_oa_committedFailures := (F_oa_committedFailures.keep Kc5 (ninS noabf (ninS noaof nin0)))
      exact ⟨_, _, _, X8, N5, e8, K5, f28, f29, f30, f9, f7, f31, f32, f33, Fw2_5, Fx2_5, Vx2_5, f34, f35, f36, f37, f38, f39, f40, f41, f42, f43, f44, P_oa_sizeIsSticky_5, fun t k => pre12 t k⟩
    · obtain ⟨T13, X13, e13, st13⟩ := getF X8 hx hZ hown (host := "") (Or.inl (tw hw (i := 129) rfl)) Via.refl e8 f9 (g := (mkF m 156 #[rv oa, lv qo, .second] [(.ref oa), (.ref oa)])) rfl rfl (hb hby d24_156)
      have f15 : Exa Z T5.heap oa "evenkeel/client/Window" := (E_.keep Kc5)
      have f16 : Fld Z T5.heap oa "evenkeel/client/Window" "unfinished" "J" (.long qu) := (Fu.keep Kc5 (ninS noabf (ninS noaof nin0)))
      have f17 : Fld Z T5.heap oa "evenkeel/client/Window" "next" "J" (.long qn) := (Fn.keep Kc5 (ninS noabf (ninS noaof nin0)))
      have f18 : Fld Z T5.heap oa "evenkeel/client/Window" "size" "I" (.int xs) := (Fs.keep Kc5 (ninS noabf (ninS noaof nin0)))
      have f19 : Fld Z T5.heap oa "evenkeel/client/Window" "committed" "J" uf_oa_committed := (F_oa_committed.keep Kc5 (ninS noabf (ninS noaof nin0)))
      have f20 : Fld Z T5.heap oa "evenkeel/client/Window" "committedAhead" "Ljava/util/List;" uf_oa_committedAhead := (F_oa_committedAhead.keep Kc5 (ninS noabf (ninS noaof nin0)))
      have f21 : Fld Z T5.heap oa "evenkeel/client/Window" "finished" "Ljava/util/BitSet;" (.ref bf) := (Ff.keep Kc5 (ninS noabf (ninS noaof nin0)))
      have f22 : Fld Z T5.heap oa "evenkeel/client/Window" "consumed" "Ljava/util/List;" uf_oa_consumed := (F_oa_consumed.keep Kc5 (ninS noabf (ninS noaof nin0)))
      have f23 : Fld Z T5.heap oa "evenkeel/client/Window" "consumedAt" "I" uf_oa_consumedAt := (F_oa_consumedAt.keep Kc5 (ninS noabf (ninS noaof nin0)))
      have f24 : Fld Z T5.heap oa "evenkeel/client/Window" "left" "Ljava/util/BitSet;" (.ref bl) := (Fl.keep Kc5 (ninS noabf (ninS noaof nin0)))
      have f25 : Fld Z T5.heap oa "evenkeel/client/Window" "committedFailures" "Ljava/util/List;" uf_oa_committedFailures := (F_oa_committedFailures.keep Kc5 (ninS noabf (ninS noaof nin0)))
      obtain ⟨cq14, kq14, q14a, q14b, q14c⟩ := isOf hZ e13 f15
      obtain ⟨_, _, ⟨T14, L14, k14, n14⟩, -, X14, ⟨Lc14, hQ14, l14, y14, z14⟩, st14⟩ := X13.virtualBack hx (y := (⟨"evenkeel/client/Window", "skip", "(J)Z"⟩ : MethodName)) (z := (⟨"evenkeel/client/Window", "skip", "(J)Z"⟩ : MethodName)) hown (mvT hZ (tw hw (i := 242) rfl)) (mvT hZ (tw hw (i := 187) rfl)) (notFace_of_selects (args := #[]) (mvT hZ (tw hw (i := 189) rfl))) (mvT hZ (tw hw (i := 189) rfl)) (mvT hZ (tw hw (i := 188) rfl)) (by decide) (backOf (W := 0) (rm22r l Z a0 hw [] oa qr qu qn (.int xs) uf_oa_committed uf_oa_committedAhead (.ref bf) uf_oa_consumed uf_oa_consumedAt (.ref bl) .null uf_oa_committedFailures T5.heap n0 sz5 f15 f16 f17 f9 g_ hne f18 f19 f20 f21 f22 f23 f24 f7 f25) hZ (tw hw (i := 190) rfl) (tw hw (i := 4) rfl) (by decide) (by decide)) q14a q14c (g := (mkF m 159 #[rv oa, lv qo, .second] [(.long qr), (.ref oa)])) rfl (by rw [hml]; rfl) (Steps.refl _) (argsL := [(.long qr)]) (rest := []) (lenOf pd_14 rfl) rfl (by show 2 * 0 + _ ≤ _; exact Nat.le_of_eq rfl) (hb hby d24_159) (fun _ _ => ⟨rfl, e13, (by decide : 0 + 0 ≤ _), (by decide : 0 + 0 ≤ _)⟩)
      dsimp only [Pt.U, Pt.locs, Pt.cells, Pt.slots] at X14 l14 y14 z14 st14 hQ14
      subst l14 y14 z14
      obtain ⟨rfl, Nq14, Kc14, Fr2_14, P_oa_size_14, P_oa_committed_14, P_oa_committedAhead_14, P_oa_unfinished_14, P_oa_next_14, P_oa_finished_14, P_oa_consumed_14, P_oa_consumedAt_14, P_oa_left_14, P_oa_failing_14, P_oa_committedFailures_14⟩ := hQ14
      have N14 := Fr.app N5 Nq14
      have K14 : Keep h0 T14.heap [oa, bf, of] := K5.trans Kc14 (allS (Or.inl (List.mem_of_getElem? (i := 0) rfl)) all0)
      have sz14 : n0 ≤ T14.heap.size := Nat.le_trans sz5 Kc14.1
      have pre26 : ∀ t, own_K p e below m T14 163 #[rv oa, lv qo, .second] [] t → G t := by
        intro t k
        refine pre10 t ?_
        show own_K p e below m T8 151 #[rv oa, lv qo, .second] [(.int (lcmpW qr (0 : Int64)))] _
        refine XS.ifNo X8.here hx rfl (hb hby d24_151) rfl ((if0 _ _).trans (flt (mt (lw_lt _ _).mp hc151_11)).1) ?_
        show own_K p e below m T8 154 #[rv oa, lv qo, .second] [] _
        refine XS.aloadN X8.here hx rfl (hb hby d24_154) rfl rfl ?_
        show own_K p e below m T8 155 #[rv oa, lv qo, .second] [(.ref oa)] _
        refine XS.aloadN X8.here hx rfl (hb hby d24_155) rfl rfl ?_
        show own_K p e below m T8 156 #[rv oa, lv qo, .second] [(.ref oa), (.ref oa)] _
        refine st13 _ ?_
        show own_K p e below m T13 159 #[rv oa, lv qo, .second] [(.long qr), (.ref oa)] _
        refine st14.trans ?_
        show own_K p e below m T14 162 #[rv oa, lv qo, .second] [(.int (0 : Int32))] _
        refine XS.pop X14.here hx rfl (hb hby d24_162) rfl rfl ?_
        exact k
      have f45 : Exa Z T14.heap oa "evenkeel/client/Window" := (f15.keep Kc14)
      have f46 : Exa Z T14.heap bf "java/util/BitSet" := ((Ef.keep Kc5).keep Kc14)
      have f47 : Fld Z T14.heap bf "java/util/BitSet" "wordsInUse" "I" (.int (own_wu (xw ||| ((1 : Int64) <<< (((qo - (qo / (xs.toInt64)) * (xs.toInt64)).toInt32) &&& 0x3f).toInt64)))) := (Fw2_5.keep Kc14 (ninS (Ne.symm noabf) nin0))
      have f48 : Fld Z T14.heap bf "java/util/BitSet" "words" "[J" (.ref of) := (Fx2_5.keep Kc14 (ninS (Ne.symm noabf) nin0))
      have f49 : Arv Z T14.heap of kf .long (1 : Int32) [(.long (xw ||| ((1 : Int64) <<< (((qo - (qo / (xs.toInt64)) * (xs.toInt64)).toInt32) &&& 0x3f).toInt64)))] (.long (0 : Int64)) := (Vx2_5.keep Kc14 (ninS (Ne.symm noaof) nin0))
      have f50 : Exa Z T14.heap bl "java/util/BitSet" := ((El.keep Kc5).keep Kc14)
      have f51 : Fld Z T14.heap bl "java/util/BitSet" "wordsInUse" "I" (.int (own_wu (0 : Int64))) := ((Fwl.keep Kc5 (ninS (Ne.symm nbfbl) (ninS (Ne.symm nofbl) nin0))).keep Kc14 (ninS (Ne.symm noabl) nin0))
      have f52 : Fld Z T14.heap bl "java/util/BitSet" "words" "[J" (.ref ol) := ((Fxl.keep Kc5 (ninS (Ne.symm nbfbl) (ninS (Ne.symm nofbl) nin0))).keep Kc14 (ninS (Ne.symm noabl) nin0))
      have f53 : Arv Z T14.heap ol kl .long (1 : Int32) [(.long (0 : Int64))] (.long (0 : Int64)) := ((Vxl.keep Kc5 (ninS (Ne.symm nbfol) (ninS (Ne.symm nofol) nin0))).keep Kc14 (ninS (Ne.symm noaol) nin0))
      have f54 : Old Z n0 T14.heap := ((O_.keep Kc5 (allS gf (allS go all0))).keep Kc14 (allS g_ all0))
      have f55 : Fld Z T14.heap bf "java/util/BitSet" "sizeIsSticky" "Z" uf_bf_sizeIsSticky := (P_oa_sizeIsSticky_5.keep Kc14 (ninS (Ne.symm noabf) nin0))
      exact ⟨_, _, _, X14, N14, rfl, K14, f45, P_oa_unfinished_14, P_oa_next_14, Fr2_14, P_oa_failing_14, P_oa_size_14, P_oa_finished_14, f46, f47, f48, f49, P_oa_left_14, f50, f51, f52, f53, f54, P_oa_committed_14, P_oa_committedAhead_14, P_oa_consumed_14, P_oa_consumedAt_14, P_oa_committedFailures_14, f55, fun t k => pre26 t k⟩
  have pre56 : ∀ t, own_K p e below m T27 164 #[rv oa, lv qo, .second] [(.int (1 : Int32))] t → G t := by
    intro t k
    refine pre27 t ?_
    show own_K p e below m T27 163 #[rv oa, lv qo, .second] [] _
    refine XS.iconst X27.here hx rfl (hb hby d24_163) ?_
    exact k
  obtain ⟨fs, hr, hrun, hended, hW, hsame⟩ := X27.leave (v := some (.int (1 : Int32))) (fun h => by rw [Bd.returns] at h; cases h)
  refine ⟨_, _, hG _ (pre56 _ ?_), hrun, hended, _, _, rfl, ?_, ⟨_, rfl⟩, hW, hsame.mono (by decide) (by decide)⟩
  · show own_K p e below m T27 164 #[rv oa, lv qo, .second] [(.int (1 : Int32))] _
    exact retN X27 hx (t := .boolean) Bd.returns (by simp) (hb hby d24_164) hr
  · show Q24b Z oa qo qu qn qr xs xw bf of kf bl ol kl el ea kE uf_oa_committed uf_oa_committedAhead uf_oa_consumed uf_oa_consumedAt uf_oa_committedFailures uf_bf_sizeIsSticky h0 n0 _ T27.heap _
    rw [e27]
    exact ⟨rfl, N27, K27, j27_8, j27_9, j27_10, j27_5, j27_17, j27_18, j27_1, j27_2, j27_6, j27_3, j27_19, j27_20, j27_11, j27_4, j27_21, j27_22⟩

theorem d24_19 : decode prog_141_method_11_code 19 = .ok (.aload_n 0, 1) := by decide +kernel
theorem d24_20 : decode prog_141_method_11_code 20 = .ok (.dup, 1) := by decide +kernel
theorem d24_21 : decode prog_141_method_11_code 21 = .ok (.getfield 48, 3) := by decide +kernel
theorem d24_24 : decode prog_141_method_11_code 24 = .ok (.lconst 1, 1) := by decide +kernel
theorem d24_25 : decode prog_141_method_11_code 25 = .ok (.ladd, 1) := by decide +kernel
theorem d24_26 : decode prog_141_method_11_code 26 = .ok (.putfield 48, 3) := by decide +kernel
theorem d24_29 : decode prog_141_method_11_code 29 = .ok (.aload_n 0, 1) := by decide +kernel
theorem d24_30 : decode prog_141_method_11_code 30 = .ok (.getfield 48, 3) := by decide +kernel
theorem d24_33 : decode prog_141_method_11_code 33 = .ok (.aload_n 0, 1) := by decide +kernel
theorem d24_34 : decode prog_141_method_11_code 34 = .ok (.getfield 51, 3) := by decide +kernel
theorem d24_37 : decode prog_141_method_11_code 37 = .ok (.lcmp, 1) := by decide +kernel
theorem d24_38 : decode prog_141_method_11_code 38 = .ok (.ifCond .ge 71, 3) := by decide +kernel
theorem d24_41 : decode prog_141_method_11_code 41 = .ok (.aload_n 0, 1) := by decide +kernel
theorem d24_42 : decode prog_141_method_11_code 42 = .ok (.getfield 22, 3) := by decide +kernel
theorem d24_45 : decode prog_141_method_11_code 45 = .ok (.invokevirtual 168, 3) := by decide +kernel
theorem d24_48 : decode prog_141_method_11_code 48 = .ok (.ifCond .ne 61, 3) := by decide +kernel
theorem d24_51 : decode prog_141_method_11_code 51 = .ok (.aload_n 0, 1) := by decide +kernel
theorem d24_52 : decode prog_141_method_11_code 52 = .ok (.getfield 22, 3) := by decide +kernel
theorem d24_55 : decode prog_141_method_11_code 55 = .ok (.aload_n 0, 1) := by decide +kernel
theorem d24_56 : decode prog_141_method_11_code 56 = .ok (.aload_n 0, 1) := by decide +kernel
theorem d24_57 : decode prog_141_method_11_code 57 = .ok (.getfield 48, 3) := by decide +kernel
theorem d24_60 : decode prog_141_method_11_code 60 = .ok (.invokevirtual 154, 3) := by decide +kernel
theorem d24_63 : decode prog_141_method_11_code 63 = .ok (.invokevirtual 169, 3) := by decide +kernel
theorem d24_66 : decode prog_141_method_11_code 66 = .ok (.ifCond .eq 43, 3) := by decide +kernel
theorem d24_69 : decode prog_141_method_11_code 69 = .ok (.aload_n 0, 1) := by decide +kernel
theorem d24_70 : decode prog_141_method_11_code 70 = .ok (.getfield 22, 3) := by decide +kernel
theorem d24_73 : decode prog_141_method_11_code 73 = .ok (.aload_n 0, 1) := by decide +kernel
theorem d24_74 : decode prog_141_method_11_code 74 = .ok (.aload_n 0, 1) := by decide +kernel
theorem d24_75 : decode prog_141_method_11_code 75 = .ok (.getfield 48, 3) := by decide +kernel
theorem d24_78 : decode prog_141_method_11_code 78 = .ok (.invokevirtual 154, 3) := by decide +kernel
theorem d24_81 : decode prog_141_method_11_code 81 = .ok (.invokevirtual 172, 3) := by decide +kernel
theorem d24_84 : decode prog_141_method_11_code 84 = .ok (.aload_n 0, 1) := by decide +kernel
theorem d24_85 : decode prog_141_method_11_code 85 = .ok (.dup, 1) := by decide +kernel
theorem d24_86 : decode prog_141_method_11_code 86 = .ok (.getfield 48, 3) := by decide +kernel
theorem d24_89 : decode prog_141_method_11_code 89 = .ok (.lconst 1, 1) := by decide +kernel
theorem d24_90 : decode prog_141_method_11_code 90 = .ok (.ladd, 1) := by decide +kernel
theorem d24_91 : decode prog_141_method_11_code 91 = .ok (.putfield 48, 3) := by decide +kernel
theorem d24_94 : decode prog_141_method_11_code 94 = .ok (.goto (-65), 3) := by decide +kernel
def Q24c (Z : State) (oa : Addr) (qo : Int64) (qn : Int64) (qr : Int64) (qc : Int64) (xs : Int32) (ust : Value) (xw : Int64) (bf : Addr) (of : Addr) (kf : ClassId) (bl : Addr) (ol : Addr) (kl : ClassId) (el : Addr) (ea : Addr) (kE : ClassId) (uf_oa_committedAhead : Value) (uf_oa_consumed : Value) (uf_oa_consumedAt : Value) (uf_oa_committedFailures : Value) (h0 : Heap) (n0 : Nat) (rv_ : Option Value) (h_ : Heap) (L_ : List Loc) : Prop := rv_ = some (.int (1 : Int32)) ∧ Fr n0 L_ ∧ Keep h0 h_ [oa, bf, of] ∧ Fld Z h_ oa "evenkeel/client/Window" "unfinished" "J" (.long (if qr < (0 : Int64) then (own_run qo qn xw xs) else (if (own_run qo qn xw xs) = qn then qr else (own_run qo qn xw xs)))) ∧ Fld Z h_ oa "evenkeel/client/Window" "next" "J" (.long (if qr < (0 : Int64) then qn else (if (own_run qo qn xw xs) = qn then qr else qn))) ∧ Fld Z h_ oa "evenkeel/client/Window" "restart" "J" (.long (if qr < (0 : Int64) then qr else (if (own_run qo qn xw xs) = qn then (-1 : Int64) else (if qr < qr then qr else qr)))) ∧ Fld Z h_ oa "evenkeel/client/Window" "committed" "J" (.long (if qr < (0 : Int64) then qc else (if (own_run qo qn xw xs) = qn then qr else qc))) ∧ Fld Z h_ oa "evenkeel/client/Window" "size" "I" (.int xs) ∧ Fld Z h_ oa "evenkeel/client/Window" "committedAhead" "Ljava/util/List;" uf_oa_committedAhead ∧ Fld Z h_ oa "evenkeel/client/Window" "finished" "Ljava/util/BitSet;" (.ref bf) ∧ Fld Z h_ oa "evenkeel/client/Window" "consumed" "Ljava/util/List;" uf_oa_consumed ∧ Fld Z h_ oa "evenkeel/client/Window" "consumedAt" "I" uf_oa_consumedAt ∧ Fld Z h_ oa "evenkeel/client/Window" "left" "Ljava/util/BitSet;" (.ref bl) ∧ Fld Z h_ oa "evenkeel/client/Window" "failing" "Ljava/util/TreeMap;" .null ∧ Fld Z h_ oa "evenkeel/client/Window" "committedFailures" "Ljava/util/List;" uf_oa_committedFailures
set_option maxRecDepth 65536 in
set_option maxHeartbeats 40000000 in
theorem rm24c (l : Launch) (Z : State) (a0 : Array Value) (hw : ∀ d ∈ tables_1, d.before a0 Z = true) (ws : List Jvm.Cond) (oa : Addr) (qo : Int64) (qn : Int64) (qr : Int64) (qc : Int64) (xs : Int32) (ust : Value) (xw : Int64) (bf : Addr) (of : Addr) (kf : ClassId) (bl : Addr) (ol : Addr) (kl : ClassId) (el : Addr) (ea : Addr) (kE : ClassId) (uf_oa_committedAhead : Value) (uf_oa_consumed : Value) (uf_oa_consumedAt : Value) (uf_oa_committedFailures : Value) (h0 : Heap) (n0 : Nat) (Z0 : n0 ≤ h0.size) (E_ : Exa Z h0 oa "evenkeel/client/Window") (Fu : Fld Z h0 oa "evenkeel/client/Window" "unfinished" "J" (.long qo)) (Fn : Fld Z h0 oa "evenkeel/client/Window" "next" "J" (.long qn)) (Fre : Fld Z h0 oa "evenkeel/client/Window" "restart" "J" (.long qr)) (Fco : Fld Z h0 oa "evenkeel/client/Window" "committed" "J" (.long qc)) (Ffa : Fld Z h0 oa "evenkeel/client/Window" "failing" "Ljava/util/TreeMap;" .null) (Fs : Fld Z h0 oa "evenkeel/client/Window" "size" "I" (.int xs)) (Ff : Fld Z h0 oa "evenkeel/client/Window" "finished" "Ljava/util/BitSet;" (.ref bf)) (Ef : Exa Z h0 bf "java/util/BitSet") (Fwf : Fld Z h0 bf "java/util/BitSet" "wordsInUse" "I" (.int (own_wu xw))) (Fxf : Fld Z h0 bf "java/util/BitSet" "words" "[J" (.ref of)) (Vxf : Arv Z h0 of kf .long (1 : Int32) [(.long xw)] (.long (0 : Int64))) (Fst : Fld Z h0 bf "java/util/BitSet" "sizeIsSticky" "Z" ust) (Fl : Fld Z h0 oa "evenkeel/client/Window" "left" "Ljava/util/BitSet;" (.ref bl)) (El : Exa Z h0 bl "java/util/BitSet") (Fwl : Fld Z h0 bl "java/util/BitSet" "wordsInUse" "I" (.int (own_wu (0 : Int64)))) (Fxl : Fld Z h0 bl "java/util/BitSet" "words" "[J" (.ref ol)) (Vxl : Arv Z h0 ol kl .long (1 : Int32) [(.long (0 : Int64))] (.long (0 : Int64))) (hsz : 1 ≤ xs.toInt ∧ xs.toInt ≤ 4) (hq0 : 0 ≤ qo.toInt) (h2 : qo < qn) (hq62 : qo.toInt < 4611686018427387904) (hn4 : qn.toInt ≤ qo.toInt + 4) (noabf : oa ≠ bf) (noaof : oa ≠ of) (nbfof : bf ≠ of) (noabl : oa ≠ bl) (noaol : oa ≠ ol) (nbfbl : bf ≠ bl) (nbfol : bf ≠ ol) (nofbl : of ≠ bl) (nofol : of ≠ ol) (g_ : n0 ≤ oa) (gf : n0 ≤ bf) (go : n0 ≤ of) (O_ : Old Z n0 h0) (P_ : own_P Z el ea kE) (F_oa_committedAhead : Fld Z h0 oa "evenkeel/client/Window" "committedAhead" "Ljava/util/List;" uf_oa_committedAhead) (F_oa_consumed : Fld Z h0 oa "evenkeel/client/Window" "consumed" "Ljava/util/List;" uf_oa_consumed) (F_oa_consumedAt : Fld Z h0 oa "evenkeel/client/Window" "consumedAt" "I" uf_oa_consumedAt) (F_oa_committedFailures : Fld Z h0 oa "evenkeel/client/Window" "committedFailures" "Ljava/util/List;" uf_oa_committedFailures) :
    MetFree l (⟨"evenkeel/client/Window", "finish", "(J)Z"⟩ : MethodName) (head1 (Jvm.Cond.code (⟨"evenkeel/client/Window", "finish", "(J)Z"⟩ : MethodName) prog_141_method_11_code 3 (some .boolean) :: ws) ({ frames := 3, cells := 0, slots := 0, locals := 40 } : Room)) (fun a U => a = #[(.ref oa), (.long qo)] ∧ Z.Warmed39 U.vm ∧ U.heap = h0) (fun _ _ _ _ _ => True) (fun _ U o U' => ∃ v L, o = .returned v ∧ Q24c Z oa qo qn qr qc xs ust xw bf of kf bl ol kl el ea kE uf_oa_committedAhead uf_oa_consumed uf_oa_consumedAt uf_oa_committedFailures h0 n0 v U'.heap L ∧ FrameEnd U o U' L ({ frames := 3, cells := 0, slots := 0, locals := 40 } : Room).cells ({ frames := 3, cells := 0, slots := 0, locals := 40 } : Room).slots) := by
  refine MetFree.of_bodySF (plainFor_of_name pn_8) hisR ?_
  intro p e s m args below meth c s₁ Bd hml0 hP hK
  obtain ⟨rfl, hZ, hh⟩ := hP
  have hx := Bd.exec
  have hby := Bd.bytes
  have hml : c.maxLocals = 3 := hml0
  have hown : s.vm.findClass "evenkeel/client/Window" = some m.cls := findClass_of_methodNamed Bd.named
  have hnm := (name_of_methodNamed Bd.named Bd.method).1
  have X0 : Stand p l e ({ frames := 3, cells := 0, slots := 0, locals := 40 } : Room) s m #[(.ref oa), (.long qo)] below meth c s₁ [] 0 0 := Stand.of_body Bd
  have e0 : s₁.heap = h0 := by rw [← hh, Bd.state]; rfl
  have N0 := Fr.nil n0
  obtain ⟨G, hG, pre0⟩ : ∃ G : State → Prop, (∀ t, G t → Steps p.tables e below (s₁.setTop (entryFrame m #[(.ref oa), (.long qo)] 3)) t) ∧ ∀ t, own_K p e below m s₁ 0 #[rv oa, lv qo, .second] [] t → G t := ⟨fun t => Steps p.tables e below (s₁.setTop (entryFrame m #[(.ref oa), (.long qo)] 3)) t, fun _ k => k, fun t k => castTop (ef_24a m oa qo) k⟩
  obtain ⟨cq1, q1, q1'⟩ := E_.cell
  obtain ⟨_, _, ⟨T1, L1, k1, n1⟩, -, X1, ⟨Lc1, hQ1, l1, y1, z1⟩, st1⟩ := X0.privateBack hx (y := (⟨"evenkeel/client/Window", "inHand", "(J)Z"⟩ : MethodName)) hown (mvT hZ (tw hw (i := 202) rfl)) (mvT hZ (tw hw (i := 203) rfl)) (own_selp hZ (tw hw (i := 3) rfl) (tw hw (i := 204) rfl) (tw hw (i := 203) rfl) (by decide)) (Cond.privateMethod_at (mvP hZ (tw hw (i := 204) rfl) (args := #[]))) (mvT hZ (tw hw (i := 205) rfl)) (by decide) (backOf (W := 0) (rm25c l Z a0 hw [] oa qo qn xs bl ol kl el ea kE h0 n0 Z0 E_ Fu Fn Fs Fl El Fwl Fxl Vxl hsz hq0 h2 O_ P_) hZ (tw hw (i := 205) rfl) (tw hw (i := 4) rfl) (by decide) (by decide)) (g := (mkF m 2 #[rv oa, lv qo, .second] [(.long qo), (.ref oa)])) rfl (by rw [hml]; rfl) (Steps.refl _) (a := oa) (by rw [e0]; exact q1) q1' (argsL := [(.long qo)]) (rest := []) (lenOf pd_14 rfl) rfl (by show 2 * 0 + _ ≤ _; exact Nat.le_of_eq rfl) (hb hby d24_2) (fun _ _ => ⟨rfl, e0, (by decide : 0 + 0 ≤ _), (by decide : 0 + 0 ≤ _)⟩)
  dsimp only [Pt.U, Pt.locs, Pt.cells, Pt.slots] at X1 l1 y1 z1 st1 hQ1
  subst l1 y1 z1
  obtain ⟨rfl, Nq1, eh1⟩ := hQ1
  have N1 := Fr.app N0 Nq1
  obtain ⟨T2, X2, e2, st2⟩ := getF X1 hx hZ hown (host := "") (Or.inl (tw hw (i := 142) rfl)) Via.refl eh1 Fu (g := (mkF m 12 #[rv oa, lv qo, .second] [(.ref oa), (.long qo)])) rfl rfl (hb hby d24_12)
  obtain ⟨T3, X3, e3, st3⟩ := getF X2 hx hZ hown (host := "") (Or.inl (tw hw (i := 142) rfl)) Via.refl e2 Fu (g := (mkF m 21 #[rv oa, lv qo, .second] [(.ref oa), (.ref oa)])) rfl rfl (hb hby d24_21)
  obtain ⟨T4, h4, X4, e4, W4, st4⟩ := putF X3 hx hZ hown (host := "") (Or.inl (tw hw (i := 142) rfl)) Via.refl e3 Fu E_ (Or.inl (tw hw (i := 143) rfl)) (tw hw (i := 3) rfl) (ty := .long) (by decide) rfl rfl (g := (mkF m 26 #[rv oa, lv qo, .second] [(.long (qo + (1 : Int64))), (.ref oa)])) rfl rfl (hb hby d24_26)
  have f4w := Fu.same W4
  have K4 : Keep h0 h4 [oa, bf, of] := (Keep.refl h0 [oa, bf, of]).wr W4 (Or.inl (List.mem_of_getElem? (i := 0) rfl))
  have N4 := Fr.snoc X4 N1 g_
  have sz4 : n0 ≤ h4.size := Nat.le_trans Z0 (Keep.of_wr W4).1
  obtain ⟨T5, X5, e5, st5⟩ := getF X4 hx hZ hown (host := "") (Or.inl (tw hw (i := 142) rfl)) Via.refl e4 f4w (g := (mkF m 30 #[rv oa, lv qo, .second] [(.ref oa)])) rfl rfl (hb hby d24_30)
  have f7 : Fld Z h4 oa "evenkeel/client/Window" "next" "J" (.long qn) := (Fn.other W4 (Or.inr (slot_ne (Or.inl (tw hw (i := 145) rfl)) (Or.inl (tw hw (i := 143) rfl)) (by decide) (t := .long) (t' := .long) (by decide) (by decide))))
  obtain ⟨T6, X6, e6, st6⟩ := getF X5 hx hZ hown (host := "") (Or.inl (tw hw (i := 144) rfl)) Via.refl e5 f7 (g := (mkF m 34 #[rv oa, lv qo, .second] [(.ref oa), (.long (qo + (1 : Int64)))])) rfl rfl (hb hby d24_34)
  have pre8 : ∀ t, own_K p e below m T6 38 #[rv oa, lv qo, .second] [(.int (lcmpW (qo + (1 : Int64)) qn))] t → G t := by
    intro t k
    refine pre0 t ?_
    show own_K p e below m s₁ 0 #[rv oa, lv qo, .second] [] _
    refine XS.aloadN X0.here hx rfl (hb hby d24_0) rfl rfl ?_
    show own_K p e below m s₁ 1 #[rv oa, lv qo, .second] [(.ref oa)] _
    refine XS.lloadN X0.here hx rfl (hb hby d24_1) rfl ?_
    show own_K p e below m s₁ 2 #[rv oa, lv qo, .second] [(.long qo), (.ref oa)] _
    refine st1.trans ?_
    show own_K p e below m T1 5 #[rv oa, lv qo, .second] [(.int (1 : Int32))] _
    refine XS.ifYes X1.here hx rfl (pc0 := 5) (pc' := 10) rfl (hb hby d24_5) rfl ((if0 _ _).trans (feq (by decide : ¬ ((1 : Int32) = (0 : Int32)))).2) (by decide) (by decide) ?_
    show own_K p e below m T1 10 #[rv oa, lv qo, .second] [] _
    refine XS.lloadN X1.here hx rfl (hb hby d24_10) rfl ?_
    show own_K p e below m T1 11 #[rv oa, lv qo, .second] [(.long qo)] _
    refine XS.aloadN X1.here hx rfl (hb hby d24_11) rfl rfl ?_
    show own_K p e below m T1 12 #[rv oa, lv qo, .second] [(.ref oa), (.long qo)] _
    refine st2 _ ?_
    show own_K p e below m T2 15 #[rv oa, lv qo, .second] [(.long qo), (.long qo)] _
    refine XS.lcmp X2.here hx rfl (hb hby d24_15) rfl ?_
    show own_K p e below m T2 16 #[rv oa, lv qo, .second] [(.int (lcmpW qo qo))] _
    refine XS.ifNo X2.here hx rfl (hb hby d24_16) rfl ((if0 _ _).trans (teq ((lw_eq _ _).mpr (rfl : qo = qo))).2) ?_
    show own_K p e below m T2 19 #[rv oa, lv qo, .second] [] _
    refine XS.aloadN X2.here hx rfl (hb hby d24_19) rfl rfl ?_
    show own_K p e below m T2 20 #[rv oa, lv qo, .second] [(.ref oa)] _
    refine XS.dup X2.here hx rfl (hb hby d24_20) rfl rfl ?_
    show own_K p e below m T2 21 #[rv oa, lv qo, .second] [(.ref oa), (.ref oa)] _
    refine st3 _ ?_
    show own_K p e below m T3 24 #[rv oa, lv qo, .second] [(.long qo), (.ref oa)] _
    refine XS.lconst X3.here hx rfl (hb hby d24_24) ?_
    show own_K p e below m T3 25 #[rv oa, lv qo, .second] [(.long (1 : Int64)), (.long qo), (.ref oa)] _
    refine XS.ladd X3.here hx rfl (hb hby d24_25) rfl ?_
    show own_K p e below m T3 26 #[rv oa, lv qo, .second] [(.long (qo + (1 : Int64))), (.ref oa)] _
    refine st4 _ ?_
    show own_K p e below m T4 29 #[rv oa, lv qo, .second] [] _
    refine XS.aloadN X4.here hx rfl (hb hby d24_29) rfl rfl ?_
    show own_K p e below m T4 30 #[rv oa, lv qo, .second] [(.ref oa)] _
    refine st5 _ ?_
    show own_K p e below m T5 33 #[rv oa, lv qo, .second] [(.long (qo + (1 : Int64)))] _
    refine XS.aloadN X5.here hx rfl (hb hby d24_33) rfl rfl ?_
    show own_K p e below m T5 34 #[rv oa, lv qo, .second] [(.ref oa), (.long (qo + (1 : Int64)))] _
    refine st6 _ ?_
    show own_K p e below m T6 37 #[rv oa, lv qo, .second] [(.long qn), (.long (qo + (1 : Int64)))] _
    refine XS.lcmp X6.here hx rfl (hb hby d24_37) rfl ?_
    exact k
  obtain ⟨v127, hv127⟩ : ∃ z : Int64, z = (if (qo + (1 : Int64)) < qn then (if xw = (0 : Int64) then (qo + (1 : Int64)) else (if (xw &&& ((1 : Int64) <<< ((((qo + (1 : Int64)) - ((qo + (1 : Int64)) / (xs.toInt64)) * (xs.toInt64)).toInt32) &&& 0x3f).toInt64)) = (0 : Int64) then (qo + (1 : Int64)) else (if ((qo + (1 : Int64)) + (1 : Int64)) < qn then (if (xw &&& (((1 : Int64) <<< ((((qo + (1 : Int64)) - ((qo + (1 : Int64)) / (xs.toInt64)) * (xs.toInt64)).toInt32) &&& 0x3f).toInt64) ^^^ (-1 : Int64))) = (0 : Int64) then ((qo + (1 : Int64)) + (1 : Int64)) else (if ((xw &&& (((1 : Int64) <<< ((((qo + (1 : Int64)) - ((qo + (1 : Int64)) / (xs.toInt64)) * (xs.toInt64)).toInt32) &&& 0x3f).toInt64) ^^^ (-1 : Int64))) &&& ((1 : Int64) <<< (((((qo + (1 : Int64)) + (1 : Int64)) - (((qo + (1 : Int64)) + (1 : Int64)) / (xs.toInt64)) * (xs.toInt64)).toInt32) &&& 0x3f).toInt64)) = (0 : Int64) then ((qo + (1 : Int64)) + (1 : Int64)) else (if (((qo + (1 : Int64)) + (1 : Int64)) + (1 : Int64)) < qn then (if ((xw &&& (((1 : Int64) <<< ((((qo + (1 : Int64)) - ((qo + (1 : Int64)) / (xs.toInt64)) * (xs.toInt64)).toInt32) &&& 0x3f).toInt64) ^^^ (-1 : Int64))) &&& (((1 : Int64) <<< (((((qo + (1 : Int64)) + (1 : Int64)) - (((qo + (1 : Int64)) + (1 : Int64)) / (xs.toInt64)) * (xs.toInt64)).toInt32) &&& 0x3f).toInt64) ^^^ (-1 : Int64))) = (0 : Int64) then (((qo + (1 : Int64)) + (1 : Int64)) + (1 : Int64)) else (if (((xw &&& (((1 : Int64) <<< ((((qo + (1 : Int64)) - ((qo + (1 : Int64)) / (xs.toInt64)) * (xs.toInt64)).toInt32) &&& 0x3f).toInt64) ^^^ (-1 : Int64))) &&& (((1 : Int64) <<< (((((qo + (1 : Int64)) + (1 : Int64)) - (((qo + (1 : Int64)) + (1 : Int64)) / (xs.toInt64)) * (xs.toInt64)).toInt32) &&& 0x3f).toInt64) ^^^ (-1 : Int64))) &&& ((1 : Int64) <<< ((((((qo + (1 : Int64)) + (1 : Int64)) + (1 : Int64)) - ((((qo + (1 : Int64)) + (1 : Int64)) + (1 : Int64)) / (xs.toInt64)) * (xs.toInt64)).toInt32) &&& 0x3f).toInt64)) = (0 : Int64) then (((qo + (1 : Int64)) + (1 : Int64)) + (1 : Int64)) else ((((qo + (1 : Int64)) + (1 : Int64)) + (1 : Int64)) + (1 : Int64)))) else (((qo + (1 : Int64)) + (1 : Int64)) + (1 : Int64))))) else ((qo + (1 : Int64)) + (1 : Int64))))) else (qo + (1 : Int64))) := ⟨_, rfl⟩
  obtain ⟨T126, h126, lo126, X126, N126, e126, K126, j126_0, j126_1, j126_2, j126_3, j126_4, j126_5, j126_6, j126_7, j126_8, j126_9, j126_10, j126_11, j126_12, j126_13, pre126⟩ : ∃ (T' : State) (h' : Heap) (l' : List Loc), Stand p l e ({ frames := 3, cells := 0, slots := 0, locals := 40 } : Room) s m #[(.ref oa), (.long qo)] below meth c T' l' 0 0 ∧ Fr n0 l' ∧ T'.heap = h' ∧ Keep h0 h' [oa, bf, of] ∧ Exa Z h' oa "evenkeel/client/Window" ∧ Fld Z h' oa "evenkeel/client/Window" "unfinished" "J" (.long v127) ∧ Fld Z h' oa "evenkeel/client/Window" "next" "J" (.long qn) ∧ Fld Z h' oa "evenkeel/client/Window" "restart" "J" (.long qr) ∧ Fld Z h' oa "evenkeel/client/Window" "committed" "J" (.long qc) ∧ Fld Z h' oa "evenkeel/client/Window" "failing" "Ljava/util/TreeMap;" .null ∧ Fld Z h' oa "evenkeel/client/Window" "size" "I" (.int xs) ∧ Fld Z h' oa "evenkeel/client/Window" "finished" "Ljava/util/BitSet;" (.ref bf) ∧ Fld Z h' oa "evenkeel/client/Window" "left" "Ljava/util/BitSet;" (.ref bl) ∧ Old Z n0 h' ∧ Fld Z h' oa "evenkeel/client/Window" "committedAhead" "Ljava/util/List;" uf_oa_committedAhead ∧ Fld Z h' oa "evenkeel/client/Window" "consumed" "Ljava/util/List;" uf_oa_consumed ∧ Fld Z h' oa "evenkeel/client/Window" "consumedAt" "I" uf_oa_consumedAt ∧ Fld Z h' oa "evenkeel/client/Window" "committedFailures" "Ljava/util/List;" uf_oa_committedFailures ∧ ∀ t, own_K p e below m T' 109 #[rv oa, lv qo, .second] [] t → G t := by
    by_cases hc38_9 : (qo + (1 : Int64)) < qn
    · have f11 : Fld Z h4 oa "evenkeel/client/Window" "finished" "Ljava/util/BitSet;" (.ref bf) := (Ff.other W4 (Or.inr (slot_ne (Or.inr (tw hw (i := 127) rfl)) (Or.inl (tw hw (i := 143) rfl)) (by decide) (t := (.object "java/util/BitSet")) (t' := .long) (by decide) (by decide))))
      obtain ⟨T10, X10, e10, st10⟩ := getF X6 hx hZ hown (host := "") (Or.inl (tw hw (i := 126) rfl)) Via.refl e6 f11 (g := (mkF m 42 #[rv oa, lv qo, .second] [(.ref oa)])) rfl rfl (hb hby d24_42)
      have f13 : Fld Z h4 bf "java/util/BitSet" "wordsInUse" "I" (.int (own_wu xw)) := (Fwf.other W4 (Or.inl (Ne.symm noabf)))
      have f14 : Exa Z h4 bf "java/util/BitSet" := (Ef.wr W4)
      obtain ⟨cq12, kq12, q12a, q12b, q12c⟩ := isOf hZ e10 f14
      obtain ⟨_, _, ⟨T12, L12, k12, n12⟩, -, X12, ⟨Lc12, hQ12, l12, y12, z12⟩, st12⟩ := X10.virtualBack hx (y := (⟨"java/util/BitSet", "isEmpty", "()Z"⟩ : MethodName)) (z := (⟨"java/util/BitSet", "isEmpty", "()Z"⟩ : MethodName)) hown (mvT hZ (tw hw (i := 243) rfl)) (mvT hZ (tw hw (i := 244) rfl)) (notFace_of_selects (args := #[]) (mvT hZ (tw hw (i := 246) rfl))) (mvT hZ (tw hw (i := 246) rfl)) (mvT hZ (tw hw (i := 245) rfl)) (by decide) (backOf (W := 0) (rm33w l Z a0 hw [] bf xw h4 n0 sz4 f13) hZ (tw hw (i := 247) rfl) (tw hw (i := 106) rfl) (by decide) (by decide)) q12a q12c (g := (mkF m 45 #[rv oa, lv qo, .second] [(.ref bf)])) rfl (by rw [hml]; rfl) (Steps.refl _) (argsL := []) (rest := []) (lenOf pd_5 rfl) rfl (by show 2 * 0 + _ ≤ _; exact Nat.le_of_eq rfl) (hb hby d24_45) (fun _ _ => ⟨rfl, e10, (by decide : 0 + 0 ≤ _), (by decide : 0 + 0 ≤ _)⟩)
      dsimp only [Pt.U, Pt.locs, Pt.cells, Pt.slots] at X12 l12 y12 z12 st12 hQ12
      subst l12 y12 z12
      obtain ⟨rfl, Nq12, eh12⟩ := hQ12
      have N12 := Fr.app N4 Nq12
      have pre16 : ∀ t, own_K p e below m T12 48 #[rv oa, lv qo, .second] [(.int (if xw = (0 : Int64) then (1 : Int32) else (0 : Int32)))] t → G t := by
        intro t k
        refine pre8 t ?_
        show own_K p e below m T6 38 #[rv oa, lv qo, .second] [(.int (lcmpW (qo + (1 : Int64)) qn))] _
        refine XS.ifNo X6.here hx rfl (hb hby d24_38) rfl ((if0 _ _).trans (tlt ((lw_lt _ _).mpr hc38_9)).2.1) ?_
        show own_K p e below m T6 41 #[rv oa, lv qo, .second] [] _
        refine XS.aloadN X6.here hx rfl (hb hby d24_41) rfl rfl ?_
        show own_K p e below m T6 42 #[rv oa, lv qo, .second] [(.ref oa)] _
        refine st10 _ ?_
        show own_K p e below m T10 45 #[rv oa, lv qo, .second] [(.ref bf)] _
        refine st12.trans ?_
        exact k
      by_cases hb48_15 : xw = (0 : Int64)
      · have hq17 : (if xw = (0 : Int64) then (1 : Int32) else (0 : Int32)) = (1 : Int32) := (if_pos hb48_15)
        have pre17 : ∀ t, own_K p e below m T12 48 #[rv oa, lv qo, .second] [(.int (1 : Int32))] t → G t := fun t k => pre16 t (by rw [hq17]; exact k)
        have pre18 : ∀ t, own_K p e below m T12 109 #[rv oa, lv qo, .second] [] t → G t := by
          intro t k
          refine pre17 t ?_
          show own_K p e below m T12 48 #[rv oa, lv qo, .second] [(.int (1 : Int32))] _
          refine XS.ifYes X12.here hx rfl (pc0 := 48) (pc' := 109) rfl (hb hby d24_48) rfl ((if0 _ _).trans (feq (by decide : ¬ ((1 : Int32) = (0 : Int32)))).2) (by decide) (by decide) ?_
          exact k
        have f128 : Exa Z h4 oa "evenkeel/client/Window" := (E_.wr W4)
        have f129 : Fld Z h4 oa "evenkeel/client/Window" "restart" "J" (.long qr) := (Fre.other W4 (Or.inr (slot_ne (Or.inl (tw hw (i := 130) rfl)) (Or.inl (tw hw (i := 143) rfl)) (by decide) (t := .long) (t' := .long) (by decide) (by decide))))
        have f130 : Fld Z h4 oa "evenkeel/client/Window" "committed" "J" (.long qc) := (Fco.other W4 (Or.inr (slot_ne (Or.inl (tw hw (i := 141) rfl)) (Or.inl (tw hw (i := 143) rfl)) (by decide) (t := .long) (t' := .long) (by decide) (by decide))))
        have f131 : Fld Z h4 oa "evenkeel/client/Window" "failing" "Ljava/util/TreeMap;" .null := (Ffa.other W4 (Or.inr (slot_ne (Or.inl (tw hw (i := 196) rfl)) (Or.inl (tw hw (i := 143) rfl)) (by decide) (t := (.object "java/util/TreeMap")) (t' := .long) (by decide) (by decide))))
        have f132 : Fld Z h4 oa "evenkeel/client/Window" "size" "I" (.int xs) := (Fs.other W4 (Or.inr (slot_ne (Or.inr (tw hw (i := 134) rfl)) (Or.inl (tw hw (i := 143) rfl)) (by decide) (t := .int) (t' := .long) (by decide) (by decide))))
        have f133 : Fld Z h4 oa "evenkeel/client/Window" "left" "Ljava/util/BitSet;" (.ref bl) := (Fl.other W4 (Or.inr (slot_ne (Or.inr (tw hw (i := 132) rfl)) (Or.inl (tw hw (i := 143) rfl)) (by decide) (t := (.object "java/util/BitSet")) (t' := .long) (by decide) (by decide))))
        have f134 : Old Z n0 h4 := (O_.wr W4 g_)
        have f135 : Fld Z h4 oa "evenkeel/client/Window" "committedAhead" "Ljava/util/List;" uf_oa_committedAhead := (F_oa_committedAhead.other W4 (Or.inr (slot_ne (Or.inl (tw hw (i := 103) rfl)) (Or.inl (tw hw (i := 143) rfl)) (by decide) (t := (.object "java/util/List")) (t' := .long) (by decide) (by decide))))
        have f136 : Fld Z h4 oa "evenkeel/client/Window" "consumed" "Ljava/util/List;" uf_oa_consumed := (F_oa_consumed.other W4 (Or.inr (slot_ne (Or.inr (tw hw (i := 152) rfl)) (Or.inl (tw hw (i := 143) rfl)) (by decide) (t := (.object "java/util/List")) (t' := .long) (by decide) (by decide))))
        have f137 : Fld Z h4 oa "evenkeel/client/Window" "consumedAt" "I" uf_oa_consumedAt := (F_oa_consumedAt.other W4 (Or.inr (slot_ne (Or.inl (tw hw (i := 174) rfl)) (Or.inl (tw hw (i := 143) rfl)) (by decide) (t := .int) (t' := .long) (by decide) (by decide))))
        have f138 : Fld Z h4 oa "evenkeel/client/Window" "committedFailures" "Ljava/util/List;" uf_oa_committedFailures := (F_oa_committedFailures.other W4 (Or.inr (slot_ne (Or.inl (tw hw (i := 159) rfl)) (Or.inl (tw hw (i := 143) rfl)) (by decide) (t := (.object "java/util/List")) (t' := .long) (by decide) (by decide))))
        have hq := True.intro
        obtain rfl : (qo + (1 : Int64)) = v127 := by simp only [hv127, if_pos hc38_9, if_pos hb48_15]
        exact ⟨_, _, _, X12, N12, eh12, K4, f128, f4w, f7, f129, f130, f131, f132, f11, f133, f134, f135, f136, f137, f138, fun t k => pre18 t k⟩
      · have hq19 : (if xw = (0 : Int64) then (1 : Int32) else (0 : Int32)) = (0 : Int32) := (if_neg hb48_15)
        have pre19 : ∀ t, own_K p e below m T12 48 #[rv oa, lv qo, .second] [(.int (0 : Int32))] t → G t := fun t k => pre16 t (by rw [hq19]; exact k)
        obtain ⟨T20, X20, e20, st20⟩ := getF X12 hx hZ hown (host := "") (Or.inl (tw hw (i := 126) rfl)) Via.refl eh12 f11 (g := (mkF m 52 #[rv oa, lv qo, .second] [(.ref oa)])) rfl rfl (hb hby d24_52)
        obtain ⟨T21, X21, e21, st21⟩ := getF X20 hx hZ hown (host := "") (Or.inl (tw hw (i := 142) rfl)) Via.refl e20 f4w (g := (mkF m 57 #[rv oa, lv qo, .second] [(.ref oa), (.ref oa), (.ref bf)])) rfl rfl (hb hby d24_57)
        have f23 : Fld Z h4 oa "evenkeel/client/Window" "size" "I" (.int xs) := (Fs.other W4 (Or.inr (slot_ne (Or.inr (tw hw (i := 134) rfl)) (Or.inl (tw hw (i := 143) rfl)) (by decide) (t := .int) (t' := .long) (by decide) (by decide))))
        have f24 : Exa Z h4 oa "evenkeel/client/Window" := (E_.wr W4)
        obtain ⟨cq22, q22, q22'⟩ := f24.cell
        obtain ⟨_, _, ⟨T22, L22, k22, n22⟩, -, X22, ⟨Lc22, hQ22, l22, y22, z22⟩, st22⟩ := X21.privateBack hx (y := (⟨"evenkeel/client/Window", "bit", "(J)I"⟩ : MethodName)) hown (mvT hZ (tw hw (i := 212) rfl)) (mvT hZ (tw hw (i := 213) rfl)) (own_selp hZ (tw hw (i := 3) rfl) (tw hw (i := 214) rfl) (tw hw (i := 213) rfl) (by decide)) (Cond.privateMethod_at (mvP hZ (tw hw (i := 214) rfl) (args := #[]))) (mvT hZ (tw hw (i := 215) rfl)) (by decide) (backOf (W := 1) (rm27 l Z a0 hw [] oa (qo + (1 : Int64)) xs h4 n0 sz4 f23 (own_snz hsz)) hZ (tw hw (i := 215) rfl) (tw hw (i := 4) rfl) (by decide) (by decide)) (g := (mkF m 60 #[rv oa, lv qo, .second] [(.long (qo + (1 : Int64))), (.ref oa), (.ref bf)])) rfl (by rw [hml]; rfl) (Steps.refl _) (a := oa) (by rw [e21]; exact q22) q22' (argsL := [(.long (qo + (1 : Int64)))]) (rest := [(.ref bf)]) (lenOf pd_12 rfl) rfl (by show 2 * 0 + _ ≤ _; exact Nat.le_of_eq rfl) (hb hby d24_60) (fun _ _ => ⟨rfl, e21, (by decide : 0 + 0 ≤ _), (by decide : 0 + 0 ≤ _)⟩)
        dsimp only [Pt.U, Pt.locs, Pt.cells, Pt.slots] at X22 l22 y22 z22 st22 hQ22
        subst l22 y22 z22
        obtain ⟨rfl, Nq22, eh22⟩ := hQ22
        have N22 := Fr.app N12 Nq22
        have f26 : Fld Z h4 bf "java/util/BitSet" "words" "[J" (.ref of) := (Fxf.other W4 (Or.inl (Ne.symm noabf)))
        have f27 : Arv Z h4 of kf .long (1 : Int32) [(.long xw)] (.long (0 : Int64)) := (Vxf.other W4 (Ne.symm noaof))
        have f28 : Old Z n0 h4 := (O_.wr W4 g_)
        obtain ⟨cq25, kq25, q25a, q25b, q25c⟩ := isOf hZ eh22 f14
        obtain ⟨_, _, ⟨T25, L25, k25, n25⟩, -, X25, ⟨Lc25, hQ25, l25, y25, z25⟩, st25⟩ := X22.virtualBack hx (y := (⟨"java/util/BitSet", "get", "(I)Z"⟩ : MethodName)) (z := (⟨"java/util/BitSet", "get", "(I)Z"⟩ : MethodName)) hown (mvT hZ (tw hw (i := 216) rfl)) (mvT hZ (tw hw (i := 217) rfl)) (notFace_of_selects (args := #[]) (mvT hZ (tw hw (i := 219) rfl))) (mvT hZ (tw hw (i := 219) rfl)) (mvT hZ (tw hw (i := 218) rfl)) (by decide) (backOf (W := 0) (rm28 l Z a0 hw [] bf (((qo + (1 : Int64)) - ((qo + (1 : Int64)) / (xs.toInt64)) * (xs.toInt64)).toInt32) xw of kf el ea kE h4 n0 sz4 f14 f13 f26 f27 (own_bit0 (own_qp1 hq0 hq62) hsz) (own_bit6 (own_qp1 hq0 hq62) hsz) f28 P_) hZ (tw hw (i := 220) rfl) (tw hw (i := 106) rfl) (by decide) (by decide)) q25a q25c (g := (mkF m 63 #[rv oa, lv qo, .second] [(.int (((qo + (1 : Int64)) - ((qo + (1 : Int64)) / (xs.toInt64)) * (xs.toInt64)).toInt32)), (.ref bf)])) rfl (by rw [hml]; rfl) (Steps.refl _) (argsL := [(.int (((qo + (1 : Int64)) - ((qo + (1 : Int64)) / (xs.toInt64)) * (xs.toInt64)).toInt32))]) (rest := []) (lenOf pd_13 rfl) rfl (by show 2 * 0 + _ ≤ _; exact Nat.le_of_eq rfl) (hb hby d24_63) (fun _ _ => ⟨rfl, eh22, (by decide : 0 + 0 ≤ _), (by decide : 0 + 0 ≤ _)⟩)
        dsimp only [Pt.U, Pt.locs, Pt.cells, Pt.slots] at X25 l25 y25 z25 st25 hQ25
        subst l25 y25 z25
        obtain ⟨rfl, Nq25, eh25⟩ := hQ25
        have N25 := Fr.app N22 Nq25
        have pre30 : ∀ t, own_K p e below m T25 66 #[rv oa, lv qo, .second] [(.int (if (xw &&& ((1 : Int64) <<< ((((qo + (1 : Int64)) - ((qo + (1 : Int64)) / (xs.toInt64)) * (xs.toInt64)).toInt32) &&& 0x3f).toInt64)) = (0 : Int64) then (0 : Int32) else (1 : Int32)))] t → G t := by
          intro t k
          refine pre19 t ?_
          show own_K p e below m T12 48 #[rv oa, lv qo, .second] [(.int (0 : Int32))] _
          refine XS.ifNo X12.here hx rfl (hb hby d24_48) rfl ((if0 _ _).trans (teq (by decide : (0 : Int32) = (0 : Int32))).2) ?_
          show own_K p e below m T12 51 #[rv oa, lv qo, .second] [] _
          refine XS.aloadN X12.here hx rfl (hb hby d24_51) rfl rfl ?_
          show own_K p e below m T12 52 #[rv oa, lv qo, .second] [(.ref oa)] _
          refine st20 _ ?_
          show own_K p e below m T20 55 #[rv oa, lv qo, .second] [(.ref bf)] _
          refine XS.aloadN X20.here hx rfl (hb hby d24_55) rfl rfl ?_
          show own_K p e below m T20 56 #[rv oa, lv qo, .second] [(.ref oa), (.ref bf)] _
          refine XS.aloadN X20.here hx rfl (hb hby d24_56) rfl rfl ?_
          show own_K p e below m T20 57 #[rv oa, lv qo, .second] [(.ref oa), (.ref oa), (.ref bf)] _
          refine st21 _ ?_
          show own_K p e below m T21 60 #[rv oa, lv qo, .second] [(.long (qo + (1 : Int64))), (.ref oa), (.ref bf)] _
          refine st22.trans ?_
          show own_K p e below m T22 63 #[rv oa, lv qo, .second] [(.int (((qo + (1 : Int64)) - ((qo + (1 : Int64)) / (xs.toInt64)) * (xs.toInt64)).toInt32)), (.ref bf)] _
          refine st25.trans ?_
          exact k
        by_cases hb66_29 : (xw &&& ((1 : Int64) <<< ((((qo + (1 : Int64)) - ((qo + (1 : Int64)) / (xs.toInt64)) * (xs.toInt64)).toInt32) &&& 0x3f).toInt64)) = (0 : Int64)
        · have hq31 : (if (xw &&& ((1 : Int64) <<< ((((qo + (1 : Int64)) - ((qo + (1 : Int64)) / (xs.toInt64)) * (xs.toInt64)).toInt32) &&& 0x3f).toInt64)) = (0 : Int64) then (0 : Int32) else (1 : Int32)) = (0 : Int32) := (if_pos hb66_29)
          have pre31 : ∀ t, own_K p e below m T25 66 #[rv oa, lv qo, .second] [(.int (0 : Int32))] t → G t := fun t k => pre30 t (by rw [hq31]; exact k)
          have pre32 : ∀ t, own_K p e below m T25 109 #[rv oa, lv qo, .second] [] t → G t := by
            intro t k
            refine pre31 t ?_
            show own_K p e below m T25 66 #[rv oa, lv qo, .second] [(.int (0 : Int32))] _
            refine XS.ifYes X25.here hx rfl (pc0 := 66) (pc' := 109) rfl (hb hby d24_66) rfl ((if0 _ _).trans (teq (by decide : (0 : Int32) = (0 : Int32))).1) (by decide) (by decide) ?_
            exact k
          have f139 : Fld Z h4 oa "evenkeel/client/Window" "restart" "J" (.long qr) := (Fre.other W4 (Or.inr (slot_ne (Or.inl (tw hw (i := 130) rfl)) (Or.inl (tw hw (i := 143) rfl)) (by decide) (t := .long) (t' := .long) (by decide) (by decide))))
          have f140 : Fld Z h4 oa "evenkeel/client/Window" "committed" "J" (.long qc) := (Fco.other W4 (Or.inr (slot_ne (Or.inl (tw hw (i := 141) rfl)) (Or.inl (tw hw (i := 143) rfl)) (by decide) (t := .long) (t' := .long) (by decide) (by decide))))
          have f141 : Fld Z h4 oa "evenkeel/client/Window" "failing" "Ljava/util/TreeMap;" .null := (Ffa.other W4 (Or.inr (slot_ne (Or.inl (tw hw (i := 196) rfl)) (Or.inl (tw hw (i := 143) rfl)) (by decide) (t := (.object "java/util/TreeMap")) (t' := .long) (by decide) (by decide))))
          have f142 : Fld Z h4 oa "evenkeel/client/Window" "left" "Ljava/util/BitSet;" (.ref bl) := (Fl.other W4 (Or.inr (slot_ne (Or.inr (tw hw (i := 132) rfl)) (Or.inl (tw hw (i := 143) rfl)) (by decide) (t := (.object "java/util/BitSet")) (t' := .long) (by decide) (by decide))))
          have f143 : Fld Z h4 oa "evenkeel/client/Window" "committedAhead" "Ljava/util/List;" uf_oa_committedAhead := (F_oa_committedAhead.other W4 (Or.inr (slot_ne (Or.inl (tw hw (i := 103) rfl)) (Or.inl (tw hw (i := 143) rfl)) (by decide) (t := (.object "java/util/List")) (t' := .long) (by decide) (by decide))))
          have f144 : Fld Z h4 oa "evenkeel/client/Window" "consumed" "Ljava/util/List;" uf_oa_consumed := (F_oa_consumed.other W4 (Or.inr (slot_ne (Or.inr (tw hw (i := 152) rfl)) (Or.inl (tw hw (i := 143) rfl)) (by decide) (t := (.object "java/util/List")) (t' := .long) (by decide) (by decide))))
          have f145 : Fld Z h4 oa "evenkeel/client/Window" "consumedAt" "I" uf_oa_consumedAt := (F_oa_consumedAt.other W4 (Or.inr (slot_ne (Or.inl (tw hw (i := 174) rfl)) (Or.inl (tw hw (i := 143) rfl)) (by decide) (t := .int) (t' := .long) (by decide) (by decide))))
          have f146 : Fld Z h4 oa "evenkeel/client/Window" "committedFailures" "Ljava/util/List;" uf_oa_committedFailures := (F_oa_committedFailures.other W4 (Or.inr (slot_ne (Or.inl (tw hw (i := 159) rfl)) (Or.inl (tw hw (i := 143) rfl)) (by decide) (t := (.object "java/util/List")) (t' := .long) (by decide) (by decide))))
          have hq := True.intro
          obtain rfl : (qo + (1 : Int64)) = v127 := by simp only [hv127, if_pos hc38_9, if_neg hb48_15, if_pos hb66_29]
          exact ⟨_, _, _, X25, N25, eh25, K4, f24, f4w, f7, f139, f140, f141, f23, f11, f142, f28, f143, f144, f145, f146, fun t k => pre32 t k⟩
        · have hq33 : (if (xw &&& ((1 : Int64) <<< ((((qo + (1 : Int64)) - ((qo + (1 : Int64)) / (xs.toInt64)) * (xs.toInt64)).toInt32) &&& 0x3f).toInt64)) = (0 : Int64) then (0 : Int32) else (1 : Int32)) = (1 : Int32) := (if_neg hb66_29)
          have pre33 : ∀ t, own_K p e below m T25 66 #[rv oa, lv qo, .second] [(.int (1 : Int32))] t → G t := fun t k => pre30 t (by rw [hq33]; exact k)
          obtain ⟨T34, X34, e34, st34⟩ := getF X25 hx hZ hown (host := "") (Or.inl (tw hw (i := 126) rfl)) Via.refl eh25 f11 (g := (mkF m 70 #[rv oa, lv qo, .second] [(.ref oa)])) rfl rfl (hb hby d24_70)
          obtain ⟨T35, X35, e35, st35⟩ := getF X34 hx hZ hown (host := "") (Or.inl (tw hw (i := 142) rfl)) Via.refl e34 f4w (g := (mkF m 75 #[rv oa, lv qo, .second] [(.ref oa), (.ref oa), (.ref bf)])) rfl rfl (hb hby d24_75)
          obtain ⟨cq36, q36, q36'⟩ := f24.cell
          obtain ⟨_, _, ⟨T36, L36, k36, n36⟩, -, X36, ⟨Lc36, hQ36, l36, y36, z36⟩, st36⟩ := X35.privateBack hx (y := (⟨"evenkeel/client/Window", "bit", "(J)I"⟩ : MethodName)) hown (mvT hZ (tw hw (i := 212) rfl)) (mvT hZ (tw hw (i := 213) rfl)) (own_selp hZ (tw hw (i := 3) rfl) (tw hw (i := 214) rfl) (tw hw (i := 213) rfl) (by decide)) (Cond.privateMethod_at (mvP hZ (tw hw (i := 214) rfl) (args := #[]))) (mvT hZ (tw hw (i := 215) rfl)) (by decide) (backOf (W := 1) (rm27 l Z a0 hw [] oa (qo + (1 : Int64)) xs h4 n0 sz4 f23 (own_snz hsz)) hZ (tw hw (i := 215) rfl) (tw hw (i := 4) rfl) (by decide) (by decide)) (g := (mkF m 78 #[rv oa, lv qo, .second] [(.long (qo + (1 : Int64))), (.ref oa), (.ref bf)])) rfl (by rw [hml]; rfl) (Steps.refl _) (a := oa) (by rw [e35]; exact q36) q36' (argsL := [(.long (qo + (1 : Int64)))]) (rest := [(.ref bf)]) (lenOf pd_12 rfl) rfl (by show 2 * 0 + _ ≤ _; exact Nat.le_of_eq rfl) (hb hby d24_78) (fun _ _ => ⟨rfl, e35, (by decide : 0 + 0 ≤ _), (by decide : 0 + 0 ≤ _)⟩)
          dsimp only [Pt.U, Pt.locs, Pt.cells, Pt.slots] at X36 l36 y36 z36 st36 hQ36
          subst l36 y36 z36
          obtain ⟨rfl, Nq36, eh36⟩ := hQ36
          have N36 := Fr.app N25 Nq36
          have f38 : Fld Z h4 bf "java/util/BitSet" "sizeIsSticky" "Z" ust := (Fst.other W4 (Or.inl (Ne.symm noabf)))
          obtain ⟨cq37, kq37, q37a, q37b, q37c⟩ := isOf hZ eh36 f14
          obtain ⟨_, _, ⟨T37, L37, k37, n37⟩, -, X37, ⟨Lc37, hQ37, l37, y37, z37⟩, st37⟩ := X36.virtualBack hx (y := (⟨"java/util/BitSet", "clear", "(I)V"⟩ : MethodName)) (z := (⟨"java/util/BitSet", "clear", "(I)V"⟩ : MethodName)) hown (mvT hZ (tw hw (i := 248) rfl)) (mvT hZ (tw hw (i := 249) rfl)) (notFace_of_selects (args := #[]) (mvT hZ (tw hw (i := 251) rfl))) (mvT hZ (tw hw (i := 251) rfl)) (mvT hZ (tw hw (i := 250) rfl)) (by decide) (backOf (W := 0) (rm34 l Z a0 hw [] bf (((qo + (1 : Int64)) - ((qo + (1 : Int64)) / (xs.toInt64)) * (xs.toInt64)).toInt32) xw of kf el ea kE ust h4 n0 sz4 f14 f13 f26 f27 (own_bit0 (own_qp1 hq0 hq62) hsz) (own_bit6 (own_qp1 hq0 hq62) hsz) gf go nbfof f28 P_ hb48_15 f38) hZ (tw hw (i := 252) rfl) (tw hw (i := 106) rfl) (by decide) (by decide)) q37a q37c (g := (mkF m 81 #[rv oa, lv qo, .second] [(.int (((qo + (1 : Int64)) - ((qo + (1 : Int64)) / (xs.toInt64)) * (xs.toInt64)).toInt32)), (.ref bf)])) rfl (by rw [hml]; rfl) (Steps.refl _) (argsL := [(.int (((qo + (1 : Int64)) - ((qo + (1 : Int64)) / (xs.toInt64)) * (xs.toInt64)).toInt32))]) (rest := []) (lenOf pd_9 rfl) rfl (by show 2 * 0 + _ ≤ _; exact Nat.le_of_eq rfl) (hb hby d24_81) (fun _ _ => ⟨rfl, eh36, (by decide : 0 + 0 ≤ _), (by decide : 0 + 0 ≤ _)⟩)
          dsimp only [Pt.U, Pt.locs, Pt.cells, Pt.slots] at X37 l37 y37 z37 st37 hQ37
          subst l37 y37 z37
          obtain ⟨rfl, Nq37, Kc37, Fw2_37, Fx2_37, Vx2_37, P_oa_sizeIsSticky_37⟩ := hQ37
          have N37 := Fr.app N36 Nq37
          have K37 : Keep h0 T37.heap [oa, bf, of] := K4.trans Kc37 (allS (Or.inl (List.mem_of_getElem? (i := 1) rfl)) (allS (Or.inl (List.mem_of_getElem? (i := 2) rfl)) all0))
          have sz37 : n0 ≤ T37.heap.size := Nat.le_trans sz4 Kc37.1
          have f40 : Fld Z T37.heap oa "evenkeel/client/Window" "unfinished" "J" (.long (qo + (1 : Int64))) := (f4w.keep Kc37 (ninS noabf (ninS noaof nin0)))
          obtain ⟨T39, X39, e39, st39⟩ := getF X37 hx hZ hown (host := "") (Or.inl (tw hw (i := 142) rfl)) Via.refl rfl f40 (g := (mkF m 86 #[rv oa, lv qo, .second] [(.ref oa), (.ref oa)])) rfl rfl (hb hby d24_86)
          have f42 : Exa Z T37.heap oa "evenkeel/client/Window" := (f24.keep Kc37)
          obtain ⟨T41, h41, X41, e41, W41, st41⟩ := putF X39 hx hZ hown (host := "") (Or.inl (tw hw (i := 142) rfl)) Via.refl e39 f40 f42 (Or.inl (tw hw (i := 143) rfl)) (tw hw (i := 3) rfl) (ty := .long) (by decide) rfl rfl (g := (mkF m 91 #[rv oa, lv qo, .second] [(.long ((qo + (1 : Int64)) + (1 : Int64))), (.ref oa)])) rfl rfl (hb hby d24_91)
          have f41w := f40.same W41
          have K41 : Keep h0 h41 [oa, bf, of] := K37.wr W41 (Or.inl (List.mem_of_getElem? (i := 0) rfl))
          have N41 := Fr.snoc X41 N37 g_
          have sz41 : n0 ≤ h41.size := Nat.le_trans sz37 (Keep.of_wr W41).1
          obtain ⟨T43, X43, e43, st43⟩ := getF X41 hx hZ hown (host := "") (Or.inl (tw hw (i := 142) rfl)) Via.refl e41 f41w (g := (mkF m 30 #[rv oa, lv qo, .second] [(.ref oa)])) rfl rfl (hb hby d24_30)
          have f45 : Fld Z h41 oa "evenkeel/client/Window" "next" "J" (.long qn) := ((f7.keep Kc37 (ninS noabf (ninS noaof nin0))).other W41 (Or.inr (slot_ne (Or.inl (tw hw (i := 145) rfl)) (Or.inl (tw hw (i := 143) rfl)) (by decide) (t := .long) (t' := .long) (by decide) (by decide))))
          obtain ⟨T44, X44, e44, st44⟩ := getF X43 hx hZ hown (host := "") (Or.inl (tw hw (i := 144) rfl)) Via.refl e43 f45 (g := (mkF m 34 #[rv oa, lv qo, .second] [(.ref oa), (.long ((qo + (1 : Int64)) + (1 : Int64)))])) rfl rfl (hb hby d24_34)
          have pre46 : ∀ t, own_K p e below m T44 38 #[rv oa, lv qo, .second] [(.int (lcmpW ((qo + (1 : Int64)) + (1 : Int64)) qn))] t → G t := by
            intro t k
            refine pre33 t ?_
            show own_K p e below m T25 66 #[rv oa, lv qo, .second] [(.int (1 : Int32))] _
            refine XS.ifNo X25.here hx rfl (hb hby d24_66) rfl ((if0 _ _).trans (feq (by decide : ¬ ((1 : Int32) = (0 : Int32)))).1) ?_
            show own_K p e below m T25 69 #[rv oa, lv qo, .second] [] _
            refine XS.aloadN X25.here hx rfl (hb hby d24_69) rfl rfl ?_
            show own_K p e below m T25 70 #[rv oa, lv qo, .second] [(.ref oa)] _
            refine st34 _ ?_
            show own_K p e below m T34 73 #[rv oa, lv qo, .second] [(.ref bf)] _
            refine XS.aloadN X34.here hx rfl (hb hby d24_73) rfl rfl ?_
            show own_K p e below m T34 74 #[rv oa, lv qo, .second] [(.ref oa), (.ref bf)] _
            refine XS.aloadN X34.here hx rfl (hb hby d24_74) rfl rfl ?_
            show own_K p e below m T34 75 #[rv oa, lv qo, .second] [(.ref oa), (.ref oa), (.ref bf)] _
            refine st35 _ ?_
            show own_K p e below m T35 78 #[rv oa, lv qo, .second] [(.long (qo + (1 : Int64))), (.ref oa), (.ref bf)] _
            refine st36.trans ?_
            show own_K p e below m T36 81 #[rv oa, lv qo, .second] [(.int (((qo + (1 : Int64)) - ((qo + (1 : Int64)) / (xs.toInt64)) * (xs.toInt64)).toInt32)), (.ref bf)] _
            refine st37.trans ?_
            show own_K p e below m T37 84 #[rv oa, lv qo, .second] [] _
            refine XS.aloadN X37.here hx rfl (hb hby d24_84) rfl rfl ?_
            show own_K p e below m T37 85 #[rv oa, lv qo, .second] [(.ref oa)] _
            refine XS.dup X37.here hx rfl (hb hby d24_85) rfl rfl ?_
            show own_K p e below m T37 86 #[rv oa, lv qo, .second] [(.ref oa), (.ref oa)] _
            refine st39 _ ?_
            show own_K p e below m T39 89 #[rv oa, lv qo, .second] [(.long (qo + (1 : Int64))), (.ref oa)] _
            refine XS.lconst X39.here hx rfl (hb hby d24_89) ?_
            show own_K p e below m T39 90 #[rv oa, lv qo, .second] [(.long (1 : Int64)), (.long (qo + (1 : Int64))), (.ref oa)] _
            refine XS.ladd X39.here hx rfl (hb hby d24_90) rfl ?_
            show own_K p e below m T39 91 #[rv oa, lv qo, .second] [(.long ((qo + (1 : Int64)) + (1 : Int64))), (.ref oa)] _
            refine st41 _ ?_
            show own_K p e below m T41 94 #[rv oa, lv qo, .second] [] _
            refine XS.goto X41.here hx rfl (pc0 := 94) (pc' := 29) rfl (hb hby d24_94) (by decide) (by decide) ?_
            show own_K p e below m T41 29 #[rv oa, lv qo, .second] [] _
            refine XS.aloadN X41.here hx rfl (hb hby d24_29) rfl rfl ?_
            show own_K p e below m T41 30 #[rv oa, lv qo, .second] [(.ref oa)] _
            refine st43 _ ?_
            show own_K p e below m T43 33 #[rv oa, lv qo, .second] [(.long ((qo + (1 : Int64)) + (1 : Int64)))] _
            refine XS.aloadN X43.here hx rfl (hb hby d24_33) rfl rfl ?_
            show own_K p e below m T43 34 #[rv oa, lv qo, .second] [(.ref oa), (.long ((qo + (1 : Int64)) + (1 : Int64)))] _
            refine st44 _ ?_
            show own_K p e below m T44 37 #[rv oa, lv qo, .second] [(.long qn), (.long ((qo + (1 : Int64)) + (1 : Int64)))] _
            refine XS.lcmp X44.here hx rfl (hb hby d24_37) rfl ?_
            exact k
          by_cases hc38_47 : ((qo + (1 : Int64)) + (1 : Int64)) < qn
          · have f49 : Fld Z h41 oa "evenkeel/client/Window" "finished" "Ljava/util/BitSet;" (.ref bf) := ((f11.keep Kc37 (ninS noabf (ninS noaof nin0))).other W41 (Or.inr (slot_ne (Or.inr (tw hw (i := 127) rfl)) (Or.inl (tw hw (i := 143) rfl)) (by decide) (t := (.object "java/util/BitSet")) (t' := .long) (by decide) (by decide))))
            obtain ⟨T48, X48, e48, st48⟩ := getF X44 hx hZ hown (host := "") (Or.inl (tw hw (i := 126) rfl)) Via.refl e44 f49 (g := (mkF m 42 #[rv oa, lv qo, .second] [(.ref oa)])) rfl rfl (hb hby d24_42)
            have f51 : Fld Z h41 bf "java/util/BitSet" "wordsInUse" "I" (.int (own_wu (xw &&& (((1 : Int64) <<< ((((qo + (1 : Int64)) - ((qo + (1 : Int64)) / (xs.toInt64)) * (xs.toInt64)).toInt32) &&& 0x3f).toInt64) ^^^ (-1 : Int64))))) := (Fw2_37.other W41 (Or.inl (Ne.symm noabf)))
            have f52 : Exa Z h41 bf "java/util/BitSet" := ((f14.keep Kc37).wr W41)
            obtain ⟨cq50, kq50, q50a, q50b, q50c⟩ := isOf hZ e48 f52
            obtain ⟨_, _, ⟨T50, L50, k50, n50⟩, -, X50, ⟨Lc50, hQ50, l50, y50, z50⟩, st50⟩ := X48.virtualBack hx (y := (⟨"java/util/BitSet", "isEmpty", "()Z"⟩ : MethodName)) (z := (⟨"java/util/BitSet", "isEmpty", "()Z"⟩ : MethodName)) hown (mvT hZ (tw hw (i := 243) rfl)) (mvT hZ (tw hw (i := 244) rfl)) (notFace_of_selects (args := #[]) (mvT hZ (tw hw (i := 246) rfl))) (mvT hZ (tw hw (i := 246) rfl)) (mvT hZ (tw hw (i := 245) rfl)) (by decide) (backOf (W := 0) (rm33w l Z a0 hw [] bf (xw &&& (((1 : Int64) <<< ((((qo + (1 : Int64)) - ((qo + (1 : Int64)) / (xs.toInt64)) * (xs.toInt64)).toInt32) &&& 0x3f).toInt64) ^^^ (-1 : Int64))) h41 n0 sz41 f51) hZ (tw hw (i := 247) rfl) (tw hw (i := 106) rfl) (by decide) (by decide)) q50a q50c (g := (mkF m 45 #[rv oa, lv qo, .second] [(.ref bf)])) rfl (by rw [hml]; rfl) (Steps.refl _) (argsL := []) (rest := []) (lenOf pd_5 rfl) rfl (by show 2 * 0 + _ ≤ _; exact Nat.le_of_eq rfl) (hb hby d24_45) (fun _ _ => ⟨rfl, e48, (by decide : 0 + 0 ≤ _), (by decide : 0 + 0 ≤ _)⟩)
            dsimp only [Pt.U, Pt.locs, Pt.cells, Pt.slots] at X50 l50 y50 z50 st50 hQ50
            subst l50 y50 z50
            obtain ⟨rfl, Nq50, eh50⟩ := hQ50
            have N50 := Fr.app N41 Nq50
            have pre54 : ∀ t, own_K p e below m T50 48 #[rv oa, lv qo, .second] [(.int (if (xw &&& (((1 : Int64) <<< ((((qo + (1 : Int64)) - ((qo + (1 : Int64)) / (xs.toInt64)) * (xs.toInt64)).toInt32) &&& 0x3f).toInt64) ^^^ (-1 : Int64))) = (0 : Int64) then (1 : Int32) else (0 : Int32)))] t → G t := by
              intro t k
              refine pre46 t ?_
              show own_K p e below m T44 38 #[rv oa, lv qo, .second] [(.int (lcmpW ((qo + (1 : Int64)) + (1 : Int64)) qn))] _
              refine XS.ifNo X44.here hx rfl (hb hby d24_38) rfl ((if0 _ _).trans (tlt ((lw_lt _ _).mpr hc38_47)).2.1) ?_
              show own_K p e below m T44 41 #[rv oa, lv qo, .second] [] _
              refine XS.aloadN X44.here hx rfl (hb hby d24_41) rfl rfl ?_
              show own_K p e below m T44 42 #[rv oa, lv qo, .second] [(.ref oa)] _
              refine st48 _ ?_
              show own_K p e below m T48 45 #[rv oa, lv qo, .second] [(.ref bf)] _
              refine st50.trans ?_
              exact k
            by_cases hb48_53 : (xw &&& (((1 : Int64) <<< ((((qo + (1 : Int64)) - ((qo + (1 : Int64)) / (xs.toInt64)) * (xs.toInt64)).toInt32) &&& 0x3f).toInt64) ^^^ (-1 : Int64))) = (0 : Int64)
            · have hq55 : (if (xw &&& (((1 : Int64) <<< ((((qo + (1 : Int64)) - ((qo + (1 : Int64)) / (xs.toInt64)) * (xs.toInt64)).toInt32) &&& 0x3f).toInt64) ^^^ (-1 : Int64))) = (0 : Int64) then (1 : Int32) else (0 : Int32)) = (1 : Int32) := (if_pos hb48_53)
              have pre55 : ∀ t, own_K p e below m T50 48 #[rv oa, lv qo, .second] [(.int (1 : Int32))] t → G t := fun t k => pre54 t (by rw [hq55]; exact k)
              have pre56 : ∀ t, own_K p e below m T50 109 #[rv oa, lv qo, .second] [] t → G t := by
                intro t k
                refine pre55 t ?_
                show own_K p e below m T50 48 #[rv oa, lv qo, .second] [(.int (1 : Int32))] _
                refine XS.ifYes X50.here hx rfl (pc0 := 48) (pc' := 109) rfl (hb hby d24_48) rfl ((if0 _ _).trans (feq (by decide : ¬ ((1 : Int32) = (0 : Int32)))).2) (by decide) (by decide) ?_
                exact k
              have f147 : Exa Z h41 oa "evenkeel/client/Window" := (f42.wr W41)
              have f148 : Fld Z h41 oa "evenkeel/client/Window" "restart" "J" (.long qr) := (((Fre.other W4 (Or.inr (slot_ne (Or.inl (tw hw (i := 130) rfl)) (Or.inl (tw hw (i := 143) rfl)) (by decide) (t := .long) (t' := .long) (by decide) (by decide)))).keep Kc37 (ninS noabf (ninS noaof nin0))).other W41 (Or.inr (slot_ne (Or.inl (tw hw (i := 130) rfl)) (Or.inl (tw hw (i := 143) rfl)) (by decide) (t := .long) (t' := .long) (by decide) (by decide))))
              have f149 : Fld Z h41 oa "evenkeel/client/Window" "committed" "J" (.long qc) := (((Fco.other W4 (Or.inr (slot_ne (Or.inl (tw hw (i := 141) rfl)) (Or.inl (tw hw (i := 143) rfl)) (by decide) (t := .long) (t' := .long) (by decide) (by decide)))).keep Kc37 (ninS noabf (ninS noaof nin0))).other W41 (Or.inr (slot_ne (Or.inl (tw hw (i := 141) rfl)) (Or.inl (tw hw (i := 143) rfl)) (by decide) (t := .long) (t' := .long) (by decide) (by decide))))
              have f150 : Fld Z h41 oa "evenkeel/client/Window" "failing" "Ljava/util/TreeMap;" .null := (((Ffa.other W4 (Or.inr (slot_ne (Or.inl (tw hw (i := 196) rfl)) (Or.inl (tw hw (i := 143) rfl)) (by decide) (t := (.object "java/util/TreeMap")) (t' := .long) (by decide) (by decide)))).keep Kc37 (ninS noabf (ninS noaof nin0))).other W41 (Or.inr (slot_ne (Or.inl (tw hw (i := 196) rfl)) (Or.inl (tw hw (i := 143) rfl)) (by decide) (t := (.object "java/util/TreeMap")) (t' := .long) (by decide) (by decide))))
              have f151 : Fld Z h41 oa "evenkeel/client/Window" "size" "I" (.int xs) := ((f23.keep Kc37 (ninS noabf (ninS noaof nin0))).other W41 (Or.inr (slot_ne (Or.inr (tw hw (i := 134) rfl)) (Or.inl (tw hw (i := 143) rfl)) (by decide) (t := .int) (t' := .long) (by decide) (by decide))))
              have f152 : Fld Z h41 oa "evenkeel/client/Window" "left" "Ljava/util/BitSet;" (.ref bl) := (((Fl.other W4 (Or.inr (slot_ne (Or.inr (tw hw (i := 132) rfl)) (Or.inl (tw hw (i := 143) rfl)) (by decide) (t := (.object "java/util/BitSet")) (t' := .long) (by decide) (by decide)))).keep Kc37 (ninS noabf (ninS noaof nin0))).other W41 (Or.inr (slot_ne (Or.inr (tw hw (i := 132) rfl)) (Or.inl (tw hw (i := 143) rfl)) (by decide) (t := (.object "java/util/BitSet")) (t' := .long) (by decide) (by decide))))
              have f153 : Old Z n0 h41 := ((f28.keep Kc37 (allS gf (allS go all0))).wr W41 g_)
              have f154 : Fld Z h41 oa "evenkeel/client/Window" "committedAhead" "Ljava/util/List;" uf_oa_committedAhead := (((F_oa_committedAhead.other W4 (Or.inr (slot_ne (Or.inl (tw hw (i := 103) rfl)) (Or.inl (tw hw (i := 143) rfl)) (by decide) (t := (.object "java/util/List")) (t' := .long) (by decide) (by decide)))).keep Kc37 (ninS noabf (ninS noaof nin0))).other W41 (Or.inr (slot_ne (Or.inl (tw hw (i := 103) rfl)) (Or.inl (tw hw (i := 143) rfl)) (by decide) (t := (.object "java/util/List")) (t' := .long) (by decide) (by decide))))
              have f155 : Fld Z h41 oa "evenkeel/client/Window" "consumed" "Ljava/util/List;" uf_oa_consumed := (((F_oa_consumed.other W4 (Or.inr (slot_ne (Or.inr (tw hw (i := 152) rfl)) (Or.inl (tw hw (i := 143) rfl)) (by decide) (t := (.object "java/util/List")) (t' := .long) (by decide) (by decide)))).keep Kc37 (ninS noabf (ninS noaof nin0))).other W41 (Or.inr (slot_ne (Or.inr (tw hw (i := 152) rfl)) (Or.inl (tw hw (i := 143) rfl)) (by decide) (t := (.object "java/util/List")) (t' := .long) (by decide) (by decide))))
              have f156 : Fld Z h41 oa "evenkeel/client/Window" "consumedAt" "I" uf_oa_consumedAt := (((F_oa_consumedAt.other W4 (Or.inr (slot_ne (Or.inl (tw hw (i := 174) rfl)) (Or.inl (tw hw (i := 143) rfl)) (by decide) (t := .int) (t' := .long) (by decide) (by decide)))).keep Kc37 (ninS noabf (ninS noaof nin0))).other W41 (Or.inr (slot_ne (Or.inl (tw hw (i := 174) rfl)) (Or.inl (tw hw (i := 143) rfl)) (by decide) (t := .int) (t' := .long) (by decide) (by decide))))
              have f157 : Fld Z h41 oa "evenkeel/client/Window" "committedFailures" "Ljava/util/List;" uf_oa_committedFailures := (((F_oa_committedFailures.other W4 (Or.inr (slot_ne (Or.inl (tw hw (i := 159) rfl)) (Or.inl (tw hw (i := 143) rfl)) (by decide) (t := (.object "java/util/List")) (t' := .long) (by decide) (by decide)))).keep Kc37 (ninS noabf (ninS noaof nin0))).other W41 (Or.inr (slot_ne (Or.inl (tw hw (i := 159) rfl)) (Or.inl (tw hw (i := 143) rfl)) (by decide) (t := (.object "java/util/List")) (t' := .long) (by decide) (by decide))))
              have hq := True.intro
              obtain rfl : ((qo + (1 : Int64)) + (1 : Int64)) = v127 := by simp only [hv127, if_pos hc38_9, if_neg hb48_15, if_neg hb66_29, if_pos hc38_47, if_pos hb48_53]
              exact ⟨_, _, _, X50, N50, eh50, K41, f147, f41w, f45, f148, f149, f150, f151, f49, f152, f153, f154, f155, f156, f157, fun t k => pre56 t k⟩
            · have hq57 : (if (xw &&& (((1 : Int64) <<< ((((qo + (1 : Int64)) - ((qo + (1 : Int64)) / (xs.toInt64)) * (xs.toInt64)).toInt32) &&& 0x3f).toInt64) ^^^ (-1 : Int64))) = (0 : Int64) then (1 : Int32) else (0 : Int32)) = (0 : Int32) := (if_neg hb48_53)
              have pre57 : ∀ t, own_K p e below m T50 48 #[rv oa, lv qo, .second] [(.int (0 : Int32))] t → G t := fun t k => pre54 t (by rw [hq57]; exact k)
              obtain ⟨T58, X58, e58, st58⟩ := getF X50 hx hZ hown (host := "") (Or.inl (tw hw (i := 126) rfl)) Via.refl eh50 f49 (g := (mkF m 52 #[rv oa, lv qo, .second] [(.ref oa)])) rfl rfl (hb hby d24_52)
              obtain ⟨T59, X59, e59, st59⟩ := getF X58 hx hZ hown (host := "") (Or.inl (tw hw (i := 142) rfl)) Via.refl e58 f41w (g := (mkF m 57 #[rv oa, lv qo, .second] [(.ref oa), (.ref oa), (.ref bf)])) rfl rfl (hb hby d24_57)
              have f61 : Fld Z h41 oa "evenkeel/client/Window" "size" "I" (.int xs) := ((f23.keep Kc37 (ninS noabf (ninS noaof nin0))).other W41 (Or.inr (slot_ne (Or.inr (tw hw (i := 134) rfl)) (Or.inl (tw hw (i := 143) rfl)) (by decide) (t := .int) (t' := .long) (by decide) (by decide))))
              have f62 : Exa Z h41 oa "evenkeel/client/Window" := (f42.wr W41)
              obtain ⟨cq60, q60, q60'⟩ := f62.cell
              obtain ⟨_, _, ⟨T60, L60, k60, n60⟩, -, X60, ⟨Lc60, hQ60, l60, y60, z60⟩, st60⟩ := X59.privateBack hx (y := (⟨"evenkeel/client/Window", "bit", "(J)I"⟩ : MethodName)) hown (mvT hZ (tw hw (i := 212) rfl)) (mvT hZ (tw hw (i := 213) rfl)) (own_selp hZ (tw hw (i := 3) rfl) (tw hw (i := 214) rfl) (tw hw (i := 213) rfl) (by decide)) (Cond.privateMethod_at (mvP hZ (tw hw (i := 214) rfl) (args := #[]))) (mvT hZ (tw hw (i := 215) rfl)) (by decide) (backOf (W := 1) (rm27 l Z a0 hw [] oa ((qo + (1 : Int64)) + (1 : Int64)) xs h41 n0 sz41 f61 (own_snz hsz)) hZ (tw hw (i := 215) rfl) (tw hw (i := 4) rfl) (by decide) (by decide)) (g := (mkF m 60 #[rv oa, lv qo, .second] [(.long ((qo + (1 : Int64)) + (1 : Int64))), (.ref oa), (.ref bf)])) rfl (by rw [hml]; rfl) (Steps.refl _) (a := oa) (by rw [e59]; exact q60) q60' (argsL := [(.long ((qo + (1 : Int64)) + (1 : Int64)))]) (rest := [(.ref bf)]) (lenOf pd_12 rfl) rfl (by show 2 * 0 + _ ≤ _; exact Nat.le_of_eq rfl) (hb hby d24_60) (fun _ _ => ⟨rfl, e59, (by decide : 0 + 0 ≤ _), (by decide : 0 + 0 ≤ _)⟩)
              dsimp only [Pt.U, Pt.locs, Pt.cells, Pt.slots] at X60 l60 y60 z60 st60 hQ60
              subst l60 y60 z60
              obtain ⟨rfl, Nq60, eh60⟩ := hQ60
              have N60 := Fr.app N50 Nq60
              have f64 : Fld Z h41 bf "java/util/BitSet" "words" "[J" (.ref of) := (Fx2_37.other W41 (Or.inl (Ne.symm noabf)))
              have f65 : Arv Z h41 of kf .long (1 : Int32) [(.long (xw &&& (((1 : Int64) <<< ((((qo + (1 : Int64)) - ((qo + (1 : Int64)) / (xs.toInt64)) * (xs.toInt64)).toInt32) &&& 0x3f).toInt64) ^^^ (-1 : Int64))))] (.long (0 : Int64)) := (Vx2_37.other W41 (Ne.symm noaof))
              have f66 : Old Z n0 h41 := ((f28.keep Kc37 (allS gf (allS go all0))).wr W41 g_)
              obtain ⟨cq63, kq63, q63a, q63b, q63c⟩ := isOf hZ eh60 f52
              obtain ⟨_, _, ⟨T63, L63, k63, n63⟩, -, X63, ⟨Lc63, hQ63, l63, y63, z63⟩, st63⟩ := X60.virtualBack hx (y := (⟨"java/util/BitSet", "get", "(I)Z"⟩ : MethodName)) (z := (⟨"java/util/BitSet", "get", "(I)Z"⟩ : MethodName)) hown (mvT hZ (tw hw (i := 216) rfl)) (mvT hZ (tw hw (i := 217) rfl)) (notFace_of_selects (args := #[]) (mvT hZ (tw hw (i := 219) rfl))) (mvT hZ (tw hw (i := 219) rfl)) (mvT hZ (tw hw (i := 218) rfl)) (by decide) (backOf (W := 0) (rm28 l Z a0 hw [] bf ((((qo + (1 : Int64)) + (1 : Int64)) - (((qo + (1 : Int64)) + (1 : Int64)) / (xs.toInt64)) * (xs.toInt64)).toInt32) (xw &&& (((1 : Int64) <<< ((((qo + (1 : Int64)) - ((qo + (1 : Int64)) / (xs.toInt64)) * (xs.toInt64)).toInt32) &&& 0x3f).toInt64) ^^^ (-1 : Int64))) of kf el ea kE h41 n0 sz41 f52 f51 f64 f65 (own_bit0 (own_qp2 hq0 hq62) hsz) (own_bit6 (own_qp2 hq0 hq62) hsz) f66 P_) hZ (tw hw (i := 220) rfl) (tw hw (i := 106) rfl) (by decide) (by decide)) q63a q63c (g := (mkF m 63 #[rv oa, lv qo, .second] [(.int ((((qo + (1 : Int64)) + (1 : Int64)) - (((qo + (1 : Int64)) + (1 : Int64)) / (xs.toInt64)) * (xs.toInt64)).toInt32)), (.ref bf)])) rfl (by rw [hml]; rfl) (Steps.refl _) (argsL := [(.int ((((qo + (1 : Int64)) + (1 : Int64)) - (((qo + (1 : Int64)) + (1 : Int64)) / (xs.toInt64)) * (xs.toInt64)).toInt32))]) (rest := []) (lenOf pd_13 rfl) rfl (by show 2 * 0 + _ ≤ _; exact Nat.le_of_eq rfl) (hb hby d24_63) (fun _ _ => ⟨rfl, eh60, (by decide : 0 + 0 ≤ _), (by decide : 0 + 0 ≤ _)⟩)
              dsimp only [Pt.U, Pt.locs, Pt.cells, Pt.slots] at X63 l63 y63 z63 st63 hQ63
              subst l63 y63 z63
              obtain ⟨rfl, Nq63, eh63⟩ := hQ63
              have N63 := Fr.app N60 Nq63
              have pre68 : ∀ t, own_K p e below m T63 66 #[rv oa, lv qo, .second] [(.int (if ((xw &&& (((1 : Int64) <<< ((((qo + (1 : Int64)) - ((qo + (1 : Int64)) / (xs.toInt64)) * (xs.toInt64)).toInt32) &&& 0x3f).toInt64) ^^^ (-1 : Int64))) &&& ((1 : Int64) <<< (((((qo + (1 : Int64)) + (1 : Int64)) - (((qo + (1 : Int64)) + (1 : Int64)) / (xs.toInt64)) * (xs.toInt64)).toInt32) &&& 0x3f).toInt64)) = (0 : Int64) then (0 : Int32) else (1 : Int32)))] t → G t := by
                intro t k
                refine pre57 t ?_
                show own_K p e below m T50 48 #[rv oa, lv qo, .second] [(.int (0 : Int32))] _
                refine XS.ifNo X50.here hx rfl (hb hby d24_48) rfl ((if0 _ _).trans (teq (by decide : (0 : Int32) = (0 : Int32))).2) ?_
                show own_K p e below m T50 51 #[rv oa, lv qo, .second] [] _
                refine XS.aloadN X50.here hx rfl (hb hby d24_51) rfl rfl ?_
                show own_K p e below m T50 52 #[rv oa, lv qo, .second] [(.ref oa)] _
                refine st58 _ ?_
                show own_K p e below m T58 55 #[rv oa, lv qo, .second] [(.ref bf)] _
                refine XS.aloadN X58.here hx rfl (hb hby d24_55) rfl rfl ?_
                show own_K p e below m T58 56 #[rv oa, lv qo, .second] [(.ref oa), (.ref bf)] _
                refine XS.aloadN X58.here hx rfl (hb hby d24_56) rfl rfl ?_
                show own_K p e below m T58 57 #[rv oa, lv qo, .second] [(.ref oa), (.ref oa), (.ref bf)] _
                refine st59 _ ?_
                show own_K p e below m T59 60 #[rv oa, lv qo, .second] [(.long ((qo + (1 : Int64)) + (1 : Int64))), (.ref oa), (.ref bf)] _
                refine st60.trans ?_
                show own_K p e below m T60 63 #[rv oa, lv qo, .second] [(.int ((((qo + (1 : Int64)) + (1 : Int64)) - (((qo + (1 : Int64)) + (1 : Int64)) / (xs.toInt64)) * (xs.toInt64)).toInt32)), (.ref bf)] _
                refine st63.trans ?_
                exact k
              by_cases hb66_67 : ((xw &&& (((1 : Int64) <<< ((((qo + (1 : Int64)) - ((qo + (1 : Int64)) / (xs.toInt64)) * (xs.toInt64)).toInt32) &&& 0x3f).toInt64) ^^^ (-1 : Int64))) &&& ((1 : Int64) <<< (((((qo + (1 : Int64)) + (1 : Int64)) - (((qo + (1 : Int64)) + (1 : Int64)) / (xs.toInt64)) * (xs.toInt64)).toInt32) &&& 0x3f).toInt64)) = (0 : Int64)
              · have hq69 : (if ((xw &&& (((1 : Int64) <<< ((((qo + (1 : Int64)) - ((qo + (1 : Int64)) / (xs.toInt64)) * (xs.toInt64)).toInt32) &&& 0x3f).toInt64) ^^^ (-1 : Int64))) &&& ((1 : Int64) <<< (((((qo + (1 : Int64)) + (1 : Int64)) - (((qo + (1 : Int64)) + (1 : Int64)) / (xs.toInt64)) * (xs.toInt64)).toInt32) &&& 0x3f).toInt64)) = (0 : Int64) then (0 : Int32) else (1 : Int32)) = (0 : Int32) := (if_pos hb66_67)
                have pre69 : ∀ t, own_K p e below m T63 66 #[rv oa, lv qo, .second] [(.int (0 : Int32))] t → G t := fun t k => pre68 t (by rw [hq69]; exact k)
                have pre70 : ∀ t, own_K p e below m T63 109 #[rv oa, lv qo, .second] [] t → G t := by
                  intro t k
                  refine pre69 t ?_
                  show own_K p e below m T63 66 #[rv oa, lv qo, .second] [(.int (0 : Int32))] _
                  refine XS.ifYes X63.here hx rfl (pc0 := 66) (pc' := 109) rfl (hb hby d24_66) rfl ((if0 _ _).trans (teq (by decide : (0 : Int32) = (0 : Int32))).1) (by decide) (by decide) ?_
                  exact k
                have f158 : Fld Z h41 oa "evenkeel/client/Window" "restart" "J" (.long qr) := (((Fre.other W4 (Or.inr (slot_ne (Or.inl (tw hw (i := 130) rfl)) (Or.inl (tw hw (i := 143) rfl)) (by decide) (t := .long) (t' := .long) (by decide) (by decide)))).keep Kc37 (ninS noabf (ninS noaof nin0))).other W41 (Or.inr (slot_ne (Or.inl (tw hw (i := 130) rfl)) (Or.inl (tw hw (i := 143) rfl)) (by decide) (t := .long) (t' := .long) (by decide) (by decide))))
                have f159 : Fld Z h41 oa "evenkeel/client/Window" "committed" "J" (.long qc) := (((Fco.other W4 (Or.inr (slot_ne (Or.inl (tw hw (i := 141) rfl)) (Or.inl (tw hw (i := 143) rfl)) (by decide) (t := .long) (t' := .long) (by decide) (by decide)))).keep Kc37 (ninS noabf (ninS noaof nin0))).other W41 (Or.inr (slot_ne (Or.inl (tw hw (i := 141) rfl)) (Or.inl (tw hw (i := 143) rfl)) (by decide) (t := .long) (t' := .long) (by decide) (by decide))))
                have f160 : Fld Z h41 oa "evenkeel/client/Window" "failing" "Ljava/util/TreeMap;" .null := (((Ffa.other W4 (Or.inr (slot_ne (Or.inl (tw hw (i := 196) rfl)) (Or.inl (tw hw (i := 143) rfl)) (by decide) (t := (.object "java/util/TreeMap")) (t' := .long) (by decide) (by decide)))).keep Kc37 (ninS noabf (ninS noaof nin0))).other W41 (Or.inr (slot_ne (Or.inl (tw hw (i := 196) rfl)) (Or.inl (tw hw (i := 143) rfl)) (by decide) (t := (.object "java/util/TreeMap")) (t' := .long) (by decide) (by decide))))
                have f161 : Fld Z h41 oa "evenkeel/client/Window" "left" "Ljava/util/BitSet;" (.ref bl) := (((Fl.other W4 (Or.inr (slot_ne (Or.inr (tw hw (i := 132) rfl)) (Or.inl (tw hw (i := 143) rfl)) (by decide) (t := (.object "java/util/BitSet")) (t' := .long) (by decide) (by decide)))).keep Kc37 (ninS noabf (ninS noaof nin0))).other W41 (Or.inr (slot_ne (Or.inr (tw hw (i := 132) rfl)) (Or.inl (tw hw (i := 143) rfl)) (by decide) (t := (.object "java/util/BitSet")) (t' := .long) (by decide) (by decide))))
                have f162 : Fld Z h41 oa "evenkeel/client/Window" "committedAhead" "Ljava/util/List;" uf_oa_committedAhead := (((F_oa_committedAhead.other W4 (Or.inr (slot_ne (Or.inl (tw hw (i := 103) rfl)) (Or.inl (tw hw (i := 143) rfl)) (by decide) (t := (.object "java/util/List")) (t' := .long) (by decide) (by decide)))).keep Kc37 (ninS noabf (ninS noaof nin0))).other W41 (Or.inr (slot_ne (Or.inl (tw hw (i := 103) rfl)) (Or.inl (tw hw (i := 143) rfl)) (by decide) (t := (.object "java/util/List")) (t' := .long) (by decide) (by decide))))
                have f163 : Fld Z h41 oa "evenkeel/client/Window" "consumed" "Ljava/util/List;" uf_oa_consumed := (((F_oa_consumed.other W4 (Or.inr (slot_ne (Or.inr (tw hw (i := 152) rfl)) (Or.inl (tw hw (i := 143) rfl)) (by decide) (t := (.object "java/util/List")) (t' := .long) (by decide) (by decide)))).keep Kc37 (ninS noabf (ninS noaof nin0))).other W41 (Or.inr (slot_ne (Or.inr (tw hw (i := 152) rfl)) (Or.inl (tw hw (i := 143) rfl)) (by decide) (t := (.object "java/util/List")) (t' := .long) (by decide) (by decide))))
                have f164 : Fld Z h41 oa "evenkeel/client/Window" "consumedAt" "I" uf_oa_consumedAt := (((F_oa_consumedAt.other W4 (Or.inr (slot_ne (Or.inl (tw hw (i := 174) rfl)) (Or.inl (tw hw (i := 143) rfl)) (by decide) (t := .int) (t' := .long) (by decide) (by decide)))).keep Kc37 (ninS noabf (ninS noaof nin0))).other W41 (Or.inr (slot_ne (Or.inl (tw hw (i := 174) rfl)) (Or.inl (tw hw (i := 143) rfl)) (by decide) (t := .int) (t' := .long) (by decide) (by decide))))
                have f165 : Fld Z h41 oa "evenkeel/client/Window" "committedFailures" "Ljava/util/List;" uf_oa_committedFailures := (((F_oa_committedFailures.other W4 (Or.inr (slot_ne (Or.inl (tw hw (i := 159) rfl)) (Or.inl (tw hw (i := 143) rfl)) (by decide) (t := (.object "java/util/List")) (t' := .long) (by decide) (by decide)))).keep Kc37 (ninS noabf (ninS noaof nin0))).other W41 (Or.inr (slot_ne (Or.inl (tw hw (i := 159) rfl)) (Or.inl (tw hw (i := 143) rfl)) (by decide) (t := (.object "java/util/List")) (t' := .long) (by decide) (by decide))))
                have hq := True.intro
                obtain rfl : ((qo + (1 : Int64)) + (1 : Int64)) = v127 := by simp only [hv127, if_pos hc38_9, if_neg hb48_15, if_neg hb66_29, if_pos hc38_47, if_neg hb48_53, if_pos hb66_67]
                exact ⟨_, _, _, X63, N63, eh63, K41, f62, f41w, f45, f158, f159, f160, f61, f49, f161, f66, f162, f163, f164, f165, fun t k => pre70 t k⟩
              · have hq71 : (if ((xw &&& (((1 : Int64) <<< ((((qo + (1 : Int64)) - ((qo + (1 : Int64)) / (xs.toInt64)) * (xs.toInt64)).toInt32) &&& 0x3f).toInt64) ^^^ (-1 : Int64))) &&& ((1 : Int64) <<< (((((qo + (1 : Int64)) + (1 : Int64)) - (((qo + (1 : Int64)) + (1 : Int64)) / (xs.toInt64)) * (xs.toInt64)).toInt32) &&& 0x3f).toInt64)) = (0 : Int64) then (0 : Int32) else (1 : Int32)) = (1 : Int32) := (if_neg hb66_67)
                have pre71 : ∀ t, own_K p e below m T63 66 #[rv oa, lv qo, .second] [(.int (1 : Int32))] t → G t := fun t k => pre68 t (by rw [hq71]; exact k)
                obtain ⟨T72, X72, e72, st72⟩ := getF X63 hx hZ hown (host := "") (Or.inl (tw hw (i := 126) rfl)) Via.refl eh63 f49 (g := (mkF m 70 #[rv oa, lv qo, .second] [(.ref oa)])) rfl rfl (hb hby d24_70)
                obtain ⟨T73, X73, e73, st73⟩ := getF X72 hx hZ hown (host := "") (Or.inl (tw hw (i := 142) rfl)) Via.refl e72 f41w (g := (mkF m 75 #[rv oa, lv qo, .second] [(.ref oa), (.ref oa), (.ref bf)])) rfl rfl (hb hby d24_75)
                obtain ⟨cq74, q74, q74'⟩ := f62.cell
                obtain ⟨_, _, ⟨T74, L74, k74, n74⟩, -, X74, ⟨Lc74, hQ74, l74, y74, z74⟩, st74⟩ := X73.privateBack hx (y := (⟨"evenkeel/client/Window", "bit", "(J)I"⟩ : MethodName)) hown (mvT hZ (tw hw (i := 212) rfl)) (mvT hZ (tw hw (i := 213) rfl)) (own_selp hZ (tw hw (i := 3) rfl) (tw hw (i := 214) rfl) (tw hw (i := 213) rfl) (by decide)) (Cond.privateMethod_at (mvP hZ (tw hw (i := 214) rfl) (args := #[]))) (mvT hZ (tw hw (i := 215) rfl)) (by decide) (backOf (W := 1) (rm27 l Z a0 hw [] oa ((qo + (1 : Int64)) + (1 : Int64)) xs h41 n0 sz41 f61 (own_snz hsz)) hZ (tw hw (i := 215) rfl) (tw hw (i := 4) rfl) (by decide) (by decide)) (g := (mkF m 78 #[rv oa, lv qo, .second] [(.long ((qo + (1 : Int64)) + (1 : Int64))), (.ref oa), (.ref bf)])) rfl (by rw [hml]; rfl) (Steps.refl _) (a := oa) (by rw [e73]; exact q74) q74' (argsL := [(.long ((qo + (1 : Int64)) + (1 : Int64)))]) (rest := [(.ref bf)]) (lenOf pd_12 rfl) rfl (by show 2 * 0 + _ ≤ _; exact Nat.le_of_eq rfl) (hb hby d24_78) (fun _ _ => ⟨rfl, e73, (by decide : 0 + 0 ≤ _), (by decide : 0 + 0 ≤ _)⟩)
                dsimp only [Pt.U, Pt.locs, Pt.cells, Pt.slots] at X74 l74 y74 z74 st74 hQ74
                subst l74 y74 z74
                obtain ⟨rfl, Nq74, eh74⟩ := hQ74
                have N74 := Fr.app N63 Nq74
                have f76 : Fld Z h41 bf "java/util/BitSet" "sizeIsSticky" "Z" ust := (P_oa_sizeIsSticky_37.other W41 (Or.inl (Ne.symm noabf)))
                obtain ⟨cq75, kq75, q75a, q75b, q75c⟩ := isOf hZ eh74 f52
                obtain ⟨_, _, ⟨T75, L75, k75, n75⟩, -, X75, ⟨Lc75, hQ75, l75, y75, z75⟩, st75⟩ := X74.virtualBack hx (y := (⟨"java/util/BitSet", "clear", "(I)V"⟩ : MethodName)) (z := (⟨"java/util/BitSet", "clear", "(I)V"⟩ : MethodName)) hown (mvT hZ (tw hw (i := 248) rfl)) (mvT hZ (tw hw (i := 249) rfl)) (notFace_of_selects (args := #[]) (mvT hZ (tw hw (i := 251) rfl))) (mvT hZ (tw hw (i := 251) rfl)) (mvT hZ (tw hw (i := 250) rfl)) (by decide) (backOf (W := 0) (rm34 l Z a0 hw [] bf ((((qo + (1 : Int64)) + (1 : Int64)) - (((qo + (1 : Int64)) + (1 : Int64)) / (xs.toInt64)) * (xs.toInt64)).toInt32) (xw &&& (((1 : Int64) <<< ((((qo + (1 : Int64)) - ((qo + (1 : Int64)) / (xs.toInt64)) * (xs.toInt64)).toInt32) &&& 0x3f).toInt64) ^^^ (-1 : Int64))) of kf el ea kE ust h41 n0 sz41 f52 f51 f64 f65 (own_bit0 (own_qp2 hq0 hq62) hsz) (own_bit6 (own_qp2 hq0 hq62) hsz) gf go nbfof f66 P_ hb48_53 f76) hZ (tw hw (i := 252) rfl) (tw hw (i := 106) rfl) (by decide) (by decide)) q75a q75c (g := (mkF m 81 #[rv oa, lv qo, .second] [(.int ((((qo + (1 : Int64)) + (1 : Int64)) - (((qo + (1 : Int64)) + (1 : Int64)) / (xs.toInt64)) * (xs.toInt64)).toInt32)), (.ref bf)])) rfl (by rw [hml]; rfl) (Steps.refl _) (argsL := [(.int ((((qo + (1 : Int64)) + (1 : Int64)) - (((qo + (1 : Int64)) + (1 : Int64)) / (xs.toInt64)) * (xs.toInt64)).toInt32))]) (rest := []) (lenOf pd_9 rfl) rfl (by show 2 * 0 + _ ≤ _; exact Nat.le_of_eq rfl) (hb hby d24_81) (fun _ _ => ⟨rfl, eh74, (by decide : 0 + 0 ≤ _), (by decide : 0 + 0 ≤ _)⟩)
                dsimp only [Pt.U, Pt.locs, Pt.cells, Pt.slots] at X75 l75 y75 z75 st75 hQ75
                subst l75 y75 z75
                obtain ⟨rfl, Nq75, Kc75, Fw2_75, Fx2_75, Vx2_75, P_oa_sizeIsSticky_75⟩ := hQ75
                have N75 := Fr.app N74 Nq75
                have K75 : Keep h0 T75.heap [oa, bf, of] := K41.trans Kc75 (allS (Or.inl (List.mem_of_getElem? (i := 1) rfl)) (allS (Or.inl (List.mem_of_getElem? (i := 2) rfl)) all0))
                have sz75 : n0 ≤ T75.heap.size := Nat.le_trans sz41 Kc75.1
                have f78 : Fld Z T75.heap oa "evenkeel/client/Window" "unfinished" "J" (.long ((qo + (1 : Int64)) + (1 : Int64))) := (f41w.keep Kc75 (ninS noabf (ninS noaof nin0)))
                obtain ⟨T77, X77, e77, st77⟩ := getF X75 hx hZ hown (host := "") (Or.inl (tw hw (i := 142) rfl)) Via.refl rfl f78 (g := (mkF m 86 #[rv oa, lv qo, .second] [(.ref oa), (.ref oa)])) rfl rfl (hb hby d24_86)
                have f80 : Exa Z T75.heap oa "evenkeel/client/Window" := (f62.keep Kc75)
                obtain ⟨T79, h79, X79, e79, W79, st79⟩ := putF X77 hx hZ hown (host := "") (Or.inl (tw hw (i := 142) rfl)) Via.refl e77 f78 f80 (Or.inl (tw hw (i := 143) rfl)) (tw hw (i := 3) rfl) (ty := .long) (by decide) rfl rfl (g := (mkF m 91 #[rv oa, lv qo, .second] [(.long (((qo + (1 : Int64)) + (1 : Int64)) + (1 : Int64))), (.ref oa)])) rfl rfl (hb hby d24_91)
                have f79w := f78.same W79
                have K79 : Keep h0 h79 [oa, bf, of] := K75.wr W79 (Or.inl (List.mem_of_getElem? (i := 0) rfl))
                have N79 := Fr.snoc X79 N75 g_
                have sz79 : n0 ≤ h79.size := Nat.le_trans sz75 (Keep.of_wr W79).1
                obtain ⟨T81, X81, e81, st81⟩ := getF X79 hx hZ hown (host := "") (Or.inl (tw hw (i := 142) rfl)) Via.refl e79 f79w (g := (mkF m 30 #[rv oa, lv qo, .second] [(.ref oa)])) rfl rfl (hb hby d24_30)
                have f83 : Fld Z h79 oa "evenkeel/client/Window" "next" "J" (.long qn) := ((f45.keep Kc75 (ninS noabf (ninS noaof nin0))).other W79 (Or.inr (slot_ne (Or.inl (tw hw (i := 145) rfl)) (Or.inl (tw hw (i := 143) rfl)) (by decide) (t := .long) (t' := .long) (by decide) (by decide))))
                obtain ⟨T82, X82, e82, st82⟩ := getF X81 hx hZ hown (host := "") (Or.inl (tw hw (i := 144) rfl)) Via.refl e81 f83 (g := (mkF m 34 #[rv oa, lv qo, .second] [(.ref oa), (.long (((qo + (1 : Int64)) + (1 : Int64)) + (1 : Int64)))])) rfl rfl (hb hby d24_34)
                have pre84 : ∀ t, own_K p e below m T82 38 #[rv oa, lv qo, .second] [(.int (lcmpW (((qo + (1 : Int64)) + (1 : Int64)) + (1 : Int64)) qn))] t → G t := by
                  intro t k
                  refine pre71 t ?_
                  show own_K p e below m T63 66 #[rv oa, lv qo, .second] [(.int (1 : Int32))] _
                  refine XS.ifNo X63.here hx rfl (hb hby d24_66) rfl ((if0 _ _).trans (feq (by decide : ¬ ((1 : Int32) = (0 : Int32)))).1) ?_
                  show own_K p e below m T63 69 #[rv oa, lv qo, .second] [] _
                  refine XS.aloadN X63.here hx rfl (hb hby d24_69) rfl rfl ?_
                  show own_K p e below m T63 70 #[rv oa, lv qo, .second] [(.ref oa)] _
                  refine st72 _ ?_
                  show own_K p e below m T72 73 #[rv oa, lv qo, .second] [(.ref bf)] _
                  refine XS.aloadN X72.here hx rfl (hb hby d24_73) rfl rfl ?_
                  show own_K p e below m T72 74 #[rv oa, lv qo, .second] [(.ref oa), (.ref bf)] _
                  refine XS.aloadN X72.here hx rfl (hb hby d24_74) rfl rfl ?_
                  show own_K p e below m T72 75 #[rv oa, lv qo, .second] [(.ref oa), (.ref oa), (.ref bf)] _
                  refine st73 _ ?_
                  show own_K p e below m T73 78 #[rv oa, lv qo, .second] [(.long ((qo + (1 : Int64)) + (1 : Int64))), (.ref oa), (.ref bf)] _
                  refine st74.trans ?_
                  show own_K p e below m T74 81 #[rv oa, lv qo, .second] [(.int ((((qo + (1 : Int64)) + (1 : Int64)) - (((qo + (1 : Int64)) + (1 : Int64)) / (xs.toInt64)) * (xs.toInt64)).toInt32)), (.ref bf)] _
                  refine st75.trans ?_
                  show own_K p e below m T75 84 #[rv oa, lv qo, .second] [] _
                  refine XS.aloadN X75.here hx rfl (hb hby d24_84) rfl rfl ?_
                  show own_K p e below m T75 85 #[rv oa, lv qo, .second] [(.ref oa)] _
                  refine XS.dup X75.here hx rfl (hb hby d24_85) rfl rfl ?_
                  show own_K p e below m T75 86 #[rv oa, lv qo, .second] [(.ref oa), (.ref oa)] _
                  refine st77 _ ?_
                  show own_K p e below m T77 89 #[rv oa, lv qo, .second] [(.long ((qo + (1 : Int64)) + (1 : Int64))), (.ref oa)] _
                  refine XS.lconst X77.here hx rfl (hb hby d24_89) ?_
                  show own_K p e below m T77 90 #[rv oa, lv qo, .second] [(.long (1 : Int64)), (.long ((qo + (1 : Int64)) + (1 : Int64))), (.ref oa)] _
                  refine XS.ladd X77.here hx rfl (hb hby d24_90) rfl ?_
                  show own_K p e below m T77 91 #[rv oa, lv qo, .second] [(.long (((qo + (1 : Int64)) + (1 : Int64)) + (1 : Int64))), (.ref oa)] _
                  refine st79 _ ?_
                  show own_K p e below m T79 94 #[rv oa, lv qo, .second] [] _
                  refine XS.goto X79.here hx rfl (pc0 := 94) (pc' := 29) rfl (hb hby d24_94) (by decide) (by decide) ?_
                  show own_K p e below m T79 29 #[rv oa, lv qo, .second] [] _
                  refine XS.aloadN X79.here hx rfl (hb hby d24_29) rfl rfl ?_
                  show own_K p e below m T79 30 #[rv oa, lv qo, .second] [(.ref oa)] _
                  refine st81 _ ?_
                  show own_K p e below m T81 33 #[rv oa, lv qo, .second] [(.long (((qo + (1 : Int64)) + (1 : Int64)) + (1 : Int64)))] _
                  refine XS.aloadN X81.here hx rfl (hb hby d24_33) rfl rfl ?_
                  show own_K p e below m T81 34 #[rv oa, lv qo, .second] [(.ref oa), (.long (((qo + (1 : Int64)) + (1 : Int64)) + (1 : Int64)))] _
                  refine st82 _ ?_
                  show own_K p e below m T82 37 #[rv oa, lv qo, .second] [(.long qn), (.long (((qo + (1 : Int64)) + (1 : Int64)) + (1 : Int64)))] _
                  refine XS.lcmp X82.here hx rfl (hb hby d24_37) rfl ?_
                  exact k
                by_cases hc38_85 : (((qo + (1 : Int64)) + (1 : Int64)) + (1 : Int64)) < qn
                · have f87 : Fld Z h79 oa "evenkeel/client/Window" "finished" "Ljava/util/BitSet;" (.ref bf) := ((f49.keep Kc75 (ninS noabf (ninS noaof nin0))).other W79 (Or.inr (slot_ne (Or.inr (tw hw (i := 127) rfl)) (Or.inl (tw hw (i := 143) rfl)) (by decide) (t := (.object "java/util/BitSet")) (t' := .long) (by decide) (by decide))))
                  obtain ⟨T86, X86, e86, st86⟩ := getF X82 hx hZ hown (host := "") (Or.inl (tw hw (i := 126) rfl)) Via.refl e82 f87 (g := (mkF m 42 #[rv oa, lv qo, .second] [(.ref oa)])) rfl rfl (hb hby d24_42)
                  have f89 : Fld Z h79 bf "java/util/BitSet" "wordsInUse" "I" (.int (own_wu ((xw &&& (((1 : Int64) <<< ((((qo + (1 : Int64)) - ((qo + (1 : Int64)) / (xs.toInt64)) * (xs.toInt64)).toInt32) &&& 0x3f).toInt64) ^^^ (-1 : Int64))) &&& (((1 : Int64) <<< (((((qo + (1 : Int64)) + (1 : Int64)) - (((qo + (1 : Int64)) + (1 : Int64)) / (xs.toInt64)) * (xs.toInt64)).toInt32) &&& 0x3f).toInt64) ^^^ (-1 : Int64))))) := (Fw2_75.other W79 (Or.inl (Ne.symm noabf)))
                  have f90 : Exa Z h79 bf "java/util/BitSet" := ((f52.keep Kc75).wr W79)
                  obtain ⟨cq88, kq88, q88a, q88b, q88c⟩ := isOf hZ e86 f90
                  obtain ⟨_, _, ⟨T88, L88, k88, n88⟩, -, X88, ⟨Lc88, hQ88, l88, y88, z88⟩, st88⟩ := X86.virtualBack hx (y := (⟨"java/util/BitSet", "isEmpty", "()Z"⟩ : MethodName)) (z := (⟨"java/util/BitSet", "isEmpty", "()Z"⟩ : MethodName)) hown (mvT hZ (tw hw (i := 243) rfl)) (mvT hZ (tw hw (i := 244) rfl)) (notFace_of_selects (args := #[]) (mvT hZ (tw hw (i := 246) rfl))) (mvT hZ (tw hw (i := 246) rfl)) (mvT hZ (tw hw (i := 245) rfl)) (by decide) (backOf (W := 0) (rm33w l Z a0 hw [] bf ((xw &&& (((1 : Int64) <<< ((((qo + (1 : Int64)) - ((qo + (1 : Int64)) / (xs.toInt64)) * (xs.toInt64)).toInt32) &&& 0x3f).toInt64) ^^^ (-1 : Int64))) &&& (((1 : Int64) <<< (((((qo + (1 : Int64)) + (1 : Int64)) - (((qo + (1 : Int64)) + (1 : Int64)) / (xs.toInt64)) * (xs.toInt64)).toInt32) &&& 0x3f).toInt64) ^^^ (-1 : Int64))) h79 n0 sz79 f89) hZ (tw hw (i := 247) rfl) (tw hw (i := 106) rfl) (by decide) (by decide)) q88a q88c (g := (mkF m 45 #[rv oa, lv qo, .second] [(.ref bf)])) rfl (by rw [hml]; rfl) (Steps.refl _) (argsL := []) (rest := []) (lenOf pd_5 rfl) rfl (by show 2 * 0 + _ ≤ _; exact Nat.le_of_eq rfl) (hb hby d24_45) (fun _ _ => ⟨rfl, e86, (by decide : 0 + 0 ≤ _), (by decide : 0 + 0 ≤ _)⟩)
                  dsimp only [Pt.U, Pt.locs, Pt.cells, Pt.slots] at X88 l88 y88 z88 st88 hQ88
                  subst l88 y88 z88
                  obtain ⟨rfl, Nq88, eh88⟩ := hQ88
                  have N88 := Fr.app N79 Nq88
                  have pre92 : ∀ t, own_K p e below m T88 48 #[rv oa, lv qo, .second] [(.int (if ((xw &&& (((1 : Int64) <<< ((((qo + (1 : Int64)) - ((qo + (1 : Int64)) / (xs.toInt64)) * (xs.toInt64)).toInt32) &&& 0x3f).toInt64) ^^^ (-1 : Int64))) &&& (((1 : Int64) <<< (((((qo + (1 : Int64)) + (1 : Int64)) - (((qo + (1 : Int64)) + (1 : Int64)) / (xs.toInt64)) * (xs.toInt64)).toInt32) &&& 0x3f).toInt64) ^^^ (-1 : Int64))) = (0 : Int64) then (1 : Int32) else (0 : Int32)))] t → G t := by
                    intro t k
                    refine pre84 t ?_
                    show own_K p e below m T82 38 #[rv oa, lv qo, .second] [(.int (lcmpW (((qo + (1 : Int64)) + (1 : Int64)) + (1 : Int64)) qn))] _
                    refine XS.ifNo X82.here hx rfl (hb hby d24_38) rfl ((if0 _ _).trans (tlt ((lw_lt _ _).mpr hc38_85)).2.1) ?_
                    show own_K p e below m T82 41 #[rv oa, lv qo, .second] [] _
                    refine XS.aloadN X82.here hx rfl (hb hby d24_41) rfl rfl ?_
                    show own_K p e below m T82 42 #[rv oa, lv qo, .second] [(.ref oa)] _
                    refine st86 _ ?_
                    show own_K p e below m T86 45 #[rv oa, lv qo, .second] [(.ref bf)] _
                    refine st88.trans ?_
                    exact k
                  by_cases hb48_91 : ((xw &&& (((1 : Int64) <<< ((((qo + (1 : Int64)) - ((qo + (1 : Int64)) / (xs.toInt64)) * (xs.toInt64)).toInt32) &&& 0x3f).toInt64) ^^^ (-1 : Int64))) &&& (((1 : Int64) <<< (((((qo + (1 : Int64)) + (1 : Int64)) - (((qo + (1 : Int64)) + (1 : Int64)) / (xs.toInt64)) * (xs.toInt64)).toInt32) &&& 0x3f).toInt64) ^^^ (-1 : Int64))) = (0 : Int64)
                  · have hq93 : (if ((xw &&& (((1 : Int64) <<< ((((qo + (1 : Int64)) - ((qo + (1 : Int64)) / (xs.toInt64)) * (xs.toInt64)).toInt32) &&& 0x3f).toInt64) ^^^ (-1 : Int64))) &&& (((1 : Int64) <<< (((((qo + (1 : Int64)) + (1 : Int64)) - (((qo + (1 : Int64)) + (1 : Int64)) / (xs.toInt64)) * (xs.toInt64)).toInt32) &&& 0x3f).toInt64) ^^^ (-1 : Int64))) = (0 : Int64) then (1 : Int32) else (0 : Int32)) = (1 : Int32) := (if_pos hb48_91)
                    have pre93 : ∀ t, own_K p e below m T88 48 #[rv oa, lv qo, .second] [(.int (1 : Int32))] t → G t := fun t k => pre92 t (by rw [hq93]; exact k)
                    have pre94 : ∀ t, own_K p e below m T88 109 #[rv oa, lv qo, .second] [] t → G t := by
                      intro t k
                      refine pre93 t ?_
                      show own_K p e below m T88 48 #[rv oa, lv qo, .second] [(.int (1 : Int32))] _
                      refine XS.ifYes X88.here hx rfl (pc0 := 48) (pc' := 109) rfl (hb hby d24_48) rfl ((if0 _ _).trans (feq (by decide : ¬ ((1 : Int32) = (0 : Int32)))).2) (by decide) (by decide) ?_
                      exact k
                    have f166 : Exa Z h79 oa "evenkeel/client/Window" := (f80.wr W79)
                    have f167 : Fld Z h79 oa "evenkeel/client/Window" "restart" "J" (.long qr) := (((((Fre.other W4 (Or.inr (slot_ne (Or.inl (tw hw (i := 130) rfl)) (Or.inl (tw hw (i := 143) rfl)) (by decide) (t := .long) (t' := .long) (by decide) (by decide)))).keep Kc37 (ninS noabf (ninS noaof nin0))).other W41 (Or.inr (slot_ne (Or.inl (tw hw (i := 130) rfl)) (Or.inl (tw hw (i := 143) rfl)) (by decide) (t := .long) (t' := .long) (by decide) (by decide)))).keep Kc75 (ninS noabf (ninS noaof nin0))).other W79 (Or.inr (slot_ne (Or.inl (tw hw (i := 130) rfl)) (Or.inl (tw hw (i := 143) rfl)) (by decide) (t := .long) (t' := .long) (by decide) (by decide))))
                    have f168 : Fld Z h79 oa "evenkeel/client/Window" "committed" "J" (.long qc) := (((((Fco.other W4 (Or.inr (slot_ne (Or.inl (tw hw (i := 141) rfl)) (Or.inl (tw hw (i := 143) rfl)) (by decide) (t := .long) (t' := .long) (by decide) (by decide)))).keep Kc37 (ninS noabf (ninS noaof nin0))).other W41 (Or.inr (slot_ne (Or.inl (tw hw (i := 141) rfl)) (Or.inl (tw hw (i := 143) rfl)) (by decide) (t := .long) (t' := .long) (by decide) (by decide)))).keep Kc75 (ninS noabf (ninS noaof nin0))).other W79 (Or.inr (slot_ne (Or.inl (tw hw (i := 141) rfl)) (Or.inl (tw hw (i := 143) rfl)) (by decide) (t := .long) (t' := .long) (by decide) (by decide))))
                    have f169 : Fld Z h79 oa "evenkeel/client/Window" "failing" "Ljava/util/TreeMap;" .null := (((((Ffa.other W4 (Or.inr (slot_ne (Or.inl (tw hw (i := 196) rfl)) (Or.inl (tw hw (i := 143) rfl)) (by decide) (t := (.object "java/util/TreeMap")) (t' := .long) (by decide) (by decide)))).keep Kc37 (ninS noabf (ninS noaof nin0))).other W41 (Or.inr (slot_ne (Or.inl (tw hw (i := 196) rfl)) (Or.inl (tw hw (i := 143) rfl)) (by decide) (t := (.object "java/util/TreeMap")) (t' := .long) (by decide) (by decide)))).keep Kc75 (ninS noabf (ninS noaof nin0))).other W79 (Or.inr (slot_ne (Or.inl (tw hw (i := 196) rfl)) (Or.inl (tw hw (i := 143) rfl)) (by decide) (t := (.object "java/util/TreeMap")) (t' := .long) (by decide) (by decide))))
                    have f170 : Fld Z h79 oa "evenkeel/client/Window" "size" "I" (.int xs) := ((f61.keep Kc75 (ninS noabf (ninS noaof nin0))).other W79 (Or.inr (slot_ne (Or.inr (tw hw (i := 134) rfl)) (Or.inl (tw hw (i := 143) rfl)) (by decide) (t := .int) (t' := .long) (by decide) (by decide))))
                    have f171 : Fld Z h79 oa "evenkeel/client/Window" "left" "Ljava/util/BitSet;" (.ref bl) := (((((Fl.other W4 (Or.inr (slot_ne (Or.inr (tw hw (i := 132) rfl)) (Or.inl (tw hw (i := 143) rfl)) (by decide) (t := (.object "java/util/BitSet")) (t' := .long) (by decide) (by decide)))).keep Kc37 (ninS noabf (ninS noaof nin0))).other W41 (Or.inr (slot_ne (Or.inr (tw hw (i := 132) rfl)) (Or.inl (tw hw (i := 143) rfl)) (by decide) (t := (.object "java/util/BitSet")) (t' := .long) (by decide) (by decide)))).keep Kc75 (ninS noabf (ninS noaof nin0))).other W79 (Or.inr (slot_ne (Or.inr (tw hw (i := 132) rfl)) (Or.inl (tw hw (i := 143) rfl)) (by decide) (t := (.object "java/util/BitSet")) (t' := .long) (by decide) (by decide))))
                    have f172 : Old Z n0 h79 := ((f66.keep Kc75 (allS gf (allS go all0))).wr W79 g_)
                    have f173 : Fld Z h79 oa "evenkeel/client/Window" "committedAhead" "Ljava/util/List;" uf_oa_committedAhead := (((((F_oa_committedAhead.other W4 (Or.inr (slot_ne (Or.inl (tw hw (i := 103) rfl)) (Or.inl (tw hw (i := 143) rfl)) (by decide) (t := (.object "java/util/List")) (t' := .long) (by decide) (by decide)))).keep Kc37 (ninS noabf (ninS noaof nin0))).other W41 (Or.inr (slot_ne (Or.inl (tw hw (i := 103) rfl)) (Or.inl (tw hw (i := 143) rfl)) (by decide) (t := (.object "java/util/List")) (t' := .long) (by decide) (by decide)))).keep Kc75 (ninS noabf (ninS noaof nin0))).other W79 (Or.inr (slot_ne (Or.inl (tw hw (i := 103) rfl)) (Or.inl (tw hw (i := 143) rfl)) (by decide) (t := (.object "java/util/List")) (t' := .long) (by decide) (by decide))))
                    have f174 : Fld Z h79 oa "evenkeel/client/Window" "consumed" "Ljava/util/List;" uf_oa_consumed := (((((F_oa_consumed.other W4 (Or.inr (slot_ne (Or.inr (tw hw (i := 152) rfl)) (Or.inl (tw hw (i := 143) rfl)) (by decide) (t := (.object "java/util/List")) (t' := .long) (by decide) (by decide)))).keep Kc37 (ninS noabf (ninS noaof nin0))).other W41 (Or.inr (slot_ne (Or.inr (tw hw (i := 152) rfl)) (Or.inl (tw hw (i := 143) rfl)) (by decide) (t := (.object "java/util/List")) (t' := .long) (by decide) (by decide)))).keep Kc75 (ninS noabf (ninS noaof nin0))).other W79 (Or.inr (slot_ne (Or.inr (tw hw (i := 152) rfl)) (Or.inl (tw hw (i := 143) rfl)) (by decide) (t := (.object "java/util/List")) (t' := .long) (by decide) (by decide))))
                    have f175 : Fld Z h79 oa "evenkeel/client/Window" "consumedAt" "I" uf_oa_consumedAt := (((((F_oa_consumedAt.other W4 (Or.inr (slot_ne (Or.inl (tw hw (i := 174) rfl)) (Or.inl (tw hw (i := 143) rfl)) (by decide) (t := .int) (t' := .long) (by decide) (by decide)))).keep Kc37 (ninS noabf (ninS noaof nin0))).other W41 (Or.inr (slot_ne (Or.inl (tw hw (i := 174) rfl)) (Or.inl (tw hw (i := 143) rfl)) (by decide) (t := .int) (t' := .long) (by decide) (by decide)))).keep Kc75 (ninS noabf (ninS noaof nin0))).other W79 (Or.inr (slot_ne (Or.inl (tw hw (i := 174) rfl)) (Or.inl (tw hw (i := 143) rfl)) (by decide) (t := .int) (t' := .long) (by decide) (by decide))))
                    have f176 : Fld Z h79 oa "evenkeel/client/Window" "committedFailures" "Ljava/util/List;" uf_oa_committedFailures := (((((F_oa_committedFailures.other W4 (Or.inr (slot_ne (Or.inl (tw hw (i := 159) rfl)) (Or.inl (tw hw (i := 143) rfl)) (by decide) (t := (.object "java/util/List")) (t' := .long) (by decide) (by decide)))).keep Kc37 (ninS noabf (ninS noaof nin0))).other W41 (Or.inr (slot_ne (Or.inl (tw hw (i := 159) rfl)) (Or.inl (tw hw (i := 143) rfl)) (by decide) (t := (.object "java/util/List")) (t' := .long) (by decide) (by decide)))).keep Kc75 (ninS noabf (ninS noaof nin0))).other W79 (Or.inr (slot_ne (Or.inl (tw hw (i := 159) rfl)) (Or.inl (tw hw (i := 143) rfl)) (by decide) (t := (.object "java/util/List")) (t' := .long) (by decide) (by decide))))
                    have hq := True.intro
                    obtain rfl : (((qo + (1 : Int64)) + (1 : Int64)) + (1 : Int64)) = v127 := by simp only [hv127, if_pos hc38_9, if_neg hb48_15, if_neg hb66_29, if_pos hc38_47, if_neg hb48_53, if_neg hb66_67, if_pos hc38_85, if_pos hb48_91]
                    exact ⟨_, _, _, X88, N88, eh88, K79, f166, f79w, f83, f167, f168, f169, f170, f87, f171, f172, f173, f174, f175, f176, fun t k => pre94 t k⟩
                  · have hq95 : (if ((xw &&& (((1 : Int64) <<< ((((qo + (1 : Int64)) - ((qo + (1 : Int64)) / (xs.toInt64)) * (xs.toInt64)).toInt32) &&& 0x3f).toInt64) ^^^ (-1 : Int64))) &&& (((1 : Int64) <<< (((((qo + (1 : Int64)) + (1 : Int64)) - (((qo + (1 : Int64)) + (1 : Int64)) / (xs.toInt64)) * (xs.toInt64)).toInt32) &&& 0x3f).toInt64) ^^^ (-1 : Int64))) = (0 : Int64) then (1 : Int32) else (0 : Int32)) = (0 : Int32) := (if_neg hb48_91)
                    have pre95 : ∀ t, own_K p e below m T88 48 #[rv oa, lv qo, .second] [(.int (0 : Int32))] t → G t := fun t k => pre92 t (by rw [hq95]; exact k)
                    obtain ⟨T96, X96, e96, st96⟩ := getF X88 hx hZ hown (host := "") (Or.inl (tw hw (i := 126) rfl)) Via.refl eh88 f87 (g := (mkF m 52 #[rv oa, lv qo, .second] [(.ref oa)])) rfl rfl (hb hby d24_52)
                    obtain ⟨T97, X97, e97, st97⟩ := getF X96 hx hZ hown (host := "") (Or.inl (tw hw (i := 142) rfl)) Via.refl e96 f79w (g := (mkF m 57 #[rv oa, lv qo, .second] [(.ref oa), (.ref oa), (.ref bf)])) rfl rfl (hb hby d24_57)
                    have f99 : Fld Z h79 oa "evenkeel/client/Window" "size" "I" (.int xs) := ((f61.keep Kc75 (ninS noabf (ninS noaof nin0))).other W79 (Or.inr (slot_ne (Or.inr (tw hw (i := 134) rfl)) (Or.inl (tw hw (i := 143) rfl)) (by decide) (t := .int) (t' := .long) (by decide) (by decide))))
                    have f100 : Exa Z h79 oa "evenkeel/client/Window" := (f80.wr W79)
                    obtain ⟨cq98, q98, q98'⟩ := f100.cell
                    obtain ⟨_, _, ⟨T98, L98, k98, n98⟩, -, X98, ⟨Lc98, hQ98, l98, y98, z98⟩, st98⟩ := X97.privateBack hx (y := (⟨"evenkeel/client/Window", "bit", "(J)I"⟩ : MethodName)) hown (mvT hZ (tw hw (i := 212) rfl)) (mvT hZ (tw hw (i := 213) rfl)) (own_selp hZ (tw hw (i := 3) rfl) (tw hw (i := 214) rfl) (tw hw (i := 213) rfl) (by decide)) (Cond.privateMethod_at (mvP hZ (tw hw (i := 214) rfl) (args := #[]))) (mvT hZ (tw hw (i := 215) rfl)) (by decide) (backOf (W := 1) (rm27 l Z a0 hw [] oa (((qo + (1 : Int64)) + (1 : Int64)) + (1 : Int64)) xs h79 n0 sz79 f99 (own_snz hsz)) hZ (tw hw (i := 215) rfl) (tw hw (i := 4) rfl) (by decide) (by decide)) (g := (mkF m 60 #[rv oa, lv qo, .second] [(.long (((qo + (1 : Int64)) + (1 : Int64)) + (1 : Int64))), (.ref oa), (.ref bf)])) rfl (by rw [hml]; rfl) (Steps.refl _) (a := oa) (by rw [e97]; exact q98) q98' (argsL := [(.long (((qo + (1 : Int64)) + (1 : Int64)) + (1 : Int64)))]) (rest := [(.ref bf)]) (lenOf pd_12 rfl) rfl (by show 2 * 0 + _ ≤ _; exact Nat.le_of_eq rfl) (hb hby d24_60) (fun _ _ => ⟨rfl, e97, (by decide : 0 + 0 ≤ _), (by decide : 0 + 0 ≤ _)⟩)
                    dsimp only [Pt.U, Pt.locs, Pt.cells, Pt.slots] at X98 l98 y98 z98 st98 hQ98
                    subst l98 y98 z98
                    obtain ⟨rfl, Nq98, eh98⟩ := hQ98
                    have N98 := Fr.app N88 Nq98
                    have f102 : Fld Z h79 bf "java/util/BitSet" "words" "[J" (.ref of) := (Fx2_75.other W79 (Or.inl (Ne.symm noabf)))
                    have f103 : Arv Z h79 of kf .long (1 : Int32) [(.long ((xw &&& (((1 : Int64) <<< ((((qo + (1 : Int64)) - ((qo + (1 : Int64)) / (xs.toInt64)) * (xs.toInt64)).toInt32) &&& 0x3f).toInt64) ^^^ (-1 : Int64))) &&& (((1 : Int64) <<< (((((qo + (1 : Int64)) + (1 : Int64)) - (((qo + (1 : Int64)) + (1 : Int64)) / (xs.toInt64)) * (xs.toInt64)).toInt32) &&& 0x3f).toInt64) ^^^ (-1 : Int64))))] (.long (0 : Int64)) := (Vx2_75.other W79 (Ne.symm noaof))
                    have f104 : Old Z n0 h79 := ((f66.keep Kc75 (allS gf (allS go all0))).wr W79 g_)
                    obtain ⟨cq101, kq101, q101a, q101b, q101c⟩ := isOf hZ eh98 f90
                    obtain ⟨_, _, ⟨T101, L101, k101, n101⟩, -, X101, ⟨Lc101, hQ101, l101, y101, z101⟩, st101⟩ := X98.virtualBack hx (y := (⟨"java/util/BitSet", "get", "(I)Z"⟩ : MethodName)) (z := (⟨"java/util/BitSet", "get", "(I)Z"⟩ : MethodName)) hown (mvT hZ (tw hw (i := 216) rfl)) (mvT hZ (tw hw (i := 217) rfl)) (notFace_of_selects (args := #[]) (mvT hZ (tw hw (i := 219) rfl))) (mvT hZ (tw hw (i := 219) rfl)) (mvT hZ (tw hw (i := 218) rfl)) (by decide) (backOf (W := 0) (rm28 l Z a0 hw [] bf (((((qo + (1 : Int64)) + (1 : Int64)) + (1 : Int64)) - ((((qo + (1 : Int64)) + (1 : Int64)) + (1 : Int64)) / (xs.toInt64)) * (xs.toInt64)).toInt32) ((xw &&& (((1 : Int64) <<< ((((qo + (1 : Int64)) - ((qo + (1 : Int64)) / (xs.toInt64)) * (xs.toInt64)).toInt32) &&& 0x3f).toInt64) ^^^ (-1 : Int64))) &&& (((1 : Int64) <<< (((((qo + (1 : Int64)) + (1 : Int64)) - (((qo + (1 : Int64)) + (1 : Int64)) / (xs.toInt64)) * (xs.toInt64)).toInt32) &&& 0x3f).toInt64) ^^^ (-1 : Int64))) of kf el ea kE h79 n0 sz79 f90 f89 f102 f103 (own_bit0 (own_qp3 hq0 hq62) hsz) (own_bit6 (own_qp3 hq0 hq62) hsz) f104 P_) hZ (tw hw (i := 220) rfl) (tw hw (i := 106) rfl) (by decide) (by decide)) q101a q101c (g := (mkF m 63 #[rv oa, lv qo, .second] [(.int (((((qo + (1 : Int64)) + (1 : Int64)) + (1 : Int64)) - ((((qo + (1 : Int64)) + (1 : Int64)) + (1 : Int64)) / (xs.toInt64)) * (xs.toInt64)).toInt32)), (.ref bf)])) rfl (by rw [hml]; rfl) (Steps.refl _) (argsL := [(.int (((((qo + (1 : Int64)) + (1 : Int64)) + (1 : Int64)) - ((((qo + (1 : Int64)) + (1 : Int64)) + (1 : Int64)) / (xs.toInt64)) * (xs.toInt64)).toInt32))]) (rest := []) (lenOf pd_13 rfl) rfl (by show 2 * 0 + _ ≤ _; exact Nat.le_of_eq rfl) (hb hby d24_63) (fun _ _ => ⟨rfl, eh98, (by decide : 0 + 0 ≤ _), (by decide : 0 + 0 ≤ _)⟩)
                    dsimp only [Pt.U, Pt.locs, Pt.cells, Pt.slots] at X101 l101 y101 z101 st101 hQ101
                    subst l101 y101 z101
                    obtain ⟨rfl, Nq101, eh101⟩ := hQ101
                    have N101 := Fr.app N98 Nq101
                    have pre106 : ∀ t, own_K p e below m T101 66 #[rv oa, lv qo, .second] [(.int (if (((xw &&& (((1 : Int64) <<< ((((qo + (1 : Int64)) - ((qo + (1 : Int64)) / (xs.toInt64)) * (xs.toInt64)).toInt32) &&& 0x3f).toInt64) ^^^ (-1 : Int64))) &&& (((1 : Int64) <<< (((((qo + (1 : Int64)) + (1 : Int64)) - (((qo + (1 : Int64)) + (1 : Int64)) / (xs.toInt64)) * (xs.toInt64)).toInt32) &&& 0x3f).toInt64) ^^^ (-1 : Int64))) &&& ((1 : Int64) <<< ((((((qo + (1 : Int64)) + (1 : Int64)) + (1 : Int64)) - ((((qo + (1 : Int64)) + (1 : Int64)) + (1 : Int64)) / (xs.toInt64)) * (xs.toInt64)).toInt32) &&& 0x3f).toInt64)) = (0 : Int64) then (0 : Int32) else (1 : Int32)))] t → G t := by
                      intro t k
                      refine pre95 t ?_
                      show own_K p e below m T88 48 #[rv oa, lv qo, .second] [(.int (0 : Int32))] _
                      refine XS.ifNo X88.here hx rfl (hb hby d24_48) rfl ((if0 _ _).trans (teq (by decide : (0 : Int32) = (0 : Int32))).2) ?_
                      show own_K p e below m T88 51 #[rv oa, lv qo, .second] [] _
                      refine XS.aloadN X88.here hx rfl (hb hby d24_51) rfl rfl ?_
                      show own_K p e below m T88 52 #[rv oa, lv qo, .second] [(.ref oa)] _
                      refine st96 _ ?_
                      show own_K p e below m T96 55 #[rv oa, lv qo, .second] [(.ref bf)] _
                      refine XS.aloadN X96.here hx rfl (hb hby d24_55) rfl rfl ?_
                      show own_K p e below m T96 56 #[rv oa, lv qo, .second] [(.ref oa), (.ref bf)] _
                      refine XS.aloadN X96.here hx rfl (hb hby d24_56) rfl rfl ?_
                      show own_K p e below m T96 57 #[rv oa, lv qo, .second] [(.ref oa), (.ref oa), (.ref bf)] _
                      refine st97 _ ?_
                      show own_K p e below m T97 60 #[rv oa, lv qo, .second] [(.long (((qo + (1 : Int64)) + (1 : Int64)) + (1 : Int64))), (.ref oa), (.ref bf)] _
                      refine st98.trans ?_
                      show own_K p e below m T98 63 #[rv oa, lv qo, .second] [(.int (((((qo + (1 : Int64)) + (1 : Int64)) + (1 : Int64)) - ((((qo + (1 : Int64)) + (1 : Int64)) + (1 : Int64)) / (xs.toInt64)) * (xs.toInt64)).toInt32)), (.ref bf)] _
                      refine st101.trans ?_
                      exact k
                    by_cases hb66_105 : (((xw &&& (((1 : Int64) <<< ((((qo + (1 : Int64)) - ((qo + (1 : Int64)) / (xs.toInt64)) * (xs.toInt64)).toInt32) &&& 0x3f).toInt64) ^^^ (-1 : Int64))) &&& (((1 : Int64) <<< (((((qo + (1 : Int64)) + (1 : Int64)) - (((qo + (1 : Int64)) + (1 : Int64)) / (xs.toInt64)) * (xs.toInt64)).toInt32) &&& 0x3f).toInt64) ^^^ (-1 : Int64))) &&& ((1 : Int64) <<< ((((((qo + (1 : Int64)) + (1 : Int64)) + (1 : Int64)) - ((((qo + (1 : Int64)) + (1 : Int64)) + (1 : Int64)) / (xs.toInt64)) * (xs.toInt64)).toInt32) &&& 0x3f).toInt64)) = (0 : Int64)
                    · have hq107 : (if (((xw &&& (((1 : Int64) <<< ((((qo + (1 : Int64)) - ((qo + (1 : Int64)) / (xs.toInt64)) * (xs.toInt64)).toInt32) &&& 0x3f).toInt64) ^^^ (-1 : Int64))) &&& (((1 : Int64) <<< (((((qo + (1 : Int64)) + (1 : Int64)) - (((qo + (1 : Int64)) + (1 : Int64)) / (xs.toInt64)) * (xs.toInt64)).toInt32) &&& 0x3f).toInt64) ^^^ (-1 : Int64))) &&& ((1 : Int64) <<< ((((((qo + (1 : Int64)) + (1 : Int64)) + (1 : Int64)) - ((((qo + (1 : Int64)) + (1 : Int64)) + (1 : Int64)) / (xs.toInt64)) * (xs.toInt64)).toInt32) &&& 0x3f).toInt64)) = (0 : Int64) then (0 : Int32) else (1 : Int32)) = (0 : Int32) := (if_pos hb66_105)
                      have pre107 : ∀ t, own_K p e below m T101 66 #[rv oa, lv qo, .second] [(.int (0 : Int32))] t → G t := fun t k => pre106 t (by rw [hq107]; exact k)
                      have pre108 : ∀ t, own_K p e below m T101 109 #[rv oa, lv qo, .second] [] t → G t := by
                        intro t k
                        refine pre107 t ?_
                        show own_K p e below m T101 66 #[rv oa, lv qo, .second] [(.int (0 : Int32))] _
                        refine XS.ifYes X101.here hx rfl (pc0 := 66) (pc' := 109) rfl (hb hby d24_66) rfl ((if0 _ _).trans (teq (by decide : (0 : Int32) = (0 : Int32))).1) (by decide) (by decide) ?_
                        exact k
                      have f177 : Fld Z h79 oa "evenkeel/client/Window" "restart" "J" (.long qr) := (((((Fre.other W4 (Or.inr (slot_ne (Or.inl (tw hw (i := 130) rfl)) (Or.inl (tw hw (i := 143) rfl)) (by decide) (t := .long) (t' := .long) (by decide) (by decide)))).keep Kc37 (ninS noabf (ninS noaof nin0))).other W41 (Or.inr (slot_ne (Or.inl (tw hw (i := 130) rfl)) (Or.inl (tw hw (i := 143) rfl)) (by decide) (t := .long) (t' := .long) (by decide) (by decide)))).keep Kc75 (ninS noabf (ninS noaof nin0))).other W79 (Or.inr (slot_ne (Or.inl (tw hw (i := 130) rfl)) (Or.inl (tw hw (i := 143) rfl)) (by decide) (t := .long) (t' := .long) (by decide) (by decide))))
                      have f178 : Fld Z h79 oa "evenkeel/client/Window" "committed" "J" (.long qc) := (((((Fco.other W4 (Or.inr (slot_ne (Or.inl (tw hw (i := 141) rfl)) (Or.inl (tw hw (i := 143) rfl)) (by decide) (t := .long) (t' := .long) (by decide) (by decide)))).keep Kc37 (ninS noabf (ninS noaof nin0))).other W41 (Or.inr (slot_ne (Or.inl (tw hw (i := 141) rfl)) (Or.inl (tw hw (i := 143) rfl)) (by decide) (t := .long) (t' := .long) (by decide) (by decide)))).keep Kc75 (ninS noabf (ninS noaof nin0))).other W79 (Or.inr (slot_ne (Or.inl (tw hw (i := 141) rfl)) (Or.inl (tw hw (i := 143) rfl)) (by decide) (t := .long) (t' := .long) (by decide) (by decide))))
                      have f179 : Fld Z h79 oa "evenkeel/client/Window" "failing" "Ljava/util/TreeMap;" .null := (((((Ffa.other W4 (Or.inr (slot_ne (Or.inl (tw hw (i := 196) rfl)) (Or.inl (tw hw (i := 143) rfl)) (by decide) (t := (.object "java/util/TreeMap")) (t' := .long) (by decide) (by decide)))).keep Kc37 (ninS noabf (ninS noaof nin0))).other W41 (Or.inr (slot_ne (Or.inl (tw hw (i := 196) rfl)) (Or.inl (tw hw (i := 143) rfl)) (by decide) (t := (.object "java/util/TreeMap")) (t' := .long) (by decide) (by decide)))).keep Kc75 (ninS noabf (ninS noaof nin0))).other W79 (Or.inr (slot_ne (Or.inl (tw hw (i := 196) rfl)) (Or.inl (tw hw (i := 143) rfl)) (by decide) (t := (.object "java/util/TreeMap")) (t' := .long) (by decide) (by decide))))
                      have f180 : Fld Z h79 oa "evenkeel/client/Window" "left" "Ljava/util/BitSet;" (.ref bl) := (((((Fl.other W4 (Or.inr (slot_ne (Or.inr (tw hw (i := 132) rfl)) (Or.inl (tw hw (i := 143) rfl)) (by decide) (t := (.object "java/util/BitSet")) (t' := .long) (by decide) (by decide)))).keep Kc37 (ninS noabf (ninS noaof nin0))).other W41 (Or.inr (slot_ne (Or.inr (tw hw (i := 132) rfl)) (Or.inl (tw hw (i := 143) rfl)) (by decide) (t := (.object "java/util/BitSet")) (t' := .long) (by decide) (by decide)))).keep Kc75 (ninS noabf (ninS noaof nin0))).other W79 (Or.inr (slot_ne (Or.inr (tw hw (i := 132) rfl)) (Or.inl (tw hw (i := 143) rfl)) (by decide) (t := (.object "java/util/BitSet")) (t' := .long) (by decide) (by decide))))
                      have f181 : Fld Z h79 oa "evenkeel/client/Window" "committedAhead" "Ljava/util/List;" uf_oa_committedAhead := (((((F_oa_committedAhead.other W4 (Or.inr (slot_ne (Or.inl (tw hw (i := 103) rfl)) (Or.inl (tw hw (i := 143) rfl)) (by decide) (t := (.object "java/util/List")) (t' := .long) (by decide) (by decide)))).keep Kc37 (ninS noabf (ninS noaof nin0))).other W41 (Or.inr (slot_ne (Or.inl (tw hw (i := 103) rfl)) (Or.inl (tw hw (i := 143) rfl)) (by decide) (t := (.object "java/util/List")) (t' := .long) (by decide) (by decide)))).keep Kc75 (ninS noabf (ninS noaof nin0))).other W79 (Or.inr (slot_ne (Or.inl (tw hw (i := 103) rfl)) (Or.inl (tw hw (i := 143) rfl)) (by decide) (t := (.object "java/util/List")) (t' := .long) (by decide) (by decide))))
                      have f182 : Fld Z h79 oa "evenkeel/client/Window" "consumed" "Ljava/util/List;" uf_oa_consumed := (((((F_oa_consumed.other W4 (Or.inr (slot_ne (Or.inr (tw hw (i := 152) rfl)) (Or.inl (tw hw (i := 143) rfl)) (by decide) (t := (.object "java/util/List")) (t' := .long) (by decide) (by decide)))).keep Kc37 (ninS noabf (ninS noaof nin0))).other W41 (Or.inr (slot_ne (Or.inr (tw hw (i := 152) rfl)) (Or.inl (tw hw (i := 143) rfl)) (by decide) (t := (.object "java/util/List")) (t' := .long) (by decide) (by decide)))).keep Kc75 (ninS noabf (ninS noaof nin0))).other W79 (Or.inr (slot_ne (Or.inr (tw hw (i := 152) rfl)) (Or.inl (tw hw (i := 143) rfl)) (by decide) (t := (.object "java/util/List")) (t' := .long) (by decide) (by decide))))
                      have f183 : Fld Z h79 oa "evenkeel/client/Window" "consumedAt" "I" uf_oa_consumedAt := (((((F_oa_consumedAt.other W4 (Or.inr (slot_ne (Or.inl (tw hw (i := 174) rfl)) (Or.inl (tw hw (i := 143) rfl)) (by decide) (t := .int) (t' := .long) (by decide) (by decide)))).keep Kc37 (ninS noabf (ninS noaof nin0))).other W41 (Or.inr (slot_ne (Or.inl (tw hw (i := 174) rfl)) (Or.inl (tw hw (i := 143) rfl)) (by decide) (t := .int) (t' := .long) (by decide) (by decide)))).keep Kc75 (ninS noabf (ninS noaof nin0))).other W79 (Or.inr (slot_ne (Or.inl (tw hw (i := 174) rfl)) (Or.inl (tw hw (i := 143) rfl)) (by decide) (t := .int) (t' := .long) (by decide) (by decide))))
                      have f184 : Fld Z h79 oa "evenkeel/client/Window" "committedFailures" "Ljava/util/List;" uf_oa_committedFailures := (((((F_oa_committedFailures.other W4 (Or.inr (slot_ne (Or.inl (tw hw (i := 159) rfl)) (Or.inl (tw hw (i := 143) rfl)) (by decide) (t := (.object "java/util/List")) (t' := .long) (by decide) (by decide)))).keep Kc37 (ninS noabf (ninS noaof nin0))).other W41 (Or.inr (slot_ne (Or.inl (tw hw (i := 159) rfl)) (Or.inl (tw hw (i := 143) rfl)) (by decide) (t := (.object "java/util/List")) (t' := .long) (by decide) (by decide)))).keep Kc75 (ninS noabf (ninS noaof nin0))).other W79 (Or.inr (slot_ne (Or.inl (tw hw (i := 159) rfl)) (Or.inl (tw hw (i := 143) rfl)) (by decide) (t := (.object "java/util/List")) (t' := .long) (by decide) (by decide))))
                      have hq := True.intro
                      obtain rfl : (((qo + (1 : Int64)) + (1 : Int64)) + (1 : Int64)) = v127 := by simp only [hv127, if_pos hc38_9, if_neg hb48_15, if_neg hb66_29, if_pos hc38_47, if_neg hb48_53, if_neg hb66_67, if_pos hc38_85, if_neg hb48_91, if_pos hb66_105]
                      exact ⟨_, _, _, X101, N101, eh101, K79, f100, f79w, f83, f177, f178, f179, f99, f87, f180, f104, f181, f182, f183, f184, fun t k => pre108 t k⟩
                    · have hq109 : (if (((xw &&& (((1 : Int64) <<< ((((qo + (1 : Int64)) - ((qo + (1 : Int64)) / (xs.toInt64)) * (xs.toInt64)).toInt32) &&& 0x3f).toInt64) ^^^ (-1 : Int64))) &&& (((1 : Int64) <<< (((((qo + (1 : Int64)) + (1 : Int64)) - (((qo + (1 : Int64)) + (1 : Int64)) / (xs.toInt64)) * (xs.toInt64)).toInt32) &&& 0x3f).toInt64) ^^^ (-1 : Int64))) &&& ((1 : Int64) <<< ((((((qo + (1 : Int64)) + (1 : Int64)) + (1 : Int64)) - ((((qo + (1 : Int64)) + (1 : Int64)) + (1 : Int64)) / (xs.toInt64)) * (xs.toInt64)).toInt32) &&& 0x3f).toInt64)) = (0 : Int64) then (0 : Int32) else (1 : Int32)) = (1 : Int32) := (if_neg hb66_105)
                      have pre109 : ∀ t, own_K p e below m T101 66 #[rv oa, lv qo, .second] [(.int (1 : Int32))] t → G t := fun t k => pre106 t (by rw [hq109]; exact k)
                      obtain ⟨T110, X110, e110, st110⟩ := getF X101 hx hZ hown (host := "") (Or.inl (tw hw (i := 126) rfl)) Via.refl eh101 f87 (g := (mkF m 70 #[rv oa, lv qo, .second] [(.ref oa)])) rfl rfl (hb hby d24_70)
                      obtain ⟨T111, X111, e111, st111⟩ := getF X110 hx hZ hown (host := "") (Or.inl (tw hw (i := 142) rfl)) Via.refl e110 f79w (g := (mkF m 75 #[rv oa, lv qo, .second] [(.ref oa), (.ref oa), (.ref bf)])) rfl rfl (hb hby d24_75)
                      obtain ⟨cq112, q112, q112'⟩ := f100.cell
                      obtain ⟨_, _, ⟨T112, L112, k112, n112⟩, -, X112, ⟨Lc112, hQ112, l112, y112, z112⟩, st112⟩ := X111.privateBack hx (y := (⟨"evenkeel/client/Window", "bit", "(J)I"⟩ : MethodName)) hown (mvT hZ (tw hw (i := 212) rfl)) (mvT hZ (tw hw (i := 213) rfl)) (own_selp hZ (tw hw (i := 3) rfl) (tw hw (i := 214) rfl) (tw hw (i := 213) rfl) (by decide)) (Cond.privateMethod_at (mvP hZ (tw hw (i := 214) rfl) (args := #[]))) (mvT hZ (tw hw (i := 215) rfl)) (by decide) (backOf (W := 1) (rm27 l Z a0 hw [] oa (((qo + (1 : Int64)) + (1 : Int64)) + (1 : Int64)) xs h79 n0 sz79 f99 (own_snz hsz)) hZ (tw hw (i := 215) rfl) (tw hw (i := 4) rfl) (by decide) (by decide)) (g := (mkF m 78 #[rv oa, lv qo, .second] [(.long (((qo + (1 : Int64)) + (1 : Int64)) + (1 : Int64))), (.ref oa), (.ref bf)])) rfl (by rw [hml]; rfl) (Steps.refl _) (a := oa) (by rw [e111]; exact q112) q112' (argsL := [(.long (((qo + (1 : Int64)) + (1 : Int64)) + (1 : Int64)))]) (rest := [(.ref bf)]) (lenOf pd_12 rfl) rfl (by show 2 * 0 + _ ≤ _; exact Nat.le_of_eq rfl) (hb hby d24_78) (fun _ _ => ⟨rfl, e111, (by decide : 0 + 0 ≤ _), (by decide : 0 + 0 ≤ _)⟩)
                      dsimp only [Pt.U, Pt.locs, Pt.cells, Pt.slots] at X112 l112 y112 z112 st112 hQ112
                      subst l112 y112 z112
                      obtain ⟨rfl, Nq112, eh112⟩ := hQ112
                      have N112 := Fr.app N101 Nq112
                      have f114 : Fld Z h79 bf "java/util/BitSet" "sizeIsSticky" "Z" ust := (P_oa_sizeIsSticky_75.other W79 (Or.inl (Ne.symm noabf)))
                      obtain ⟨cq113, kq113, q113a, q113b, q113c⟩ := isOf hZ eh112 f90
                      obtain ⟨_, _, ⟨T113, L113, k113, n113⟩, -, X113, ⟨Lc113, hQ113, l113, y113, z113⟩, st113⟩ := X112.virtualBack hx (y := (⟨"java/util/BitSet", "clear", "(I)V"⟩ : MethodName)) (z := (⟨"java/util/BitSet", "clear", "(I)V"⟩ : MethodName)) hown (mvT hZ (tw hw (i := 248) rfl)) (mvT hZ (tw hw (i := 249) rfl)) (notFace_of_selects (args := #[]) (mvT hZ (tw hw (i := 251) rfl))) (mvT hZ (tw hw (i := 251) rfl)) (mvT hZ (tw hw (i := 250) rfl)) (by decide) (backOf (W := 0) (rm34 l Z a0 hw [] bf (((((qo + (1 : Int64)) + (1 : Int64)) + (1 : Int64)) - ((((qo + (1 : Int64)) + (1 : Int64)) + (1 : Int64)) / (xs.toInt64)) * (xs.toInt64)).toInt32) ((xw &&& (((1 : Int64) <<< ((((qo + (1 : Int64)) - ((qo + (1 : Int64)) / (xs.toInt64)) * (xs.toInt64)).toInt32) &&& 0x3f).toInt64) ^^^ (-1 : Int64))) &&& (((1 : Int64) <<< (((((qo + (1 : Int64)) + (1 : Int64)) - (((qo + (1 : Int64)) + (1 : Int64)) / (xs.toInt64)) * (xs.toInt64)).toInt32) &&& 0x3f).toInt64) ^^^ (-1 : Int64))) of kf el ea kE ust h79 n0 sz79 f90 f89 f102 f103 (own_bit0 (own_qp3 hq0 hq62) hsz) (own_bit6 (own_qp3 hq0 hq62) hsz) gf go nbfof f104 P_ hb48_91 f114) hZ (tw hw (i := 252) rfl) (tw hw (i := 106) rfl) (by decide) (by decide)) q113a q113c (g := (mkF m 81 #[rv oa, lv qo, .second] [(.int (((((qo + (1 : Int64)) + (1 : Int64)) + (1 : Int64)) - ((((qo + (1 : Int64)) + (1 : Int64)) + (1 : Int64)) / (xs.toInt64)) * (xs.toInt64)).toInt32)), (.ref bf)])) rfl (by rw [hml]; rfl) (Steps.refl _) (argsL := [(.int (((((qo + (1 : Int64)) + (1 : Int64)) + (1 : Int64)) - ((((qo + (1 : Int64)) + (1 : Int64)) + (1 : Int64)) / (xs.toInt64)) * (xs.toInt64)).toInt32))]) (rest := []) (lenOf pd_9 rfl) rfl (by show 2 * 0 + _ ≤ _; exact Nat.le_of_eq rfl) (hb hby d24_81) (fun _ _ => ⟨rfl, eh112, (by decide : 0 + 0 ≤ _), (by decide : 0 + 0 ≤ _)⟩)
                      dsimp only [Pt.U, Pt.locs, Pt.cells, Pt.slots] at X113 l113 y113 z113 st113 hQ113
                      subst l113 y113 z113
                      obtain ⟨rfl, Nq113, Kc113, Fw2_113, Fx2_113, Vx2_113, P_oa_sizeIsSticky_113⟩ := hQ113
                      have N113 := Fr.app N112 Nq113
                      have K113 : Keep h0 T113.heap [oa, bf, of] := K79.trans Kc113 (allS (Or.inl (List.mem_of_getElem? (i := 1) rfl)) (allS (Or.inl (List.mem_of_getElem? (i := 2) rfl)) all0))
                      have sz113 : n0 ≤ T113.heap.size := Nat.le_trans sz79 Kc113.1
                      have f116 : Fld Z T113.heap oa "evenkeel/client/Window" "unfinished" "J" (.long (((qo + (1 : Int64)) + (1 : Int64)) + (1 : Int64))) := (f79w.keep Kc113 (ninS noabf (ninS noaof nin0)))
                      obtain ⟨T115, X115, e115, st115⟩ := getF X113 hx hZ hown (host := "") (Or.inl (tw hw (i := 142) rfl)) Via.refl rfl f116 (g := (mkF m 86 #[rv oa, lv qo, .second] [(.ref oa), (.ref oa)])) rfl rfl (hb hby d24_86)
                      have f118 : Exa Z T113.heap oa "evenkeel/client/Window" := (f100.keep Kc113)
                      obtain ⟨T117, h117, X117, e117, W117, st117⟩ := putF X115 hx hZ hown (host := "") (Or.inl (tw hw (i := 142) rfl)) Via.refl e115 f116 f118 (Or.inl (tw hw (i := 143) rfl)) (tw hw (i := 3) rfl) (ty := .long) (by decide) rfl rfl (g := (mkF m 91 #[rv oa, lv qo, .second] [(.long ((((qo + (1 : Int64)) + (1 : Int64)) + (1 : Int64)) + (1 : Int64))), (.ref oa)])) rfl rfl (hb hby d24_91)
                      have f117w := f116.same W117
                      have K117 : Keep h0 h117 [oa, bf, of] := K113.wr W117 (Or.inl (List.mem_of_getElem? (i := 0) rfl))
                      have N117 := Fr.snoc X117 N113 g_
                      have sz117 : n0 ≤ h117.size := Nat.le_trans sz113 (Keep.of_wr W117).1
                      obtain ⟨T119, X119, e119, st119⟩ := getF X117 hx hZ hown (host := "") (Or.inl (tw hw (i := 142) rfl)) Via.refl e117 f117w (g := (mkF m 30 #[rv oa, lv qo, .second] [(.ref oa)])) rfl rfl (hb hby d24_30)
                      have f121 : Fld Z h117 oa "evenkeel/client/Window" "next" "J" (.long qn) := ((f83.keep Kc113 (ninS noabf (ninS noaof nin0))).other W117 (Or.inr (slot_ne (Or.inl (tw hw (i := 145) rfl)) (Or.inl (tw hw (i := 143) rfl)) (by decide) (t := .long) (t' := .long) (by decide) (by decide))))
                      obtain ⟨T120, X120, e120, st120⟩ := getF X119 hx hZ hown (host := "") (Or.inl (tw hw (i := 144) rfl)) Via.refl e119 f121 (g := (mkF m 34 #[rv oa, lv qo, .second] [(.ref oa), (.long ((((qo + (1 : Int64)) + (1 : Int64)) + (1 : Int64)) + (1 : Int64)))])) rfl rfl (hb hby d24_34)
                      have pre122 : ∀ t, own_K p e below m T120 109 #[rv oa, lv qo, .second] [] t → G t := by
                        intro t k
                        refine pre109 t ?_
                        show own_K p e below m T101 66 #[rv oa, lv qo, .second] [(.int (1 : Int32))] _
                        refine XS.ifNo X101.here hx rfl (hb hby d24_66) rfl ((if0 _ _).trans (feq (by decide : ¬ ((1 : Int32) = (0 : Int32)))).1) ?_
                        show own_K p e below m T101 69 #[rv oa, lv qo, .second] [] _
                        refine XS.aloadN X101.here hx rfl (hb hby d24_69) rfl rfl ?_
                        show own_K p e below m T101 70 #[rv oa, lv qo, .second] [(.ref oa)] _
                        refine st110 _ ?_
                        show own_K p e below m T110 73 #[rv oa, lv qo, .second] [(.ref bf)] _
                        refine XS.aloadN X110.here hx rfl (hb hby d24_73) rfl rfl ?_
                        show own_K p e below m T110 74 #[rv oa, lv qo, .second] [(.ref oa), (.ref bf)] _
                        refine XS.aloadN X110.here hx rfl (hb hby d24_74) rfl rfl ?_
                        show own_K p e below m T110 75 #[rv oa, lv qo, .second] [(.ref oa), (.ref oa), (.ref bf)] _
                        refine st111 _ ?_
                        show own_K p e below m T111 78 #[rv oa, lv qo, .second] [(.long (((qo + (1 : Int64)) + (1 : Int64)) + (1 : Int64))), (.ref oa), (.ref bf)] _
                        refine st112.trans ?_
                        show own_K p e below m T112 81 #[rv oa, lv qo, .second] [(.int (((((qo + (1 : Int64)) + (1 : Int64)) + (1 : Int64)) - ((((qo + (1 : Int64)) + (1 : Int64)) + (1 : Int64)) / (xs.toInt64)) * (xs.toInt64)).toInt32)), (.ref bf)] _
                        refine st113.trans ?_
                        show own_K p e below m T113 84 #[rv oa, lv qo, .second] [] _
                        refine XS.aloadN X113.here hx rfl (hb hby d24_84) rfl rfl ?_
                        show own_K p e below m T113 85 #[rv oa, lv qo, .second] [(.ref oa)] _
                        refine XS.dup X113.here hx rfl (hb hby d24_85) rfl rfl ?_
                        show own_K p e below m T113 86 #[rv oa, lv qo, .second] [(.ref oa), (.ref oa)] _
                        refine st115 _ ?_
                        show own_K p e below m T115 89 #[rv oa, lv qo, .second] [(.long (((qo + (1 : Int64)) + (1 : Int64)) + (1 : Int64))), (.ref oa)] _
                        refine XS.lconst X115.here hx rfl (hb hby d24_89) ?_
                        show own_K p e below m T115 90 #[rv oa, lv qo, .second] [(.long (1 : Int64)), (.long (((qo + (1 : Int64)) + (1 : Int64)) + (1 : Int64))), (.ref oa)] _
                        refine XS.ladd X115.here hx rfl (hb hby d24_90) rfl ?_
                        show own_K p e below m T115 91 #[rv oa, lv qo, .second] [(.long ((((qo + (1 : Int64)) + (1 : Int64)) + (1 : Int64)) + (1 : Int64))), (.ref oa)] _
                        refine st117 _ ?_
                        show own_K p e below m T117 94 #[rv oa, lv qo, .second] [] _
                        refine XS.goto X117.here hx rfl (pc0 := 94) (pc' := 29) rfl (hb hby d24_94) (by decide) (by decide) ?_
                        show own_K p e below m T117 29 #[rv oa, lv qo, .second] [] _
                        refine XS.aloadN X117.here hx rfl (hb hby d24_29) rfl rfl ?_
                        show own_K p e below m T117 30 #[rv oa, lv qo, .second] [(.ref oa)] _
                        refine st119 _ ?_
                        show own_K p e below m T119 33 #[rv oa, lv qo, .second] [(.long ((((qo + (1 : Int64)) + (1 : Int64)) + (1 : Int64)) + (1 : Int64)))] _
                        refine XS.aloadN X119.here hx rfl (hb hby d24_33) rfl rfl ?_
                        show own_K p e below m T119 34 #[rv oa, lv qo, .second] [(.ref oa), (.long ((((qo + (1 : Int64)) + (1 : Int64)) + (1 : Int64)) + (1 : Int64)))] _
                        refine st120 _ ?_
                        show own_K p e below m T120 37 #[rv oa, lv qo, .second] [(.long qn), (.long ((((qo + (1 : Int64)) + (1 : Int64)) + (1 : Int64)) + (1 : Int64)))] _
                        refine XS.lcmp X120.here hx rfl (hb hby d24_37) rfl ?_
                        show own_K p e below m T120 38 #[rv oa, lv qo, .second] [(.int (lcmpW ((((qo + (1 : Int64)) + (1 : Int64)) + (1 : Int64)) + (1 : Int64)) qn))] _
                        refine XS.ifYes X120.here hx rfl (pc0 := 38) (pc' := 109) rfl (hb hby d24_38) rfl ((if0 _ _).trans (flt (mt (lw_lt _ _).mp (own_end hq62 hq0 hn4))).2.1) (by decide) (by decide) ?_
                        exact k
                      have f185 : Exa Z h117 oa "evenkeel/client/Window" := (f118.wr W117)
                      have f186 : Fld Z h117 oa "evenkeel/client/Window" "restart" "J" (.long qr) := (((((((Fre.other W4 (Or.inr (slot_ne (Or.inl (tw hw (i := 130) rfl)) (Or.inl (tw hw (i := 143) rfl)) (by decide) (t := .long) (t' := .long) (by decide) (by decide)))).keep Kc37 (ninS noabf (ninS noaof nin0))).other W41 (Or.inr (slot_ne (Or.inl (tw hw (i := 130) rfl)) (Or.inl (tw hw (i := 143) rfl)) (by decide) (t := .long) (t' := .long) (by decide) (by decide)))).keep Kc75 (ninS noabf (ninS noaof nin0))).other W79 (Or.inr (slot_ne (Or.inl (tw hw (i := 130) rfl)) (Or.inl (tw hw (i := 143) rfl)) (by decide) (t := .long) (t' := .long) (by decide) (by decide)))).keep Kc113 (ninS noabf (ninS noaof nin0))).other W117 (Or.inr (slot_ne (Or.inl (tw hw (i := 130) rfl)) (Or.inl (tw hw (i := 143) rfl)) (by decide) (t := .long) (t' := .long) (by decide) (by decide))))
                      have f187 : Fld Z h117 oa "evenkeel/client/Window" "committed" "J" (.long qc) := (((((((Fco.other W4 (Or.inr (slot_ne (Or.inl (tw hw (i := 141) rfl)) (Or.inl (tw hw (i := 143) rfl)) (by decide) (t := .long) (t' := .long) (by decide) (by decide)))).keep Kc37 (ninS noabf (ninS noaof nin0))).other W41 (Or.inr (slot_ne (Or.inl (tw hw (i := 141) rfl)) (Or.inl (tw hw (i := 143) rfl)) (by decide) (t := .long) (t' := .long) (by decide) (by decide)))).keep Kc75 (ninS noabf (ninS noaof nin0))).other W79 (Or.inr (slot_ne (Or.inl (tw hw (i := 141) rfl)) (Or.inl (tw hw (i := 143) rfl)) (by decide) (t := .long) (t' := .long) (by decide) (by decide)))).keep Kc113 (ninS noabf (ninS noaof nin0))).other W117 (Or.inr (slot_ne (Or.inl (tw hw (i := 141) rfl)) (Or.inl (tw hw (i := 143) rfl)) (by decide) (t := .long) (t' := .long) (by decide) (by decide))))
                      have f188 : Fld Z h117 oa "evenkeel/client/Window" "failing" "Ljava/util/TreeMap;" .null := (((((((Ffa.other W4 (Or.inr (slot_ne (Or.inl (tw hw (i := 196) rfl)) (Or.inl (tw hw (i := 143) rfl)) (by decide) (t := (.object "java/util/TreeMap")) (t' := .long) (by decide) (by decide)))).keep Kc37 (ninS noabf (ninS noaof nin0))).other W41 (Or.inr (slot_ne (Or.inl (tw hw (i := 196) rfl)) (Or.inl (tw hw (i := 143) rfl)) (by decide) (t := (.object "java/util/TreeMap")) (t' := .long) (by decide) (by decide)))).keep Kc75 (ninS noabf (ninS noaof nin0))).other W79 (Or.inr (slot_ne (Or.inl (tw hw (i := 196) rfl)) (Or.inl (tw hw (i := 143) rfl)) (by decide) (t := (.object "java/util/TreeMap")) (t' := .long) (by decide) (by decide)))).keep Kc113 (ninS noabf (ninS noaof nin0))).other W117 (Or.inr (slot_ne (Or.inl (tw hw (i := 196) rfl)) (Or.inl (tw hw (i := 143) rfl)) (by decide) (t := (.object "java/util/TreeMap")) (t' := .long) (by decide) (by decide))))
                      have f189 : Fld Z h117 oa "evenkeel/client/Window" "size" "I" (.int xs) := ((f99.keep Kc113 (ninS noabf (ninS noaof nin0))).other W117 (Or.inr (slot_ne (Or.inr (tw hw (i := 134) rfl)) (Or.inl (tw hw (i := 143) rfl)) (by decide) (t := .int) (t' := .long) (by decide) (by decide))))
                      have f190 : Fld Z h117 oa "evenkeel/client/Window" "finished" "Ljava/util/BitSet;" (.ref bf) := ((f87.keep Kc113 (ninS noabf (ninS noaof nin0))).other W117 (Or.inr (slot_ne (Or.inr (tw hw (i := 127) rfl)) (Or.inl (tw hw (i := 143) rfl)) (by decide) (t := (.object "java/util/BitSet")) (t' := .long) (by decide) (by decide))))
                      have f191 : Fld Z h117 oa "evenkeel/client/Window" "left" "Ljava/util/BitSet;" (.ref bl) := (((((((Fl.other W4 (Or.inr (slot_ne (Or.inr (tw hw (i := 132) rfl)) (Or.inl (tw hw (i := 143) rfl)) (by decide) (t := (.object "java/util/BitSet")) (t' := .long) (by decide) (by decide)))).keep Kc37 (ninS noabf (ninS noaof nin0))).other W41 (Or.inr (slot_ne (Or.inr (tw hw (i := 132) rfl)) (Or.inl (tw hw (i := 143) rfl)) (by decide) (t := (.object "java/util/BitSet")) (t' := .long) (by decide) (by decide)))).keep Kc75 (ninS noabf (ninS noaof nin0))).other W79 (Or.inr (slot_ne (Or.inr (tw hw (i := 132) rfl)) (Or.inl (tw hw (i := 143) rfl)) (by decide) (t := (.object "java/util/BitSet")) (t' := .long) (by decide) (by decide)))).keep Kc113 (ninS noabf (ninS noaof nin0))).other W117 (Or.inr (slot_ne (Or.inr (tw hw (i := 132) rfl)) (Or.inl (tw hw (i := 143) rfl)) (by decide) (t := (.object "java/util/BitSet")) (t' := .long) (by decide) (by decide))))
                      have f192 : Old Z n0 h117 := ((f104.keep Kc113 (allS gf (allS go all0))).wr W117 g_)
                      have f193 : Fld Z h117 oa "evenkeel/client/Window" "committedAhead" "Ljava/util/List;" uf_oa_committedAhead := (((((((F_oa_committedAhead.other W4 (Or.inr (slot_ne (Or.inl (tw hw (i := 103) rfl)) (Or.inl (tw hw (i := 143) rfl)) (by decide) (t := (.object "java/util/List")) (t' := .long) (by decide) (by decide)))).keep Kc37 (ninS noabf (ninS noaof nin0))).other W41 (Or.inr (slot_ne (Or.inl (tw hw (i := 103) rfl)) (Or.inl (tw hw (i := 143) rfl)) (by decide) (t := (.object "java/util/List")) (t' := .long) (by decide) (by decide)))).keep Kc75 (ninS noabf (ninS noaof nin0))).other W79 (Or.inr (slot_ne (Or.inl (tw hw (i := 103) rfl)) (Or.inl (tw hw (i := 143) rfl)) (by decide) (t := (.object "java/util/List")) (t' := .long) (by decide) (by decide)))).keep Kc113 (ninS noabf (ninS noaof nin0))).other W117 (Or.inr (slot_ne (Or.inl (tw hw (i := 103) rfl)) (Or.inl (tw hw (i := 143) rfl)) (by decide) (t := (.object "java/util/List")) (t' := .long) (by decide) (by decide))))
                      have f194 : Fld Z h117 oa "evenkeel/client/Window" "consumed" "Ljava/util/List;" uf_oa_consumed := (((((((F_oa_consumed.other W4 (Or.inr (slot_ne (Or.inr (tw hw (i := 152) rfl)) (Or.inl (tw hw (i := 143) rfl)) (by decide) (t := (.object "java/util/List")) (t' := .long) (by decide) (by decide)))).keep Kc37 (ninS noabf (ninS noaof nin0))).other W41 (Or.inr (slot_ne (Or.inr (tw hw (i := 152) rfl)) (Or.inl (tw hw (i := 143) rfl)) (by decide) (t := (.object "java/util/List")) (t' := .long) (by decide) (by decide)))).keep Kc75 (ninS noabf (ninS noaof nin0))).other W79 (Or.inr (slot_ne (Or.inr (tw hw (i := 152) rfl)) (Or.inl (tw hw (i := 143) rfl)) (by decide) (t := (.object "java/util/List")) (t' := .long) (by decide) (by decide)))).keep Kc113 (ninS noabf (ninS noaof nin0))).other W117 (Or.inr (slot_ne (Or.inr (tw hw (i := 152) rfl)) (Or.inl (tw hw (i := 143) rfl)) (by decide) (t := (.object "java/util/List")) (t' := .long) (by decide) (by decide))))
                      have f195 : Fld Z h117 oa "evenkeel/client/Window" "consumedAt" "I" uf_oa_consumedAt := (((((((F_oa_consumedAt.other W4 (Or.inr (slot_ne (Or.inl (tw hw (i := 174) rfl)) (Or.inl (tw hw (i := 143) rfl)) (by decide) (t := .int) (t' := .long) (by decide) (by decide)))).keep Kc37 (ninS noabf (ninS noaof nin0))).other W41 (Or.inr (slot_ne (Or.inl (tw hw (i := 174) rfl)) (Or.inl (tw hw (i := 143) rfl)) (by decide) (t := .int) (t' := .long) (by decide) (by decide)))).keep Kc75 (ninS noabf (ninS noaof nin0))).other W79 (Or.inr (slot_ne (Or.inl (tw hw (i := 174) rfl)) (Or.inl (tw hw (i := 143) rfl)) (by decide) (t := .int) (t' := .long) (by decide) (by decide)))).keep Kc113 (ninS noabf (ninS noaof nin0))).other W117 (Or.inr (slot_ne (Or.inl (tw hw (i := 174) rfl)) (Or.inl (tw hw (i := 143) rfl)) (by decide) (t := .int) (t' := .long) (by decide) (by decide))))
                      have f196 : Fld Z h117 oa "evenkeel/client/Window" "committedFailures" "Ljava/util/List;" uf_oa_committedFailures := (((((((F_oa_committedFailures.other W4 (Or.inr (slot_ne (Or.inl (tw hw (i := 159) rfl)) (Or.inl (tw hw (i := 143) rfl)) (by decide) (t := (.object "java/util/List")) (t' := .long) (by decide) (by decide)))).keep Kc37 (ninS noabf (ninS noaof nin0))).other W41 (Or.inr (slot_ne (Or.inl (tw hw (i := 159) rfl)) (Or.inl (tw hw (i := 143) rfl)) (by decide) (t := (.object "java/util/List")) (t' := .long) (by decide) (by decide)))).keep Kc75 (ninS noabf (ninS noaof nin0))).other W79 (Or.inr (slot_ne (Or.inl (tw hw (i := 159) rfl)) (Or.inl (tw hw (i := 143) rfl)) (by decide) (t := (.object "java/util/List")) (t' := .long) (by decide) (by decide)))).keep Kc113 (ninS noabf (ninS noaof nin0))).other W117 (Or.inr (slot_ne (Or.inl (tw hw (i := 159) rfl)) (Or.inl (tw hw (i := 143) rfl)) (by decide) (t := (.object "java/util/List")) (t' := .long) (by decide) (by decide))))
                      have hq := True.intro
                      obtain rfl : ((((qo + (1 : Int64)) + (1 : Int64)) + (1 : Int64)) + (1 : Int64)) = v127 := by simp only [hv127, if_pos hc38_9, if_neg hb48_15, if_neg hb66_29, if_pos hc38_47, if_neg hb48_53, if_neg hb66_67, if_pos hc38_85, if_neg hb48_91, if_neg hb66_105]
                      exact ⟨_, _, _, X120, N117, e120, K117, f185, f117w, f121, f186, f187, f188, f189, f190, f191, f192, f193, f194, f195, f196, fun t k => pre122 t k⟩
                · have pre123 : ∀ t, own_K p e below m T82 109 #[rv oa, lv qo, .second] [] t → G t := by
                    intro t k
                    refine pre84 t ?_
                    show own_K p e below m T82 38 #[rv oa, lv qo, .second] [(.int (lcmpW (((qo + (1 : Int64)) + (1 : Int64)) + (1 : Int64)) qn))] _
                    refine XS.ifYes X82.here hx rfl (pc0 := 38) (pc' := 109) rfl (hb hby d24_38) rfl ((if0 _ _).trans (flt (mt (lw_lt _ _).mp hc38_85)).2.1) (by decide) (by decide) ?_
                    exact k
                  have f197 : Exa Z h79 oa "evenkeel/client/Window" := (f80.wr W79)
                  have f198 : Fld Z h79 oa "evenkeel/client/Window" "restart" "J" (.long qr) := (((((Fre.other W4 (Or.inr (slot_ne (Or.inl (tw hw (i := 130) rfl)) (Or.inl (tw hw (i := 143) rfl)) (by decide) (t := .long) (t' := .long) (by decide) (by decide)))).keep Kc37 (ninS noabf (ninS noaof nin0))).other W41 (Or.inr (slot_ne (Or.inl (tw hw (i := 130) rfl)) (Or.inl (tw hw (i := 143) rfl)) (by decide) (t := .long) (t' := .long) (by decide) (by decide)))).keep Kc75 (ninS noabf (ninS noaof nin0))).other W79 (Or.inr (slot_ne (Or.inl (tw hw (i := 130) rfl)) (Or.inl (tw hw (i := 143) rfl)) (by decide) (t := .long) (t' := .long) (by decide) (by decide))))
                  have f199 : Fld Z h79 oa "evenkeel/client/Window" "committed" "J" (.long qc) := (((((Fco.other W4 (Or.inr (slot_ne (Or.inl (tw hw (i := 141) rfl)) (Or.inl (tw hw (i := 143) rfl)) (by decide) (t := .long) (t' := .long) (by decide) (by decide)))).keep Kc37 (ninS noabf (ninS noaof nin0))).other W41 (Or.inr (slot_ne (Or.inl (tw hw (i := 141) rfl)) (Or.inl (tw hw (i := 143) rfl)) (by decide) (t := .long) (t' := .long) (by decide) (by decide)))).keep Kc75 (ninS noabf (ninS noaof nin0))).other W79 (Or.inr (slot_ne (Or.inl (tw hw (i := 141) rfl)) (Or.inl (tw hw (i := 143) rfl)) (by decide) (t := .long) (t' := .long) (by decide) (by decide))))
                  have f200 : Fld Z h79 oa "evenkeel/client/Window" "failing" "Ljava/util/TreeMap;" .null := (((((Ffa.other W4 (Or.inr (slot_ne (Or.inl (tw hw (i := 196) rfl)) (Or.inl (tw hw (i := 143) rfl)) (by decide) (t := (.object "java/util/TreeMap")) (t' := .long) (by decide) (by decide)))).keep Kc37 (ninS noabf (ninS noaof nin0))).other W41 (Or.inr (slot_ne (Or.inl (tw hw (i := 196) rfl)) (Or.inl (tw hw (i := 143) rfl)) (by decide) (t := (.object "java/util/TreeMap")) (t' := .long) (by decide) (by decide)))).keep Kc75 (ninS noabf (ninS noaof nin0))).other W79 (Or.inr (slot_ne (Or.inl (tw hw (i := 196) rfl)) (Or.inl (tw hw (i := 143) rfl)) (by decide) (t := (.object "java/util/TreeMap")) (t' := .long) (by decide) (by decide))))
                  have f201 : Fld Z h79 oa "evenkeel/client/Window" "size" "I" (.int xs) := ((f61.keep Kc75 (ninS noabf (ninS noaof nin0))).other W79 (Or.inr (slot_ne (Or.inr (tw hw (i := 134) rfl)) (Or.inl (tw hw (i := 143) rfl)) (by decide) (t := .int) (t' := .long) (by decide) (by decide))))
                  have f202 : Fld Z h79 oa "evenkeel/client/Window" "finished" "Ljava/util/BitSet;" (.ref bf) := ((f49.keep Kc75 (ninS noabf (ninS noaof nin0))).other W79 (Or.inr (slot_ne (Or.inr (tw hw (i := 127) rfl)) (Or.inl (tw hw (i := 143) rfl)) (by decide) (t := (.object "java/util/BitSet")) (t' := .long) (by decide) (by decide))))
                  have f203 : Fld Z h79 oa "evenkeel/client/Window" "left" "Ljava/util/BitSet;" (.ref bl) := (((((Fl.other W4 (Or.inr (slot_ne (Or.inr (tw hw (i := 132) rfl)) (Or.inl (tw hw (i := 143) rfl)) (by decide) (t := (.object "java/util/BitSet")) (t' := .long) (by decide) (by decide)))).keep Kc37 (ninS noabf (ninS noaof nin0))).other W41 (Or.inr (slot_ne (Or.inr (tw hw (i := 132) rfl)) (Or.inl (tw hw (i := 143) rfl)) (by decide) (t := (.object "java/util/BitSet")) (t' := .long) (by decide) (by decide)))).keep Kc75 (ninS noabf (ninS noaof nin0))).other W79 (Or.inr (slot_ne (Or.inr (tw hw (i := 132) rfl)) (Or.inl (tw hw (i := 143) rfl)) (by decide) (t := (.object "java/util/BitSet")) (t' := .long) (by decide) (by decide))))
                  have f204 : Old Z n0 h79 := ((f66.keep Kc75 (allS gf (allS go all0))).wr W79 g_)
                  have f205 : Fld Z h79 oa "evenkeel/client/Window" "committedAhead" "Ljava/util/List;" uf_oa_committedAhead := (((((F_oa_committedAhead.other W4 (Or.inr (slot_ne (Or.inl (tw hw (i := 103) rfl)) (Or.inl (tw hw (i := 143) rfl)) (by decide) (t := (.object "java/util/List")) (t' := .long) (by decide) (by decide)))).keep Kc37 (ninS noabf (ninS noaof nin0))).other W41 (Or.inr (slot_ne (Or.inl (tw hw (i := 103) rfl)) (Or.inl (tw hw (i := 143) rfl)) (by decide) (t := (.object "java/util/List")) (t' := .long) (by decide) (by decide)))).keep Kc75 (ninS noabf (ninS noaof nin0))).other W79 (Or.inr (slot_ne (Or.inl (tw hw (i := 103) rfl)) (Or.inl (tw hw (i := 143) rfl)) (by decide) (t := (.object "java/util/List")) (t' := .long) (by decide) (by decide))))
                  have f206 : Fld Z h79 oa "evenkeel/client/Window" "consumed" "Ljava/util/List;" uf_oa_consumed := (((((F_oa_consumed.other W4 (Or.inr (slot_ne (Or.inr (tw hw (i := 152) rfl)) (Or.inl (tw hw (i := 143) rfl)) (by decide) (t := (.object "java/util/List")) (t' := .long) (by decide) (by decide)))).keep Kc37 (ninS noabf (ninS noaof nin0))).other W41 (Or.inr (slot_ne (Or.inr (tw hw (i := 152) rfl)) (Or.inl (tw hw (i := 143) rfl)) (by decide) (t := (.object "java/util/List")) (t' := .long) (by decide) (by decide)))).keep Kc75 (ninS noabf (ninS noaof nin0))).other W79 (Or.inr (slot_ne (Or.inr (tw hw (i := 152) rfl)) (Or.inl (tw hw (i := 143) rfl)) (by decide) (t := (.object "java/util/List")) (t' := .long) (by decide) (by decide))))
                  have f207 : Fld Z h79 oa "evenkeel/client/Window" "consumedAt" "I" uf_oa_consumedAt := (((((F_oa_consumedAt.other W4 (Or.inr (slot_ne (Or.inl (tw hw (i := 174) rfl)) (Or.inl (tw hw (i := 143) rfl)) (by decide) (t := .int) (t' := .long) (by decide) (by decide)))).keep Kc37 (ninS noabf (ninS noaof nin0))).other W41 (Or.inr (slot_ne (Or.inl (tw hw (i := 174) rfl)) (Or.inl (tw hw (i := 143) rfl)) (by decide) (t := .int) (t' := .long) (by decide) (by decide)))).keep Kc75 (ninS noabf (ninS noaof nin0))).other W79 (Or.inr (slot_ne (Or.inl (tw hw (i := 174) rfl)) (Or.inl (tw hw (i := 143) rfl)) (by decide) (t := .int) (t' := .long) (by decide) (by decide))))
                  have f208 : Fld Z h79 oa "evenkeel/client/Window" "committedFailures" "Ljava/util/List;" uf_oa_committedFailures := (((((F_oa_committedFailures.other W4 (Or.inr (slot_ne (Or.inl (tw hw (i := 159) rfl)) (Or.inl (tw hw (i := 143) rfl)) (by decide) (t := (.object "java/util/List")) (t' := .long) (by decide) (by decide)))).keep Kc37 (ninS noabf (ninS noaof nin0))).other W41 (Or.inr (slot_ne (Or.inl (tw hw (i := 159) rfl)) (Or.inl (tw hw (i := 143) rfl)) (by decide) (t := (.object "java/util/List")) (t' := .long) (by decide) (by decide)))).keep Kc75 (ninS noabf (ninS noaof nin0))).other W79 (Or.inr (slot_ne (Or.inl (tw hw (i := 159) rfl)) (Or.inl (tw hw (i := 143) rfl)) (by decide) (t := (.object "java/util/List")) (t' := .long) (by decide) (by decide))))
                  have hq := True.intro
                  obtain rfl : (((qo + (1 : Int64)) + (1 : Int64)) + (1 : Int64)) = v127 := by simp only [hv127, if_pos hc38_9, if_neg hb48_15, if_neg hb66_29, if_pos hc38_47, if_neg hb48_53, if_neg hb66_67, if_neg hc38_85]
                  exact ⟨_, _, _, X82, N79, e82, K79, f197, f79w, f83, f198, f199, f200, f201, f202, f203, f204, f205, f206, f207, f208, fun t k => pre123 t k⟩
          · have pre124 : ∀ t, own_K p e below m T44 109 #[rv oa, lv qo, .second] [] t → G t := by
              intro t k
              refine pre46 t ?_
              show own_K p e below m T44 38 #[rv oa, lv qo, .second] [(.int (lcmpW ((qo + (1 : Int64)) + (1 : Int64)) qn))] _
              refine XS.ifYes X44.here hx rfl (pc0 := 38) (pc' := 109) rfl (hb hby d24_38) rfl ((if0 _ _).trans (flt (mt (lw_lt _ _).mp hc38_47)).2.1) (by decide) (by decide) ?_
              exact k
            have f209 : Exa Z h41 oa "evenkeel/client/Window" := (f42.wr W41)
            have f210 : Fld Z h41 oa "evenkeel/client/Window" "restart" "J" (.long qr) := (((Fre.other W4 (Or.inr (slot_ne (Or.inl (tw hw (i := 130) rfl)) (Or.inl (tw hw (i := 143) rfl)) (by decide) (t := .long) (t' := .long) (by decide) (by decide)))).keep Kc37 (ninS noabf (ninS noaof nin0))).other W41 (Or.inr (slot_ne (Or.inl (tw hw (i := 130) rfl)) (Or.inl (tw hw (i := 143) rfl)) (by decide) (t := .long) (t' := .long) (by decide) (by decide))))
            have f211 : Fld Z h41 oa "evenkeel/client/Window" "committed" "J" (.long qc) := (((Fco.other W4 (Or.inr (slot_ne (Or.inl (tw hw (i := 141) rfl)) (Or.inl (tw hw (i := 143) rfl)) (by decide) (t := .long) (t' := .long) (by decide) (by decide)))).keep Kc37 (ninS noabf (ninS noaof nin0))).other W41 (Or.inr (slot_ne (Or.inl (tw hw (i := 141) rfl)) (Or.inl (tw hw (i := 143) rfl)) (by decide) (t := .long) (t' := .long) (by decide) (by decide))))
            have f212 : Fld Z h41 oa "evenkeel/client/Window" "failing" "Ljava/util/TreeMap;" .null := (((Ffa.other W4 (Or.inr (slot_ne (Or.inl (tw hw (i := 196) rfl)) (Or.inl (tw hw (i := 143) rfl)) (by decide) (t := (.object "java/util/TreeMap")) (t' := .long) (by decide) (by decide)))).keep Kc37 (ninS noabf (ninS noaof nin0))).other W41 (Or.inr (slot_ne (Or.inl (tw hw (i := 196) rfl)) (Or.inl (tw hw (i := 143) rfl)) (by decide) (t := (.object "java/util/TreeMap")) (t' := .long) (by decide) (by decide))))
            have f213 : Fld Z h41 oa "evenkeel/client/Window" "size" "I" (.int xs) := ((f23.keep Kc37 (ninS noabf (ninS noaof nin0))).other W41 (Or.inr (slot_ne (Or.inr (tw hw (i := 134) rfl)) (Or.inl (tw hw (i := 143) rfl)) (by decide) (t := .int) (t' := .long) (by decide) (by decide))))
            have f214 : Fld Z h41 oa "evenkeel/client/Window" "finished" "Ljava/util/BitSet;" (.ref bf) := ((f11.keep Kc37 (ninS noabf (ninS noaof nin0))).other W41 (Or.inr (slot_ne (Or.inr (tw hw (i := 127) rfl)) (Or.inl (tw hw (i := 143) rfl)) (by decide) (t := (.object "java/util/BitSet")) (t' := .long) (by decide) (by decide))))
            have f215 : Fld Z h41 oa "evenkeel/client/Window" "left" "Ljava/util/BitSet;" (.ref bl) := (((Fl.other W4 (Or.inr (slot_ne (Or.inr (tw hw (i := 132) rfl)) (Or.inl (tw hw (i := 143) rfl)) (by decide) (t := (.object "java/util/BitSet")) (t' := .long) (by decide) (by decide)))).keep Kc37 (ninS noabf (ninS noaof nin0))).other W41 (Or.inr (slot_ne (Or.inr (tw hw (i := 132) rfl)) (Or.inl (tw hw (i := 143) rfl)) (by decide) (t := (.object "java/util/BitSet")) (t' := .long) (by decide) (by decide))))
            have f216 : Old Z n0 h41 := ((f28.keep Kc37 (allS gf (allS go all0))).wr W41 g_)
            have f217 : Fld Z h41 oa "evenkeel/client/Window" "committedAhead" "Ljava/util/List;" uf_oa_committedAhead := (((F_oa_committedAhead.other W4 (Or.inr (slot_ne (Or.inl (tw hw (i := 103) rfl)) (Or.inl (tw hw (i := 143) rfl)) (by decide) (t := (.object "java/util/List")) (t' := .long) (by decide) (by decide)))).keep Kc37 (ninS noabf (ninS noaof nin0))).other W41 (Or.inr (slot_ne (Or.inl (tw hw (i := 103) rfl)) (Or.inl (tw hw (i := 143) rfl)) (by decide) (t := (.object "java/util/List")) (t' := .long) (by decide) (by decide))))
            have f218 : Fld Z h41 oa "evenkeel/client/Window" "consumed" "Ljava/util/List;" uf_oa_consumed := (((F_oa_consumed.other W4 (Or.inr (slot_ne (Or.inr (tw hw (i := 152) rfl)) (Or.inl (tw hw (i := 143) rfl)) (by decide) (t := (.object "java/util/List")) (t' := .long) (by decide) (by decide)))).keep Kc37 (ninS noabf (ninS noaof nin0))).other W41 (Or.inr (slot_ne (Or.inr (tw hw (i := 152) rfl)) (Or.inl (tw hw (i := 143) rfl)) (by decide) (t := (.object "java/util/List")) (t' := .long) (by decide) (by decide))))
            have f219 : Fld Z h41 oa "evenkeel/client/Window" "consumedAt" "I" uf_oa_consumedAt := (((F_oa_consumedAt.other W4 (Or.inr (slot_ne (Or.inl (tw hw (i := 174) rfl)) (Or.inl (tw hw (i := 143) rfl)) (by decide) (t := .int) (t' := .long) (by decide) (by decide)))).keep Kc37 (ninS noabf (ninS noaof nin0))).other W41 (Or.inr (slot_ne (Or.inl (tw hw (i := 174) rfl)) (Or.inl (tw hw (i := 143) rfl)) (by decide) (t := .int) (t' := .long) (by decide) (by decide))))
            have f220 : Fld Z h41 oa "evenkeel/client/Window" "committedFailures" "Ljava/util/List;" uf_oa_committedFailures := (((F_oa_committedFailures.other W4 (Or.inr (slot_ne (Or.inl (tw hw (i := 159) rfl)) (Or.inl (tw hw (i := 143) rfl)) (by decide) (t := (.object "java/util/List")) (t' := .long) (by decide) (by decide)))).keep Kc37 (ninS noabf (ninS noaof nin0))).other W41 (Or.inr (slot_ne (Or.inl (tw hw (i := 159) rfl)) (Or.inl (tw hw (i := 143) rfl)) (by decide) (t := (.object "java/util/List")) (t' := .long) (by decide) (by decide))))
            have hq := True.intro
            obtain rfl : ((qo + (1 : Int64)) + (1 : Int64)) = v127 := by simp only [hv127, if_pos hc38_9, if_neg hb48_15, if_neg hb66_29, if_neg hc38_47]
            exact ⟨_, _, _, X44, N41, e44, K41, f209, f41w, f45, f210, f211, f212, f213, f214, f215, f216, f217, f218, f219, f220, fun t k => pre124 t k⟩
    · have pre125 : ∀ t, own_K p e below m T6 109 #[rv oa, lv qo, .second] [] t → G t := by
        intro t k
        refine pre8 t ?_
        show own_K p e below m T6 38 #[rv oa, lv qo, .second] [(.int (lcmpW (qo + (1 : Int64)) qn))] _
        refine XS.ifYes X6.here hx rfl (pc0 := 38) (pc' := 109) rfl (hb hby d24_38) rfl ((if0 _ _).trans (flt (mt (lw_lt _ _).mp hc38_9)).2.1) (by decide) (by decide) ?_
        exact k
      have f221 : Exa Z h4 oa "evenkeel/client/Window" := (E_.wr W4)
      have f222 : Fld Z h4 oa "evenkeel/client/Window" "restart" "J" (.long qr) := (Fre.other W4 (Or.inr (slot_ne (Or.inl (tw hw (i := 130) rfl)) (Or.inl (tw hw (i := 143) rfl)) (by decide) (t := .long) (t' := .long) (by decide) (by decide))))
      have f223 : Fld Z h4 oa "evenkeel/client/Window" "committed" "J" (.long qc) := (Fco.other W4 (Or.inr (slot_ne (Or.inl (tw hw (i := 141) rfl)) (Or.inl (tw hw (i := 143) rfl)) (by decide) (t := .long) (t' := .long) (by decide) (by decide))))
      have f224 : Fld Z h4 oa "evenkeel/client/Window" "failing" "Ljava/util/TreeMap;" .null := (Ffa.other W4 (Or.inr (slot_ne (Or.inl (tw hw (i := 196) rfl)) (Or.inl (tw hw (i := 143) rfl)) (by decide) (t := (.object "java/util/TreeMap")) (t' := .long) (by decide) (by decide))))
      have f225 : Fld Z h4 oa "evenkeel/client/Window" "size" "I" (.int xs) := (Fs.other W4 (Or.inr (slot_ne (Or.inr (tw hw (i := 134) rfl)) (Or.inl (tw hw (i := 143) rfl)) (by decide) (t := .int) (t' := .long) (by decide) (by decide))))
      have f226 : Fld Z h4 oa "evenkeel/client/Window" "finished" "Ljava/util/BitSet;" (.ref bf) := (Ff.other W4 (Or.inr (slot_ne (Or.inr (tw hw (i := 127) rfl)) (Or.inl (tw hw (i := 143) rfl)) (by decide) (t := (.object "java/util/BitSet")) (t' := .long) (by decide) (by decide))))
      have f227 : Fld Z h4 oa "evenkeel/client/Window" "left" "Ljava/util/BitSet;" (.ref bl) := (Fl.other W4 (Or.inr (slot_ne (Or.inr (tw hw (i := 132) rfl)) (Or.inl (tw hw (i := 143) rfl)) (by decide) (t := (.object "java/util/BitSet")) (t' := .long) (by decide) (by decide))))
      have f228 : Old Z n0 h4 := (O_.wr W4 g_)
      have f229 : Fld Z h4 oa "evenkeel/client/Window" "committedAhead" "Ljava/util/List;" uf_oa_committedAhead := (F_oa_committedAhead.other W4 (Or.inr (slot_ne (Or.inl (tw hw (i := 103) rfl)) (Or.inl (tw hw (i := 143) rfl)) (by decide) (t := (.object "java/util/List")) (t' := .long) (by decide) (by decide))))
      have f230 : Fld Z h4 oa "evenkeel/client/Window" "consumed" "Ljava/util/List;" uf_oa_consumed := (F_oa_consumed.other W4 (Or.inr (slot_ne (Or.inr (tw hw (i := 152) rfl)) (Or.inl (tw hw (i := 143) rfl)) (by decide) (t := (.object "java/util/List")) (t' := .long) (by decide) (by decide))))
      have f231 : Fld Z h4 oa "evenkeel/client/Window" "consumedAt" "I" uf_oa_consumedAt := (F_oa_consumedAt.other W4 (Or.inr (slot_ne (Or.inl (tw hw (i := 174) rfl)) (Or.inl (tw hw (i := 143) rfl)) (by decide) (t := .int) (t' := .long) (by decide) (by decide))))
      have f232 : Fld Z h4 oa "evenkeel/client/Window" "committedFailures" "Ljava/util/List;" uf_oa_committedFailures := (F_oa_committedFailures.other W4 (Or.inr (slot_ne (Or.inl (tw hw (i := 159) rfl)) (Or.inl (tw hw (i := 143) rfl)) (by decide) (t := (.object "java/util/List")) (t' := .long) (by decide) (by decide))))
      have hq := True.intro
      obtain rfl : (qo + (1 : Int64)) = v127 := by simp only [hv127, if_neg hc38_9]
      exact ⟨_, _, _, X6, N4, e6, K4, f221, f4w, f7, f222, f223, f224, f225, f226, f227, f228, f229, f230, f231, f232, fun t k => pre125 t k⟩
  have hR : v127 = (own_run qo qn xw xs) := hv127
  obtain ⟨T233, X233, e233, st233⟩ := getF X126 hx hZ hown (host := "") (Or.inl (tw hw (i := 195) rfl)) Via.refl e126 j126_5 (g := (mkF m 110 #[rv oa, lv qo, .second] [(.ref oa)])) rfl rfl (hb hby d24_110)
  obtain ⟨T234, X234, e234, st234⟩ := getF X233 hx hZ hown (host := "") (Or.inl (tw hw (i := 129) rfl)) Via.refl e233 j126_3 (g := (mkF m 146 #[rv oa, lv qo, .second] [(.ref oa)])) rfl rfl (hb hby d24_146)
  have pre235 : ∀ t, own_K p e below m T234 151 #[rv oa, lv qo, .second] [(.int (lcmpW qr (0 : Int64)))] t → G t := by
    intro t k
    refine pre126 t ?_
    show own_K p e below m T126 109 #[rv oa, lv qo, .second] [] _
    refine XS.aloadN X126.here hx rfl (hb hby d24_109) rfl rfl ?_
    show own_K p e below m T126 110 #[rv oa, lv qo, .second] [(.ref oa)] _
    refine st233 _ ?_
    show own_K p e below m T233 113 #[rv oa, lv qo, .second] [.null] _
    refine XS.ifnullYes X233.here hx rfl (pc0 := 113) (pc' := 145) rfl (hb hby d24_113) rfl (by decide) (by decide) ?_
    show own_K p e below m T233 145 #[rv oa, lv qo, .second] [] _
    refine XS.aloadN X233.here hx rfl (hb hby d24_145) rfl rfl ?_
    show own_K p e below m T233 146 #[rv oa, lv qo, .second] [(.ref oa)] _
    refine st234 _ ?_
    show own_K p e below m T234 149 #[rv oa, lv qo, .second] [(.long qr)] _
    refine XS.lconst X234.here hx rfl (hb hby d24_149) ?_
    show own_K p e below m T234 150 #[rv oa, lv qo, .second] [(.long (0 : Int64)), (.long qr)] _
    refine XS.lcmp X234.here hx rfl (hb hby d24_150) rfl ?_
    exact k
  by_cases hc151_236 : qr < (0 : Int64)
  · have pre237 : ∀ t, own_K p e below m T234 164 #[rv oa, lv qo, .second] [(.int (1 : Int32))] t → G t := by
      intro t k
      refine pre235 t ?_
      show own_K p e below m T234 151 #[rv oa, lv qo, .second] [(.int (lcmpW qr (0 : Int64)))] _
      refine XS.ifYes X234.here hx rfl (pc0 := 151) (pc' := 163) rfl (hb hby d24_151) rfl ((if0 _ _).trans (tlt ((lw_lt _ _).mpr hc151_236)).1) (by decide) (by decide) ?_
      show own_K p e below m T234 163 #[rv oa, lv qo, .second] [] _
      refine XS.iconst X234.here hx rfl (hb hby d24_163) ?_
      exact k
    obtain ⟨fs, hr, hrun, hended, hW, hsame⟩ := X234.leave (v := some (.int (1 : Int32))) (fun h => by rw [Bd.returns] at h; cases h)
    refine ⟨_, _, hG _ (pre237 _ ?_), hrun, hended, _, _, rfl, ?_, ⟨_, rfl⟩, hW, hsame.mono (by decide) (by decide)⟩
    · show own_K p e below m T234 164 #[rv oa, lv qo, .second] [(.int (1 : Int32))] _
      exact retN X234 hx (t := .boolean) Bd.returns (by simp) (hb hby d24_164) hr
    · show Q24c Z oa qo qn qr qc xs ust xw bf of kf bl ol kl el ea kE uf_oa_committedAhead uf_oa_consumed uf_oa_consumedAt uf_oa_committedFailures h0 n0 _ T234.heap _
      rw [e234]
      exact ⟨rfl, N126, K126, (by rw [← hR]; simp only [if_pos hc151_236]; exact j126_1), (by rw [← hR]; simp only [if_pos hc151_236]; exact j126_2), (by rw [← hR]; simp only [if_pos hc151_236]; exact j126_3), (by rw [← hR]; simp only [if_pos hc151_236]; exact j126_4), j126_6, j126_10, j126_7, j126_11, j126_12, j126_8, j126_5, j126_13⟩
  · obtain ⟨T238, X238, e238, st238⟩ := getF X234 hx hZ hown (host := "") (Or.inl (tw hw (i := 129) rfl)) Via.refl e234 j126_3 (g := (mkF m 156 #[rv oa, lv qo, .second] [(.ref oa), (.ref oa)])) rfl rfl (hb hby d24_156)
    obtain ⟨cq239, kq239, q239a, q239b, q239c⟩ := isOf hZ e238 j126_0
    obtain ⟨_, _, ⟨T239, L239, k239, n239⟩, -, X239, ⟨Lc239, hQ239, l239, y239, z239⟩, st239⟩ := X238.virtualBack hx (y := (⟨"evenkeel/client/Window", "skip", "(J)Z"⟩ : MethodName)) (z := (⟨"evenkeel/client/Window", "skip", "(J)Z"⟩ : MethodName)) hown (mvT hZ (tw hw (i := 242) rfl)) (mvT hZ (tw hw (i := 187) rfl)) (notFace_of_selects (args := #[]) (mvT hZ (tw hw (i := 189) rfl))) (mvT hZ (tw hw (i := 189) rfl)) (mvT hZ (tw hw (i := 188) rfl)) (by decide) (backOf (W := 0) (rm22 l Z a0 hw [] oa qr qc v127 qn qr (.int xs) uf_oa_committedAhead (.ref bf) uf_oa_consumed uf_oa_consumedAt (.ref bl) uf_oa_committedFailures h126 n0 (Nat.le_trans Z0 K126.1) j126_0 j126_4 j126_1 j126_2 j126_3 j126_5 g_ j126_6 j126_10 j126_7 j126_11 j126_12 j126_8 j126_13) hZ (tw hw (i := 190) rfl) (tw hw (i := 4) rfl) (by decide) (by decide)) q239a q239c (g := (mkF m 159 #[rv oa, lv qo, .second] [(.long qr), (.ref oa)])) rfl (by rw [hml]; rfl) (Steps.refl _) (argsL := [(.long qr)]) (rest := []) (lenOf pd_14 rfl) rfl (by show 2 * 0 + _ ≤ _; exact Nat.le_of_eq rfl) (hb hby d24_159) (fun _ _ => ⟨rfl, e238, (by decide : 0 + 0 ≤ _), (by decide : 0 + 0 ≤ _)⟩)
    dsimp only [Pt.U, Pt.locs, Pt.cells, Pt.slots] at X239 l239 y239 z239 st239 hQ239
    subst l239 y239 z239
    obtain ⟨rfl, Nq239, Kc239, Fc2_239, Fu2_239, Fn2_239, Fr2_239, Ff2_239, P_oa_size_239, P_oa_committedAhead_239, P_oa_finished_239, P_oa_consumed_239, P_oa_consumedAt_239, P_oa_left_239, P_oa_committedFailures_239⟩ := hQ239
    have N239 := Fr.app N126 Nq239
    have K239 : Keep h0 T239.heap [oa, bf, of] := K126.trans Kc239 (allS (Or.inl (List.mem_of_getElem? (i := 0) rfl)) all0)
    have sz239 : n0 ≤ T239.heap.size := Nat.le_trans (Nat.le_trans Z0 K126.1) Kc239.1
    have pre240 : ∀ t, own_K p e below m T239 164 #[rv oa, lv qo, .second] [(.int (1 : Int32))] t → G t := by
      intro t k
      refine pre235 t ?_
      show own_K p e below m T234 151 #[rv oa, lv qo, .second] [(.int (lcmpW qr (0 : Int64)))] _
      refine XS.ifNo X234.here hx rfl (hb hby d24_151) rfl ((if0 _ _).trans (flt (mt (lw_lt _ _).mp hc151_236)).1) ?_
      show own_K p e below m T234 154 #[rv oa, lv qo, .second] [] _
      refine XS.aloadN X234.here hx rfl (hb hby d24_154) rfl rfl ?_
      show own_K p e below m T234 155 #[rv oa, lv qo, .second] [(.ref oa)] _
      refine XS.aloadN X234.here hx rfl (hb hby d24_155) rfl rfl ?_
      show own_K p e below m T234 156 #[rv oa, lv qo, .second] [(.ref oa), (.ref oa)] _
      refine st238 _ ?_
      show own_K p e below m T238 159 #[rv oa, lv qo, .second] [(.long qr), (.ref oa)] _
      refine st239.trans ?_
      show own_K p e below m T239 162 #[rv oa, lv qo, .second] [(.int (if v127 = qn then (1 : Int32) else (0 : Int32)))] _
      refine XS.pop X239.here hx rfl (hb hby d24_162) rfl rfl ?_
      show own_K p e below m T239 163 #[rv oa, lv qo, .second] [] _
      refine XS.iconst X239.here hx rfl (hb hby d24_163) ?_
      exact k
    obtain ⟨fs, hr, hrun, hended, hW, hsame⟩ := X239.leave (v := some (.int (1 : Int32))) (fun h => by rw [Bd.returns] at h; cases h)
    refine ⟨_, _, hG _ (pre240 _ ?_), hrun, hended, _, _, rfl, ?_, ⟨_, rfl⟩, hW, hsame.mono (by decide) (by decide)⟩
    · show own_K p e below m T239 164 #[rv oa, lv qo, .second] [(.int (1 : Int32))] _
      exact retN X239 hx (t := .boolean) Bd.returns (by simp) (hb hby d24_164) hr
    · show Q24c Z oa qo qn qr qc xs ust xw bf of kf bl ol kl el ea kE uf_oa_committedAhead uf_oa_consumed uf_oa_consumedAt uf_oa_committedFailures h0 n0 _ T239.heap _
      exact ⟨rfl, N239, K239, (by rw [← hR]; simp only [if_neg hc151_236]; exact Fu2_239), (by rw [← hR]; simp only [if_neg hc151_236]; exact Fn2_239), (by rw [← hR]; simp only [if_neg hc151_236]; exact Fr2_239), (by rw [← hR]; simp only [if_neg hc151_236]; exact Fc2_239), P_oa_size_239, P_oa_committedAhead_239, P_oa_finished_239, P_oa_consumed_239, P_oa_consumedAt_239, P_oa_left_239, Ff2_239, P_oa_committedFailures_239⟩

theorem d21_0 : decode prog_141_method_4_code 0 = .ok (.aload_n 0, 1) := by decide +kernel
theorem d21_1 : decode prog_141_method_4_code 1 = .ok (.getfield 28, 3) := by decide +kernel
theorem d21_4 : decode prog_141_method_4_code 4 = .ok (.lconst 0, 1) := by decide +kernel
theorem d21_5 : decode prog_141_method_4_code 5 = .ok (.lcmp, 1) := by decide +kernel
theorem d21_6 : decode prog_141_method_4_code 6 = .ok (.ifCond .lt 7, 3) := by decide +kernel
theorem d21_13 : decode prog_141_method_4_code 13 = .ok (.aload_n 0, 1) := by decide +kernel
theorem d21_14 : decode prog_141_method_4_code 14 = .ok (.getfield 35, 3) := by decide +kernel
theorem d21_17 : decode prog_141_method_4_code 17 = .ok (.i2l, 1) := by decide +kernel
theorem d21_18 : decode prog_141_method_4_code 18 = .ok (.aload_n 0, 1) := by decide +kernel
theorem d21_19 : decode prog_141_method_4_code 19 = .ok (.getfield 51, 3) := by decide +kernel
theorem d21_22 : decode prog_141_method_4_code 22 = .ok (.aload_n 0, 1) := by decide +kernel
theorem d21_23 : decode prog_141_method_4_code 23 = .ok (.getfield 48, 3) := by decide +kernel
theorem d21_26 : decode prog_141_method_4_code 26 = .ok (.lsub, 1) := by decide +kernel
theorem d21_27 : decode prog_141_method_4_code 27 = .ok (.lsub, 1) := by decide +kernel
theorem d21_28 : decode prog_141_method_4_code 28 = .ok (.l2i, 1) := by decide +kernel
theorem d21_29 : decode prog_141_method_4_code 29 = .ok (.ireturn, 1) := by decide +kernel
theorem d21_9 : decode prog_141_method_4_code 9 = .ok (.iconst 0, 1) := by decide +kernel
theorem d21_10 : decode prog_141_method_4_code 10 = .ok (.goto 19, 3) := by decide +kernel
theorem ef_21 (m : MethodId) (x0 : Addr) : entryFrame m #[(.ref x0)] 1 = mkF m 0 #[rv x0] [] := by first | (simp [entryFrame, mkF, argsToLocals, Value.category]; done) | rfl
def Q21 (Z : State) (oa : Addr) (qr : Int64) (xs : Int32) (qn : Int64) (qu : Int64) (h0 : Heap) (n0 : Nat) (rv_ : Option Value) (h_ : Heap) (L_ : List Loc) : Prop := rv_ = some (.int (if qr < (0 : Int64) then (((xs.toInt64) - (qn - qu)).toInt32) else (0 : Int32))) ∧ Fr n0 L_ ∧ h_ = h0
set_option maxRecDepth 65536 in
set_option maxHeartbeats 40000000 in
theorem rm21 (l : Launch) (Z : State) (a0 : Array Value) (hw : ∀ d ∈ tables_1, d.before a0 Z = true) (ws : List Jvm.Cond) (oa : Addr) (qr : Int64) (xs : Int32) (qn : Int64) (qu : Int64) (h0 : Heap) (n0 : Nat) (Z0 : n0 ≤ h0.size) (Fr_ : Fld Z h0 oa "evenkeel/client/Window" "restart" "J" (.long qr)) (Fs : Fld Z h0 oa "evenkeel/client/Window" "size" "I" (.int xs)) (Fu : Fld Z h0 oa "evenkeel/client/Window" "unfinished" "J" (.long qu)) (Fn : Fld Z h0 oa "evenkeel/client/Window" "next" "J" (.long qn)) :
    MetFree l (⟨"evenkeel/client/Window", "roomOnceCommitted", "()I"⟩ : MethodName) (head1 (Jvm.Cond.code (⟨"evenkeel/client/Window", "roomOnceCommitted", "()I"⟩ : MethodName) prog_141_method_4_code 1 (some .int) :: ws) ({ frames := 0, cells := 0, slots := 0, locals := 0 } : Room)) (fun a U => a = #[(.ref oa)] ∧ Z.Warmed39 U.vm ∧ U.heap = h0) (fun _ _ _ _ _ => True) (fun _ U o U' => ∃ v L, o = .returned v ∧ Q21 Z oa qr xs qn qu h0 n0 v U'.heap L ∧ FrameEnd U o U' L ({ frames := 0, cells := 0, slots := 0, locals := 0 } : Room).cells ({ frames := 0, cells := 0, slots := 0, locals := 0 } : Room).slots) := by
  refine MetFree.of_bodySF (plainFor_of_name pn_8) hisR ?_
  intro p e s m args below meth c s₁ Bd hml0 hP hK
  obtain ⟨rfl, hZ, hh⟩ := hP
  have hx := Bd.exec
  have hby := Bd.bytes
  have hml : c.maxLocals = 1 := hml0
  have hown : s.vm.findClass "evenkeel/client/Window" = some m.cls := findClass_of_methodNamed Bd.named
  have hnm := (name_of_methodNamed Bd.named Bd.method).1
  have X0 : Stand p l e ({ frames := 0, cells := 0, slots := 0, locals := 0 } : Room) s m #[(.ref oa)] below meth c s₁ [] 0 0 := Stand.of_body Bd
  have e0 : s₁.heap = h0 := by rw [← hh, Bd.state]; rfl
  have N0 := Fr.nil n0
  obtain ⟨G, hG, pre0⟩ : ∃ G : State → Prop, (∀ t, G t → Steps p.tables e below (s₁.setTop (entryFrame m #[(.ref oa)] 1)) t) ∧ ∀ t, own_K p e below m s₁ 0 #[rv oa] [] t → G t := ⟨fun t => Steps p.tables e below (s₁.setTop (entryFrame m #[(.ref oa)] 1)) t, fun _ k => k, fun t k => castTop (ef_21 m oa) k⟩
  obtain ⟨T1, X1, e1, st1⟩ := getF X0 hx hZ hown (host := "") (Or.inl (tw hw (i := 129) rfl)) Via.refl e0 Fr_ (g := (mkF m 1 #[rv oa] [(.ref oa)])) rfl rfl (hb hby d21_1)
  have pre2 : ∀ t, own_K p e below m T1 6 #[rv oa] [(.int (lcmpW qr (0 : Int64)))] t → G t := by
    intro t k
    refine pre0 t ?_
    show own_K p e below m s₁ 0 #[rv oa] [] _
    refine XS.aloadN X0.here hx rfl (hb hby d21_0) rfl rfl ?_
    show own_K p e below m s₁ 1 #[rv oa] [(.ref oa)] _
    refine st1 _ ?_
    show own_K p e below m T1 4 #[rv oa] [(.long qr)] _
    refine XS.lconst X1.here hx rfl (hb hby d21_4) ?_
    show own_K p e below m T1 5 #[rv oa] [(.long (0 : Int64)), (.long qr)] _
    refine XS.lcmp X1.here hx rfl (hb hby d21_5) rfl ?_
    exact k
  by_cases hc6_3 : qr < (0 : Int64)
  · obtain ⟨T4, X4, e4, st4⟩ := getF X1 hx hZ hown (host := "") (Or.inl (tw hw (i := 133) rfl)) Via.refl e1 Fs (g := (mkF m 14 #[rv oa] [(.ref oa)])) rfl rfl (hb hby d21_14)
    obtain ⟨T5, X5, e5, st5⟩ := getF X4 hx hZ hown (host := "") (Or.inl (tw hw (i := 144) rfl)) Via.refl e4 Fn (g := (mkF m 19 #[rv oa] [(.ref oa), (.long (xs.toInt64))])) rfl rfl (hb hby d21_19)
    obtain ⟨T6, X6, e6, st6⟩ := getF X5 hx hZ hown (host := "") (Or.inl (tw hw (i := 142) rfl)) Via.refl e5 Fu (g := (mkF m 23 #[rv oa] [(.ref oa), (.long qn), (.long (xs.toInt64))])) rfl rfl (hb hby d21_23)
    have pre7 : ∀ t, own_K p e below m T6 29 #[rv oa] [(.int (((xs.toInt64) - (qn - qu)).toInt32))] t → G t := by
      intro t k
      refine pre2 t ?_
      show own_K p e below m T1 6 #[rv oa] [(.int (lcmpW qr (0 : Int64)))] _
      refine XS.ifYes X1.here hx rfl (pc0 := 6) (pc' := 13) rfl (hb hby d21_6) rfl ((if0 _ _).trans (tlt ((lw_lt _ _).mpr hc6_3)).1) (by decide) (by decide) ?_
      show own_K p e below m T1 13 #[rv oa] [] _
      refine XS.aloadN X1.here hx rfl (hb hby d21_13) rfl rfl ?_
      show own_K p e below m T1 14 #[rv oa] [(.ref oa)] _
      refine st4 _ ?_
      show own_K p e below m T4 17 #[rv oa] [(.int xs)] _
      refine XS.i2l X4.here hx rfl (hb hby d21_17) rfl ?_
      show own_K p e below m T4 18 #[rv oa] [(.long (xs.toInt64))] _
      refine XS.aloadN X4.here hx rfl (hb hby d21_18) rfl rfl ?_
      show own_K p e below m T4 19 #[rv oa] [(.ref oa), (.long (xs.toInt64))] _
      refine st5 _ ?_
      show own_K p e below m T5 22 #[rv oa] [(.long qn), (.long (xs.toInt64))] _
      refine XS.aloadN X5.here hx rfl (hb hby d21_22) rfl rfl ?_
      show own_K p e below m T5 23 #[rv oa] [(.ref oa), (.long qn), (.long (xs.toInt64))] _
      refine st6 _ ?_
      show own_K p e below m T6 26 #[rv oa] [(.long qu), (.long qn), (.long (xs.toInt64))] _
      refine XS.lsub X6.here hx rfl (hb hby d21_26) rfl ?_
      show own_K p e below m T6 27 #[rv oa] [(.long (qn - qu)), (.long (xs.toInt64))] _
      refine XS.lsub X6.here hx rfl (hb hby d21_27) rfl ?_
      show own_K p e below m T6 28 #[rv oa] [(.long ((xs.toInt64) - (qn - qu)))] _
      refine XS.l2i X6.here hx rfl (hb hby d21_28) rfl ?_
      exact k
    obtain ⟨fs, hr, hrun, hended, hW, hsame⟩ := X6.leave (v := some (.int (((xs.toInt64) - (qn - qu)).toInt32))) (fun h => by rw [Bd.returns] at h; cases h)
    refine ⟨_, _, hG _ (pre7 _ ?_), hrun, hended, _, _, rfl, ?_, ⟨_, rfl⟩, hW, hsame.mono (by decide) (by decide)⟩
    · show own_K p e below m T6 29 #[rv oa] [(.int (((xs.toInt64) - (qn - qu)).toInt32))] _
      exact retI X6 hx Bd.returns (hb hby d21_29) hr
    · show Q21 Z oa qr xs qn qu h0 n0 _ T6.heap _
      rw [e6]
      exact ⟨(by simp only [if_pos hc6_3]), N0, rfl⟩
  · have pre8 : ∀ t, own_K p e below m T1 29 #[rv oa] [(.int (0 : Int32))] t → G t := by
      intro t k
      refine pre2 t ?_
      show own_K p e below m T1 6 #[rv oa] [(.int (lcmpW qr (0 : Int64)))] _
      refine XS.ifNo X1.here hx rfl (hb hby d21_6) rfl ((if0 _ _).trans (flt (mt (lw_lt _ _).mp hc6_3)).1) ?_
      show own_K p e below m T1 9 #[rv oa] [] _
      refine XS.iconst X1.here hx rfl (hb hby d21_9) ?_
      show own_K p e below m T1 10 #[rv oa] [(.int (0 : Int32))] _
      refine XS.goto X1.here hx rfl (pc0 := 10) (pc' := 29) rfl (hb hby d21_10) (by decide) (by decide) ?_
      exact k
    obtain ⟨fs, hr, hrun, hended, hW, hsame⟩ := X1.leave (v := some (.int (0 : Int32))) (fun h => by rw [Bd.returns] at h; cases h)
    refine ⟨_, _, hG _ (pre8 _ ?_), hrun, hended, _, _, rfl, ?_, ⟨_, rfl⟩, hW, hsame.mono (by decide) (by decide)⟩
    · show own_K p e below m T1 29 #[rv oa] [(.int (0 : Int32))] _
      exact retI X1 hx Bd.returns (hb hby d21_29) hr
    · show Q21 Z oa qr xs qn qu h0 n0 _ T1.heap _
      rw [e1]
      exact ⟨(by simp only [if_neg hc6_3]), N0, rfl⟩

theorem pd_15 : parseMethodDescriptor "(Levenkeel/model/TopicQueue;J)V" = some ⟨[(.object "evenkeel/model/TopicQueue"), .long], none⟩ := by decide +kernel
theorem pd_16 : parseMethodDescriptor "(ILevenkeel/model/CommittedOffset;)V" = some ⟨[.int, (.object "evenkeel/model/CommittedOffset")], none⟩ := by decide +kernel
theorem pn_9 : plainName "evenkeel/client/WindowRoomOnceCommittedPinLaw" = true := by first | (simp [plainName, overriddenIn]; done) | decide +kernel
theorem ef_0 (m : MethodId) (x0 : Int64) (x1 : Int32) (x2 : Int32) (x3 : Int32) (x4 : Int32) (x5 : Int32) : entryFrame m #[(.long x0), (.int x1), (.int x2), (.int x3), (.int x4), (.int x5)] maxLocals = mkF m 0 #[lv x0, .second, iv x1, iv x2, iv x3, iv x4, iv x5, .unset, .unset, .unset, .unset, .unset, .unset, .unset, .unset, .unset, .unset, .unset, .unset, .unset, .unset, .unset] [] := by first | (simp [entryFrame, mkF, argsToLocals, Value.category, maxLocals]; done) | rfl
def Q0 (Z : State) (p1 : Int64) (p2 : Int32) (p3 : Int32) (p4 : Int32) (p5 : Int32) (p6 : Int32) (el : Addr) (ea : Addr) (kE : ClassId) (h0 : Heap) (n0 : Nat) (rv_ : Option Value) (h_ : Heap) (L_ : List Loc) : Prop := rv_ = some (.int (1 : Int32)) ∧ Fr n0 L_ ∧ Keep h0 h_ []
set_option maxRecDepth 65536 in
set_option maxHeartbeats 40000000 in
theorem rm0 (l : Launch) (Z : State) (a0 : Array Value) (hw : ∀ d ∈ tables_1, d.before a0 Z = true) (ws : List Jvm.Cond) (p1 : Int64) (p2 : Int32) (p3 : Int32) (p4 : Int32) (p5 : Int32) (p6 : Int32) (el : Addr) (ea : Addr) (kE : ClassId) (h0 : Heap) (n0 : Nat) (Z0 : n0 ≤ h0.size) (O_ : Old Z n0 h0) (P_ : own_P Z el ea kE) :
    MetFree l x (head1 (Jvm.Cond.code x code maxLocals ret :: ws) room_1) (fun a U => a = #[(.long p1), (.int p2), (.int p3), (.int p4), (.int p5), (.int p6)] ∧ Z.Warmed39 U.vm ∧ U.heap = h0) (fun _ _ _ _ _ => True) (fun _ U o U' => ∃ v L, o = .returned v ∧ Q0 Z p1 p2 p3 p4 p5 p6 el ea kE h0 n0 v U'.heap L ∧ FrameEnd U o U' L 8 32) := by
  refine MetFree.of_bodySF (plainFor_of_name pn_9) hisR ?_
  intro p e s m args below meth c s₁ Bd hml0 hP hK
  obtain ⟨rfl, hZ, hh⟩ := hP
  have hx := Bd.exec
  have hby := Bd.bytes
  have hml : c.maxLocals = 22 := hml0
  have hown : s.vm.findClass "evenkeel/client/WindowRoomOnceCommittedPinLaw" = some m.cls := findClass_of_methodNamed Bd.named
  have hnm := (name_of_methodNamed Bd.named Bd.method).1
  have X0 : Stand p l e room_1 s m #[(.long p1), (.int p2), (.int p3), (.int p4), (.int p5), (.int p6)] below meth c s₁ [] 0 0 := Stand.of_body Bd
  have e0 : s₁.heap = h0 := by rw [← hh, Bd.state]; rfl
  have N0 := Fr.nil n0
  obtain ⟨G, hG, pre0⟩ : ∃ G : State → Prop, (∀ t, G t → Steps p.tables e below (s₁.setTop (entryFrame m #[(.long p1), (.int p2), (.int p3), (.int p4), (.int p5), (.int p6)] maxLocals)) t) ∧ ∀ t, own_K p e below m s₁ 0 #[lv p1, .second, iv p2, iv p3, iv p4, iv p5, iv p6, .unset, .unset, .unset, .unset, .unset, .unset, .unset, .unset, .unset, .unset, .unset, .unset, .unset, .unset, .unset] [] t → G t := ⟨fun t => Steps p.tables e below (s₁.setTop (entryFrame m #[(.long p1), (.int p2), (.int p3), (.int p4), (.int p5), (.int p6)] maxLocals)) t, fun _ k => k, fun t k => castTop (ef_0 m p1 p2 p3 p4 p5 p6) k⟩
  have pre1 : ∀ t, own_K p e below m s₁ 5 #[lv p1, .second, iv p2, iv p3, iv p4, iv p5, iv p6, .unset, .unset, .unset, .unset, .unset, .unset, .unset, .unset, .unset, .unset, .unset, .unset, .unset, .unset, .unset] [(.int ((1 : Int32) + (p2 &&& (3 : Int32))))] t → G t := by
    intro t k
    refine pre0 t ?_
    show own_K p e below m s₁ 0 #[lv p1, .second, iv p2, iv p3, iv p4, iv p5, iv p6, .unset, .unset, .unset, .unset, .unset, .unset, .unset, .unset, .unset, .unset, .unset, .unset, .unset, .unset, .unset] [] _
    refine XS.iconst X0.here hx rfl (hb hby at_0) ?_
    show own_K p e below m s₁ 1 #[lv p1, .second, iv p2, iv p3, iv p4, iv p5, iv p6, .unset, .unset, .unset, .unset, .unset, .unset, .unset, .unset, .unset, .unset, .unset, .unset, .unset, .unset, .unset] [(.int (1 : Int32))] _
    refine XS.iloadN X0.here hx rfl (hb hby at_1) rfl ?_
    show own_K p e below m s₁ 2 #[lv p1, .second, iv p2, iv p3, iv p4, iv p5, iv p6, .unset, .unset, .unset, .unset, .unset, .unset, .unset, .unset, .unset, .unset, .unset, .unset, .unset, .unset, .unset] [(.int p2), (.int (1 : Int32))] _
    refine XS.iconst X0.here hx rfl (hb hby at_2) ?_
    show own_K p e below m s₁ 3 #[lv p1, .second, iv p2, iv p3, iv p4, iv p5, iv p6, .unset, .unset, .unset, .unset, .unset, .unset, .unset, .unset, .unset, .unset, .unset, .unset, .unset, .unset, .unset] [(.int (3 : Int32)), (.int p2), (.int (1 : Int32))] _
    refine XS.iand X0.here hx rfl (hb hby at_3) rfl ?_
    show own_K p e below m s₁ 4 #[lv p1, .second, iv p2, iv p3, iv p4, iv p5, iv p6, .unset, .unset, .unset, .unset, .unset, .unset, .unset, .unset, .unset, .unset, .unset, .unset, .unset, .unset, .unset] [(.int (p2 &&& (3 : Int32))), (.int (1 : Int32))] _
    refine XS.iadd X0.here hx rfl (hb hby at_4) rfl ?_
    exact k
  obtain ⟨xz, hxz⟩ : ∃ z : Int32, z = ((1 : Int32) + (p2 &&& (3 : Int32))) := ⟨_, rfl⟩
  have pre2 : ∀ t, own_K p e below m s₁ 5 #[lv p1, .second, iv p2, iv p3, iv p4, iv p5, iv p6, .unset, .unset, .unset, .unset, .unset, .unset, .unset, .unset, .unset, .unset, .unset, .unset, .unset, .unset, .unset] [(.int xz)] t → G t := fun t k => pre1 t (by rw [hxz] at k; exact k)
  have hzb := own_size p2 xz hxz
  have pre3 : ∀ t, own_K p e below m s₁ 16 #[lv p1, .second, iv p2, iv p3, iv p4, iv p5, iv p6, iv xz, .unset, .unset, .unset, .unset, .unset, .unset, .unset, .unset, .unset, .unset, .unset, .unset, .unset, .unset] [(.int ((p3 &&& (7 : Int32)) % (xz + (1 : Int32))))] t → G t := by
    intro t k
    refine pre2 t ?_
    show own_K p e below m s₁ 5 #[lv p1, .second, iv p2, iv p3, iv p4, iv p5, iv p6, .unset, .unset, .unset, .unset, .unset, .unset, .unset, .unset, .unset, .unset, .unset, .unset, .unset, .unset, .unset] [(.int xz)] _
    refine XS.istore X0.here hx rfl (hb hby at_5) rfl (l' := #[lv p1, .second, iv p2, iv p3, iv p4, iv p5, iv p6, iv xz, .unset, .unset, .unset, .unset, .unset, .unset, .unset, .unset, .unset, .unset, .unset, .unset, .unset, .unset]) rfl ?_
    show own_K p e below m s₁ 7 #[lv p1, .second, iv p2, iv p3, iv p4, iv p5, iv p6, iv xz, .unset, .unset, .unset, .unset, .unset, .unset, .unset, .unset, .unset, .unset, .unset, .unset, .unset, .unset] [] _
    refine XS.iloadN X0.here hx rfl (hb hby at_7) rfl ?_
    show own_K p e below m s₁ 8 #[lv p1, .second, iv p2, iv p3, iv p4, iv p5, iv p6, iv xz, .unset, .unset, .unset, .unset, .unset, .unset, .unset, .unset, .unset, .unset, .unset, .unset, .unset, .unset] [(.int p3)] _
    refine XS.bipush X0.here hx rfl (hb hby at_8) ?_
    show own_K p e below m s₁ 10 #[lv p1, .second, iv p2, iv p3, iv p4, iv p5, iv p6, iv xz, .unset, .unset, .unset, .unset, .unset, .unset, .unset, .unset, .unset, .unset, .unset, .unset, .unset, .unset] [(.int (7 : Int32)), (.int p3)] _
    refine XS.iand X0.here hx rfl (hb hby at_10) rfl ?_
    show own_K p e below m s₁ 11 #[lv p1, .second, iv p2, iv p3, iv p4, iv p5, iv p6, iv xz, .unset, .unset, .unset, .unset, .unset, .unset, .unset, .unset, .unset, .unset, .unset, .unset, .unset, .unset] [(.int (p3 &&& (7 : Int32)))] _
    refine XS.iload X0.here hx rfl (hb hby at_11) rfl ?_
    show own_K p e below m s₁ 13 #[lv p1, .second, iv p2, iv p3, iv p4, iv p5, iv p6, iv xz, .unset, .unset, .unset, .unset, .unset, .unset, .unset, .unset, .unset, .unset, .unset, .unset, .unset, .unset] [(.int xz), (.int (p3 &&& (7 : Int32)))] _
    refine XS.iconst X0.here hx rfl (hb hby at_13) ?_
    show own_K p e below m s₁ 14 #[lv p1, .second, iv p2, iv p3, iv p4, iv p5, iv p6, iv xz, .unset, .unset, .unset, .unset, .unset, .unset, .unset, .unset, .unset, .unset, .unset, .unset, .unset, .unset] [(.int (1 : Int32)), (.int xz), (.int (p3 &&& (7 : Int32)))] _
    refine XS.iadd X0.here hx rfl (hb hby at_14) rfl ?_
    show own_K p e below m s₁ 15 #[lv p1, .second, iv p2, iv p3, iv p4, iv p5, iv p6, iv xz, .unset, .unset, .unset, .unset, .unset, .unset, .unset, .unset, .unset, .unset, .unset, .unset, .unset, .unset] [(.int (xz + (1 : Int32))), (.int (p3 &&& (7 : Int32)))] _
    refine iremM X0 hx rfl (hb hby at_15) rfl (own_k1 hzb) ?_
    exact k
  obtain ⟨xk, hxk⟩ : ∃ z : Int32, z = ((p3 &&& (7 : Int32)) % (xz + (1 : Int32))) := ⟨_, rfl⟩
  have pre4 : ∀ t, own_K p e below m s₁ 16 #[lv p1, .second, iv p2, iv p3, iv p4, iv p5, iv p6, iv xz, .unset, .unset, .unset, .unset, .unset, .unset, .unset, .unset, .unset, .unset, .unset, .unset, .unset, .unset] [(.int xk)] t → G t := fun t k => pre3 t (by rw [hxk] at k; exact k)
  obtain ⟨kN, hkN, hkb, hkz⟩ := own_k p3 xz xk hxk hzb
  have pre5 : ∀ t, own_K p e below m s₁ 23 #[lv p1, .second, iv p2, iv p3, iv p4, iv p5, iv p6, iv xz, iv xk, .unset, .unset, .unset, .unset, .unset, .unset, .unset, .unset, .unset, .unset, .unset, .unset, .unset] [(.long (p1 &&& (4611686018427387903 : Int64)))] t → G t := by
    intro t k
    refine pre4 t ?_
    show own_K p e below m s₁ 16 #[lv p1, .second, iv p2, iv p3, iv p4, iv p5, iv p6, iv xz, .unset, .unset, .unset, .unset, .unset, .unset, .unset, .unset, .unset, .unset, .unset, .unset, .unset, .unset] [(.int xk)] _
    refine XS.istore X0.here hx rfl (hb hby at_16) rfl (l' := #[lv p1, .second, iv p2, iv p3, iv p4, iv p5, iv p6, iv xz, iv xk, .unset, .unset, .unset, .unset, .unset, .unset, .unset, .unset, .unset, .unset, .unset, .unset, .unset]) rfl ?_
    show own_K p e below m s₁ 18 #[lv p1, .second, iv p2, iv p3, iv p4, iv p5, iv p6, iv xz, iv xk, .unset, .unset, .unset, .unset, .unset, .unset, .unset, .unset, .unset, .unset, .unset, .unset, .unset] [] _
    refine XS.lloadN X0.here hx rfl (hb hby at_18) rfl ?_
    show own_K p e below m s₁ 19 #[lv p1, .second, iv p2, iv p3, iv p4, iv p5, iv p6, iv xz, iv xk, .unset, .unset, .unset, .unset, .unset, .unset, .unset, .unset, .unset, .unset, .unset, .unset, .unset] [(.long p1)] _
    refine X0.ldc2Long hx hown (mvT hZ (tw hw (i := 0) rfl)) (g := (mkF m 19 #[lv p1, .second, iv p2, iv p3, iv p4, iv p5, iv p6, iv xz, iv xk, .unset, .unset, .unset, .unset, .unset, .unset, .unset, .unset, .unset, .unset, .unset, .unset, .unset] [(.long p1)])) rfl (hb hby at_19) _ ?_
    show own_K p e below m s₁ 22 #[lv p1, .second, iv p2, iv p3, iv p4, iv p5, iv p6, iv xz, iv xk, .unset, .unset, .unset, .unset, .unset, .unset, .unset, .unset, .unset, .unset, .unset, .unset, .unset] [(.long (4611686018427387903 : Int64)), (.long p1)] _
    refine XS.land X0.here hx rfl (hb hby at_22) rfl ?_
    exact k
  obtain ⟨q0, hq0⟩ : ∃ z : Int64, z = (p1 &&& (4611686018427387903 : Int64)) := ⟨_, rfl⟩
  have pre6 : ∀ t, own_K p e below m s₁ 23 #[lv p1, .second, iv p2, iv p3, iv p4, iv p5, iv p6, iv xz, iv xk, .unset, .unset, .unset, .unset, .unset, .unset, .unset, .unset, .unset, .unset, .unset, .unset, .unset] [(.long q0)] t → G t := fun t k => pre5 t (by rw [hq0] at k; exact k)
  have hq62 := own_q62 p1 q0 hq0
  have pre7 : ∀ t, own_K p e below m s₁ 29 #[lv p1, .second, iv p2, iv p3, iv p4, iv p5, iv p6, iv xz, iv xk, lv q0, .second, .unset, .unset, .unset, .unset, .unset, .unset, .unset, .unset, .unset, .unset, .unset] [(.int (p5 &&& (3 : Int32)))] t → G t := by
    intro t k
    refine pre6 t ?_
    show own_K p e below m s₁ 23 #[lv p1, .second, iv p2, iv p3, iv p4, iv p5, iv p6, iv xz, iv xk, .unset, .unset, .unset, .unset, .unset, .unset, .unset, .unset, .unset, .unset, .unset, .unset, .unset] [(.long q0)] _
    refine XS.lstore X0.here hx rfl (hb hby at_23) rfl (l' := #[lv p1, .second, iv p2, iv p3, iv p4, iv p5, iv p6, iv xz, iv xk, lv q0, .second, .unset, .unset, .unset, .unset, .unset, .unset, .unset, .unset, .unset, .unset, .unset]) rfl ?_
    show own_K p e below m s₁ 25 #[lv p1, .second, iv p2, iv p3, iv p4, iv p5, iv p6, iv xz, iv xk, lv q0, .second, .unset, .unset, .unset, .unset, .unset, .unset, .unset, .unset, .unset, .unset, .unset] [] _
    refine XS.iload X0.here hx rfl (hb hby at_25) rfl ?_
    show own_K p e below m s₁ 27 #[lv p1, .second, iv p2, iv p3, iv p4, iv p5, iv p6, iv xz, iv xk, lv q0, .second, .unset, .unset, .unset, .unset, .unset, .unset, .unset, .unset, .unset, .unset, .unset] [(.int p5)] _
    refine XS.iconst X0.here hx rfl (hb hby at_27) ?_
    show own_K p e below m s₁ 28 #[lv p1, .second, iv p2, iv p3, iv p4, iv p5, iv p6, iv xz, iv xk, lv q0, .second, .unset, .unset, .unset, .unset, .unset, .unset, .unset, .unset, .unset, .unset, .unset] [(.int (3 : Int32)), (.int p5)] _
    refine XS.iand X0.here hx rfl (hb hby at_28) rfl ?_
    exact k
  obtain ⟨xf, hxf⟩ : ∃ z : Int32, z = (p5 &&& (3 : Int32)) := ⟨_, rfl⟩
  have pre8 : ∀ t, own_K p e below m s₁ 29 #[lv p1, .second, iv p2, iv p3, iv p4, iv p5, iv p6, iv xz, iv xk, lv q0, .second, .unset, .unset, .unset, .unset, .unset, .unset, .unset, .unset, .unset, .unset, .unset] [(.int xf)] t → G t := fun t k => pre7 t (by rw [hxf] at k; exact k)
  have pre9 : ∀ t, own_K p e below m s₁ 46 #[lv p1, .second, iv p2, iv p3, iv p4, iv p5, iv p6, iv xz, iv xk, lv q0, .second, iv xf, .unset, .unset, .unset, .unset, .unset, .unset, .unset, .unset, .unset, .unset] [(.long (((q0 + (xz.toInt64)) + (1 : Int64)) + ((p6 &&& (65535 : Int32)).toInt64)))] t → G t := by
    intro t k
    refine pre8 t ?_
    show own_K p e below m s₁ 29 #[lv p1, .second, iv p2, iv p3, iv p4, iv p5, iv p6, iv xz, iv xk, lv q0, .second, .unset, .unset, .unset, .unset, .unset, .unset, .unset, .unset, .unset, .unset, .unset] [(.int xf)] _
    refine XS.istore X0.here hx rfl (hb hby at_29) rfl (l' := #[lv p1, .second, iv p2, iv p3, iv p4, iv p5, iv p6, iv xz, iv xk, lv q0, .second, iv xf, .unset, .unset, .unset, .unset, .unset, .unset, .unset, .unset, .unset, .unset]) rfl ?_
    show own_K p e below m s₁ 31 #[lv p1, .second, iv p2, iv p3, iv p4, iv p5, iv p6, iv xz, iv xk, lv q0, .second, iv xf, .unset, .unset, .unset, .unset, .unset, .unset, .unset, .unset, .unset, .unset] [] _
    refine XS.lload X0.here hx rfl (hb hby at_31) rfl ?_
    show own_K p e below m s₁ 33 #[lv p1, .second, iv p2, iv p3, iv p4, iv p5, iv p6, iv xz, iv xk, lv q0, .second, iv xf, .unset, .unset, .unset, .unset, .unset, .unset, .unset, .unset, .unset, .unset] [(.long q0)] _
    refine XS.iload X0.here hx rfl (hb hby at_33) rfl ?_
    show own_K p e below m s₁ 35 #[lv p1, .second, iv p2, iv p3, iv p4, iv p5, iv p6, iv xz, iv xk, lv q0, .second, iv xf, .unset, .unset, .unset, .unset, .unset, .unset, .unset, .unset, .unset, .unset] [(.int xz), (.long q0)] _
    refine XS.i2l X0.here hx rfl (hb hby at_35) rfl ?_
    show own_K p e below m s₁ 36 #[lv p1, .second, iv p2, iv p3, iv p4, iv p5, iv p6, iv xz, iv xk, lv q0, .second, iv xf, .unset, .unset, .unset, .unset, .unset, .unset, .unset, .unset, .unset, .unset] [(.long (xz.toInt64)), (.long q0)] _
    refine XS.ladd X0.here hx rfl (hb hby at_36) rfl ?_
    show own_K p e below m s₁ 37 #[lv p1, .second, iv p2, iv p3, iv p4, iv p5, iv p6, iv xz, iv xk, lv q0, .second, iv xf, .unset, .unset, .unset, .unset, .unset, .unset, .unset, .unset, .unset, .unset] [(.long (q0 + (xz.toInt64)))] _
    refine XS.lconst X0.here hx rfl (hb hby at_37) ?_
    show own_K p e below m s₁ 38 #[lv p1, .second, iv p2, iv p3, iv p4, iv p5, iv p6, iv xz, iv xk, lv q0, .second, iv xf, .unset, .unset, .unset, .unset, .unset, .unset, .unset, .unset, .unset, .unset] [(.long (1 : Int64)), (.long (q0 + (xz.toInt64)))] _
    refine XS.ladd X0.here hx rfl (hb hby at_38) rfl ?_
    show own_K p e below m s₁ 39 #[lv p1, .second, iv p2, iv p3, iv p4, iv p5, iv p6, iv xz, iv xk, lv q0, .second, iv xf, .unset, .unset, .unset, .unset, .unset, .unset, .unset, .unset, .unset, .unset] [(.long ((q0 + (xz.toInt64)) + (1 : Int64)))] _
    refine XS.iload X0.here hx rfl (hb hby at_39) rfl ?_
    show own_K p e below m s₁ 41 #[lv p1, .second, iv p2, iv p3, iv p4, iv p5, iv p6, iv xz, iv xk, lv q0, .second, iv xf, .unset, .unset, .unset, .unset, .unset, .unset, .unset, .unset, .unset, .unset] [(.int p6), (.long ((q0 + (xz.toInt64)) + (1 : Int64)))] _
    refine X0.ldcInt hx hown (mvT hZ (tw hw (i := 1) rfl)) (g := (mkF m 41 #[lv p1, .second, iv p2, iv p3, iv p4, iv p5, iv p6, iv xz, iv xk, lv q0, .second, iv xf, .unset, .unset, .unset, .unset, .unset, .unset, .unset, .unset, .unset, .unset] [(.int p6), (.long ((q0 + (xz.toInt64)) + (1 : Int64)))])) rfl (hb hby at_41) _ ?_
    show own_K p e below m s₁ 43 #[lv p1, .second, iv p2, iv p3, iv p4, iv p5, iv p6, iv xz, iv xk, lv q0, .second, iv xf, .unset, .unset, .unset, .unset, .unset, .unset, .unset, .unset, .unset, .unset] [(.int (65535 : Int32)), (.int p6), (.long ((q0 + (xz.toInt64)) + (1 : Int64)))] _
    refine XS.iand X0.here hx rfl (hb hby at_43) rfl ?_
    show own_K p e below m s₁ 44 #[lv p1, .second, iv p2, iv p3, iv p4, iv p5, iv p6, iv xz, iv xk, lv q0, .second, iv xf, .unset, .unset, .unset, .unset, .unset, .unset, .unset, .unset, .unset, .unset] [(.int (p6 &&& (65535 : Int32))), (.long ((q0 + (xz.toInt64)) + (1 : Int64)))] _
    refine XS.i2l X0.here hx rfl (hb hby at_44) rfl ?_
    show own_K p e below m s₁ 45 #[lv p1, .second, iv p2, iv p3, iv p4, iv p5, iv p6, iv xz, iv xk, lv q0, .second, iv xf, .unset, .unset, .unset, .unset, .unset, .unset, .unset, .unset, .unset, .unset] [(.long ((p6 &&& (65535 : Int32)).toInt64)), (.long ((q0 + (xz.toInt64)) + (1 : Int64)))] _
    refine XS.ladd X0.here hx rfl (hb hby at_45) rfl ?_
    exact k
  obtain ⟨qk, hqk⟩ : ∃ z : Int64, z = (((q0 + (xz.toInt64)) + (1 : Int64)) + ((p6 &&& (65535 : Int32)).toInt64)) := ⟨_, rfl⟩
  have pre10 : ∀ t, own_K p e below m s₁ 46 #[lv p1, .second, iv p2, iv p3, iv p4, iv p5, iv p6, iv xz, iv xk, lv q0, .second, iv xf, .unset, .unset, .unset, .unset, .unset, .unset, .unset, .unset, .unset, .unset] [(.long qk)] t → G t := fun t k => pre9 t (by rw [hqk] at k; exact k)
  have hsk := own_sk hzb hq62 hqk
  obtain ⟨T11, h11, X11, e11, E11, A11, D11, -, st11⟩ := newO X0 hx hZ hown (tw hw (i := 2) rfl) (tw hw (i := 3) rfl) (tw hw (i := 4) rfl) e0 (g := (mkF m 48 #[lv p1, .second, iv p2, iv p3, iv p4, iv p5, iv p6, iv xz, iv xk, lv q0, .second, iv xf, lv qk, .second, .unset, .unset, .unset, .unset, .unset, .unset, .unset, .unset] [])) rfl (hb hby at_48) (by decide) (by decide)
  obtain ⟨b11, g11⟩ : ∃ z, z = h0.size := ⟨_, rfl⟩
  rw [← g11] at A11 D11 st11
  have ge_b11 : n0 ≤ b11 := Nat.le_trans Z0 (Nat.le_of_eq g11.symm)
  have sz_b11 : h0.size ≤ b11 := Nat.le_trans (Keep.refl h0 []).1 (Nat.le_of_eq g11.symm)
  have K11 : Keep h0 h11 [] := (Keep.refl h0 []).ext E11
  have sz11 : n0 ≤ h11.size := Nat.le_trans Z0 E11.1
  have f12 : Fld Z h11 b11 "evenkeel/client/Window" "committedAhead" "Ljava/util/List;" .null := D11 (Or.inl (tw hw (i := 103) rfl)) (ty := (.object "java/util/List")) (by decide)
  have f13 : Fld Z h11 b11 "evenkeel/client/Window" "finished" "Ljava/util/BitSet;" .null := D11 (Or.inr (tw hw (i := 127) rfl)) (ty := (.object "java/util/BitSet")) (by decide)
  have f14 : Fld Z h11 b11 "evenkeel/client/Window" "restart" "J" (.long (0 : Int64)) := D11 (Or.inl (tw hw (i := 130) rfl)) (ty := .long) (by decide)
  have f15 : Fld Z h11 b11 "evenkeel/client/Window" "left" "Ljava/util/BitSet;" .null := D11 (Or.inr (tw hw (i := 132) rfl)) (ty := (.object "java/util/BitSet")) (by decide)
  have f16 : Fld Z h11 b11 "evenkeel/client/Window" "size" "I" (.int (0 : Int32)) := D11 (Or.inr (tw hw (i := 134) rfl)) (ty := .int) (by decide)
  have f17 : Fld Z h11 b11 "evenkeel/client/Window" "committed" "J" (.long (0 : Int64)) := D11 (Or.inl (tw hw (i := 141) rfl)) (ty := .long) (by decide)
  have f18 : Fld Z h11 b11 "evenkeel/client/Window" "unfinished" "J" (.long (0 : Int64)) := D11 (Or.inl (tw hw (i := 143) rfl)) (ty := .long) (by decide)
  have f19 : Fld Z h11 b11 "evenkeel/client/Window" "next" "J" (.long (0 : Int64)) := D11 (Or.inl (tw hw (i := 145) rfl)) (ty := .long) (by decide)
  have f20 : Fld Z h11 b11 "evenkeel/client/Window" "consumed" "Ljava/util/List;" .null := D11 (Or.inr (tw hw (i := 152) rfl)) (ty := (.object "java/util/List")) (by decide)
  have f21 : Fld Z h11 b11 "evenkeel/client/Window" "committedFailures" "Ljava/util/List;" .null := D11 (Or.inl (tw hw (i := 159) rfl)) (ty := (.object "java/util/List")) (by decide)
  have f22 : Fld Z h11 b11 "evenkeel/client/Window" "consumedAt" "I" (.int (0 : Int32)) := D11 (Or.inl (tw hw (i := 174) rfl)) (ty := .int) (by decide)
  have f23 : Fld Z h11 b11 "evenkeel/client/Window" "failing" "Ljava/util/TreeMap;" .null := D11 (Or.inl (tw hw (i := 196) rfl)) (ty := (.object "java/util/TreeMap")) (by decide)
  obtain ⟨T24, h24, X24, e24, E24, A24, D24, -, st24⟩ := newO X11 hx hZ hown (tw hw (i := 5) rfl) (tw hw (i := 6) rfl) (tw hw (i := 7) rfl) e11 (g := (mkF m 54 #[lv p1, .second, iv p2, iv p3, iv p4, iv p5, iv p6, iv xz, iv xk, lv q0, .second, iv xf, lv qk, .second, .unset, .unset, .unset, .unset, .unset, .unset, .unset, .unset] [(.int xz), (.ref b11), (.ref b11)])) rfl (hb hby at_54) (by decide) (by decide)
  obtain ⟨b24, g24⟩ : ∃ z, z = h11.size := ⟨_, rfl⟩
  rw [← g24] at A24 D24 st24
  have ne24_b11 : b11 ≠ b24 := Nat.ne_of_lt (Nat.lt_of_lt_of_le A11.lt (Nat.le_of_eq g24.symm))
  have ge_b24 : n0 ≤ b24 := Nat.le_trans sz11 (Nat.le_of_eq g24.symm)
  have sz_b24 : h0.size ≤ b24 := Nat.le_trans K11.1 (Nat.le_of_eq g24.symm)
  have K24 : Keep h0 h24 [] := K11.ext E24
  have sz24 : n0 ≤ h24.size := Nat.le_trans sz11 E24.1
  have f25 : Fld Z h24 b24 "evenkeel/model/CommittedOffset" "queue" "Levenkeel/model/TopicQueue;" .null := D24 (Or.inr (tw hw (i := 90) rfl)) (ty := (.object "evenkeel/model/TopicQueue")) (by decide)
  have f26 : Fld Z h24 b24 "evenkeel/model/CommittedOffset" "next" "J" (.long (0 : Int64)) := D24 (Or.inr (tw hw (i := 92) rfl)) (ty := .long) (by decide)
  have f27 : Fld Z h24 b24 "evenkeel/model/CommittedOffset" "ahead" "Ljava/util/List;" .null := D24 (Or.inr (tw hw (i := 94) rfl)) (ty := (.object "java/util/List")) (by decide)
  have f28 : Fld Z h24 b24 "evenkeel/model/CommittedOffset" "failed" "Ljava/util/List;" .null := D24 (Or.inr (tw hw (i := 96) rfl)) (ty := (.object "java/util/List")) (by decide)
  have f30 : Old Z n0 h24 := ((O_.ext E11).ext E24)
  obtain ⟨_, _, ⟨T29, L29, k29, n29⟩, -, X29, ⟨Lc29, hQ29, l29, y29, z29⟩, st29⟩ := X24.specialBack hx (y := (⟨"evenkeel/model/CommittedOffset", "<init>", "(Levenkeel/model/TopicQueue;J)V"⟩ : MethodName)) rfl hown (mvT hZ (tw hw (i := 8) rfl)) (mvT hZ (tw hw (i := 9) rfl)) (mvT hZ (tw hw (i := 10) rfl)) (by decide) (backOf (W := 4) (rm1 l Z a0 hw [] b24 q0 .null (.long (0 : Int64)) .null .null el ea kE h24 n0 sz24 A24 f25 f26 f27 f28 ge_b24 f30 P_) hZ (tw hw (i := 10) rfl) (tw hw (i := 7) rfl) (by decide) (by decide)) (g := (mkF m 61 #[lv p1, .second, iv p2, iv p3, iv p4, iv p5, iv p6, iv xz, iv xk, lv q0, .second, iv xf, lv qk, .second, .unset, .unset, .unset, .unset, .unset, .unset, .unset, .unset] [(.long q0), .null, (.ref b24), (.ref b24), (.int xz), (.ref b11), (.ref b11)])) rfl (by rw [hml]; rfl) (Steps.refl _) (a := b24) (argsL := [.null, (.long q0)]) (rest := [(.ref b24), (.int xz), (.ref b11), (.ref b11)]) (lenOf pd_15 rfl) rfl (by show 2 * 0 + _ ≤ _; exact Nat.le_of_eq rfl) (hb hby at_61) (fun _ _ => ⟨rfl, e24, (by decide : 2 + 2 ≤ _), (by decide : 16 + 8 ≤ _)⟩)
  dsimp only [Pt.U, Pt.locs, Pt.cells, Pt.slots] at X29 l29 y29 z29 st29 hQ29
  subst l29 y29 z29
  obtain ⟨rfl, Nq29, Kc29, Fn_29, Fh_29, Ff_29⟩ := hQ29
  have N29 := Fr.app N0 Nq29
  have K29 : Keep h0 T29.heap [] := K24.trans Kc29 (allS (Or.inr sz_b24) all0)
  have sz29 : n0 ≤ T29.heap.size := Nat.le_trans sz24 Kc29.1
  have f32 : Exa Z T29.heap b11 "evenkeel/client/Window" := ((A11.ext E24).keep Kc29)
  have f33 : Fld Z T29.heap b11 "evenkeel/client/Window" "size" "I" (.int (0 : Int32)) := ((f16.ext E24).keep Kc29 (ninS ne24_b11 nin0))
  have f34 : Fld Z T29.heap b11 "evenkeel/client/Window" "committed" "J" (.long (0 : Int64)) := ((f17.ext E24).keep Kc29 (ninS ne24_b11 nin0))
  have f35 : Fld Z T29.heap b11 "evenkeel/client/Window" "committedAhead" "Ljava/util/List;" .null := ((f12.ext E24).keep Kc29 (ninS ne24_b11 nin0))
  have f36 : Fld Z T29.heap b11 "evenkeel/client/Window" "unfinished" "J" (.long (0 : Int64)) := ((f18.ext E24).keep Kc29 (ninS ne24_b11 nin0))
  have f37 : Fld Z T29.heap b11 "evenkeel/client/Window" "next" "J" (.long (0 : Int64)) := ((f19.ext E24).keep Kc29 (ninS ne24_b11 nin0))
  have f38 : Fld Z T29.heap b11 "evenkeel/client/Window" "finished" "Ljava/util/BitSet;" .null := ((f13.ext E24).keep Kc29 (ninS ne24_b11 nin0))
  have f39 : Fld Z T29.heap b11 "evenkeel/client/Window" "restart" "J" (.long (0 : Int64)) := ((f14.ext E24).keep Kc29 (ninS ne24_b11 nin0))
  have f40 : Fld Z T29.heap b11 "evenkeel/client/Window" "consumed" "Ljava/util/List;" .null := ((f20.ext E24).keep Kc29 (ninS ne24_b11 nin0))
  have f41 : Fld Z T29.heap b11 "evenkeel/client/Window" "consumedAt" "I" (.int (0 : Int32)) := ((f22.ext E24).keep Kc29 (ninS ne24_b11 nin0))
  have f42 : Fld Z T29.heap b11 "evenkeel/client/Window" "left" "Ljava/util/BitSet;" .null := ((f15.ext E24).keep Kc29 (ninS ne24_b11 nin0))
  have f43 : Fld Z T29.heap b11 "evenkeel/client/Window" "failing" "Ljava/util/TreeMap;" .null := ((f23.ext E24).keep Kc29 (ninS ne24_b11 nin0))
  have f44 : Fld Z T29.heap b11 "evenkeel/client/Window" "committedFailures" "Ljava/util/List;" .null := ((f21.ext E24).keep Kc29 (ninS ne24_b11 nin0))
  have f45 : Exa Z T29.heap b24 "evenkeel/model/CommittedOffset" := (A24.keep Kc29)
  have f46 : Old Z n0 T29.heap := (f30.keep Kc29 (allS ge_b24 all0))
  obtain ⟨_, _, ⟨T31, L31, k31, n31⟩, -, X31, ⟨Lc31, hQ31, l31, y31, z31⟩, st31⟩ := X29.specialBack hx (y := (⟨"evenkeel/client/Window", "<init>", "(ILevenkeel/model/CommittedOffset;)V"⟩ : MethodName)) rfl hown (mvT hZ (tw hw (i := 97) rfl)) (mvT hZ (tw hw (i := 98) rfl)) (mvT hZ (tw hw (i := 99) rfl)) (by decide) (backOf (W := 1) (rm12 l Z a0 hw [] b11 xz b24 (.int (0 : Int32)) (.long (0 : Int64)) .null (.long (0 : Int64)) (.long (0 : Int64)) .null (.long (0 : Int64)) .null .null .null q0 el ea kE T29.heap n0 sz29 f32 f33 f34 f35 f36 f37 f38 f39 f40 f41 f42 f43 f44 ge_b11 f45 Fn_29 Fh_29 Ff_29 ne24_b11 f46 P_) hZ (tw hw (i := 99) rfl) (tw hw (i := 4) rfl) (by decide) (by decide)) (g := (mkF m 64 #[lv p1, .second, iv p2, iv p3, iv p4, iv p5, iv p6, iv xz, iv xk, lv q0, .second, iv xf, lv qk, .second, .unset, .unset, .unset, .unset, .unset, .unset, .unset, .unset] [(.ref b24), (.int xz), (.ref b11), (.ref b11)])) rfl (by rw [hml]; rfl) (Steps.refl _) (a := b11) (argsL := [(.int xz), (.ref b24)]) (rest := [(.ref b11)]) (lenOf pd_16 rfl) rfl (by show 2 * 0 + _ ≤ _; exact Nat.le_of_eq rfl) (hb hby at_64) (fun _ _ => ⟨rfl, rfl, (by decide : 4 + 4 ≤ _), (by decide : 24 + 8 ≤ _)⟩)
  dsimp only [Pt.U, Pt.locs, Pt.cells, Pt.slots] at X31 l31 y31 z31 st31 hQ31
  subst l31 y31 z31
  obtain ⟨bf31, wf31, kf31, bl31, wl31, kl31, rfl, Nq31, Kc31, Fsz_31, Fco_31, Fun_31, Fne_31, Fre_31, Fcs_31, Fca_31, Ffa_31, Fah_31, Fcf_31, g1f_31, g2f_31, Fbf_31, Ef_31, Fuf_31, Fyf_31, Fwf_31, Vf_31, g1l_31, g2l_31, Fbl_31, El_31, Ful_31, Fyl_31, Fwl_31, Vl_31, nbfbl_31, nbfwl_31, nwfbl_31, nwfwl_31, nbfwf_31, nblwl_31⟩ := hQ31
  have N31 := Fr.app N29 Nq31
  have K31 : Keep h0 T31.heap [] := K29.trans Kc31 (allS (Or.inr sz_b11) all0)
  have sz31 : n0 ≤ T31.heap.size := Nat.le_trans sz29 Kc31.1
  have ge_bf31 : n0 ≤ bf31 := Nat.le_trans sz29 g1f_31
  have sz_bf31 : h0.size ≤ bf31 := Nat.le_trans K29.1 g1f_31
  have ne_b11_bf31 : b11 ≠ bf31 := Nat.ne_of_lt (Nat.lt_of_lt_of_le f32.lt g1f_31)
  have ne_b24_bf31 : b24 ≠ bf31 := Nat.ne_of_lt (Nat.lt_of_lt_of_le f45.lt g1f_31)
  have ge_wf31 : n0 ≤ wf31 := Nat.le_trans sz29 g2f_31
  have sz_wf31 : h0.size ≤ wf31 := Nat.le_trans K29.1 g2f_31
  have ne_b11_wf31 : b11 ≠ wf31 := Nat.ne_of_lt (Nat.lt_of_lt_of_le f32.lt g2f_31)
  have ne_b24_wf31 : b24 ≠ wf31 := Nat.ne_of_lt (Nat.lt_of_lt_of_le f45.lt g2f_31)
  have ge_bl31 : n0 ≤ bl31 := Nat.le_trans sz29 g1l_31
  have sz_bl31 : h0.size ≤ bl31 := Nat.le_trans K29.1 g1l_31
  have ne_b11_bl31 : b11 ≠ bl31 := Nat.ne_of_lt (Nat.lt_of_lt_of_le f32.lt g1l_31)
  have ne_b24_bl31 : b24 ≠ bl31 := Nat.ne_of_lt (Nat.lt_of_lt_of_le f45.lt g1l_31)
  have ge_wl31 : n0 ≤ wl31 := Nat.le_trans sz29 g2l_31
  have sz_wl31 : h0.size ≤ wl31 := Nat.le_trans K29.1 g2l_31
  have ne_b11_wl31 : b11 ≠ wl31 := Nat.ne_of_lt (Nat.lt_of_lt_of_le f32.lt g2l_31)
  have ne_b24_wl31 : b24 ≠ wl31 := Nat.ne_of_lt (Nat.lt_of_lt_of_le f45.lt g2l_31)
  have pre47 : ∀ t, own_K p e below m T31 67 #[lv p1, .second, iv p2, iv p3, iv p4, iv p5, iv p6, iv xz, iv xk, lv q0, .second, iv xf, lv qk, .second, .unset, .unset, .unset, .unset, .unset, .unset, .unset, .unset] [(.ref b11)] t → G t := by
    intro t k
    refine pre10 t ?_
    show own_K p e below m s₁ 46 #[lv p1, .second, iv p2, iv p3, iv p4, iv p5, iv p6, iv xz, iv xk, lv q0, .second, iv xf, .unset, .unset, .unset, .unset, .unset, .unset, .unset, .unset, .unset, .unset] [(.long qk)] _
    refine XS.lstore X0.here hx rfl (hb hby at_46) rfl (l' := #[lv p1, .second, iv p2, iv p3, iv p4, iv p5, iv p6, iv xz, iv xk, lv q0, .second, iv xf, lv qk, .second, .unset, .unset, .unset, .unset, .unset, .unset, .unset, .unset]) rfl ?_
    show own_K p e below m s₁ 48 #[lv p1, .second, iv p2, iv p3, iv p4, iv p5, iv p6, iv xz, iv xk, lv q0, .second, iv xf, lv qk, .second, .unset, .unset, .unset, .unset, .unset, .unset, .unset, .unset] [] _
    refine st11 _ ?_
    show own_K p e below m T11 51 #[lv p1, .second, iv p2, iv p3, iv p4, iv p5, iv p6, iv xz, iv xk, lv q0, .second, iv xf, lv qk, .second, .unset, .unset, .unset, .unset, .unset, .unset, .unset, .unset] [(.ref b11)] _
    refine XS.dup X11.here hx rfl (hb hby at_51) rfl rfl ?_
    show own_K p e below m T11 52 #[lv p1, .second, iv p2, iv p3, iv p4, iv p5, iv p6, iv xz, iv xk, lv q0, .second, iv xf, lv qk, .second, .unset, .unset, .unset, .unset, .unset, .unset, .unset, .unset] [(.ref b11), (.ref b11)] _
    refine XS.iload X11.here hx rfl (hb hby at_52) rfl ?_
    show own_K p e below m T11 54 #[lv p1, .second, iv p2, iv p3, iv p4, iv p5, iv p6, iv xz, iv xk, lv q0, .second, iv xf, lv qk, .second, .unset, .unset, .unset, .unset, .unset, .unset, .unset, .unset] [(.int xz), (.ref b11), (.ref b11)] _
    refine st24 _ ?_
    show own_K p e below m T24 57 #[lv p1, .second, iv p2, iv p3, iv p4, iv p5, iv p6, iv xz, iv xk, lv q0, .second, iv xf, lv qk, .second, .unset, .unset, .unset, .unset, .unset, .unset, .unset, .unset] [(.ref b24), (.int xz), (.ref b11), (.ref b11)] _
    refine XS.dup X24.here hx rfl (hb hby at_57) rfl rfl ?_
    show own_K p e below m T24 58 #[lv p1, .second, iv p2, iv p3, iv p4, iv p5, iv p6, iv xz, iv xk, lv q0, .second, iv xf, lv qk, .second, .unset, .unset, .unset, .unset, .unset, .unset, .unset, .unset] [(.ref b24), (.ref b24), (.int xz), (.ref b11), (.ref b11)] _
    refine XS.aconstNull X24.here hx rfl (hb hby at_58) ?_
    show own_K p e below m T24 59 #[lv p1, .second, iv p2, iv p3, iv p4, iv p5, iv p6, iv xz, iv xk, lv q0, .second, iv xf, lv qk, .second, .unset, .unset, .unset, .unset, .unset, .unset, .unset, .unset] [.null, (.ref b24), (.ref b24), (.int xz), (.ref b11), (.ref b11)] _
    refine XS.lload X24.here hx rfl (hb hby at_59) rfl ?_
    show own_K p e below m T24 61 #[lv p1, .second, iv p2, iv p3, iv p4, iv p5, iv p6, iv xz, iv xk, lv q0, .second, iv xf, lv qk, .second, .unset, .unset, .unset, .unset, .unset, .unset, .unset, .unset] [(.long q0), .null, (.ref b24), (.ref b24), (.int xz), (.ref b11), (.ref b11)] _
    refine st29.trans ?_
    show own_K p e below m T29 64 #[lv p1, .second, iv p2, iv p3, iv p4, iv p5, iv p6, iv xz, iv xk, lv q0, .second, iv xf, lv qk, .second, .unset, .unset, .unset, .unset, .unset, .unset, .unset, .unset] [(.ref b24), (.int xz), (.ref b11), (.ref b11)] _
    refine st31.trans ?_
    exact k
  have hwu48 : Fld Z T31.heap bf31 "java/util/BitSet" "wordsInUse" "I" (.int (own_wu (0 : Int64))) := by rw [own_wu00]; exact Fuf_31
  have hwu49 : Fld Z T31.heap bl31 "java/util/BitSet" "wordsInUse" "I" (.int (own_wu (0 : Int64))) := by rw [own_wu00]; exact Ful_31
  have pre50 : ∀ t, own_K p e below m T31 71 #[lv p1, .second, iv p2, iv p3, iv p4, iv p5, iv p6, iv xz, iv xk, lv q0, .second, iv xf, lv qk, .second, rv b11, .unset, .unset, .unset, .unset, .unset, .unset, .unset] [(.int xk)] t → G t := by
    intro t k
    refine pre47 t ?_
    show own_K p e below m T31 67 #[lv p1, .second, iv p2, iv p3, iv p4, iv p5, iv p6, iv xz, iv xk, lv q0, .second, iv xf, lv qk, .second, .unset, .unset, .unset, .unset, .unset, .unset, .unset, .unset] [(.ref b11)] _
    refine XS.astore X31.here hx rfl (hb hby at_67) rfl rfl (l' := #[lv p1, .second, iv p2, iv p3, iv p4, iv p5, iv p6, iv xz, iv xk, lv q0, .second, iv xf, lv qk, .second, rv b11, .unset, .unset, .unset, .unset, .unset, .unset, .unset]) rfl ?_
    show own_K p e below m T31 69 #[lv p1, .second, iv p2, iv p3, iv p4, iv p5, iv p6, iv xz, iv xk, lv q0, .second, iv xf, lv qk, .second, rv b11, .unset, .unset, .unset, .unset, .unset, .unset, .unset] [] _
    refine XS.iload X31.here hx rfl (hb hby at_69) rfl ?_
    exact k
  obtain ⟨v58, hv58⟩ : ∃ z : Int64, z = (if (0 : Int32) < xk then (q0 + (1 : Int64)) else q0) := ⟨_, rfl⟩
  obtain ⟨T57, h57, lo57, X57, N57, e57, K57, j57_0, j57_1, j57_2, j57_3, j57_4, j57_5, j57_6, j57_7, j57_8, j57_9, j57_10, j57_11, j57_12, j57_13, j57_14, j57_15, j57_16, j57_17, j57_18, j57_19, j57_20, j57_21, j57_22, j57_23, pre57⟩ : ∃ (T' : State) (h' : Heap) (l' : List Loc), Stand p l e room_1 s m #[(.long p1), (.int p2), (.int p3), (.int p4), (.int p5), (.int p6)] below meth c T' l' 8 32 ∧ Fr n0 l' ∧ T'.heap = h' ∧ Keep h0 h' [] ∧ Old Z n0 h' ∧ Exa Z h' b11 "evenkeel/client/Window" ∧ Fld Z h' b11 "evenkeel/client/Window" "committedAhead" "Ljava/util/List;" (.ref el) ∧ Fld Z h' b11 "evenkeel/client/Window" "finished" "Ljava/util/BitSet;" (.ref bf31) ∧ Fld Z h' b11 "evenkeel/client/Window" "restart" "J" (.long (-1 : Int64)) ∧ Fld Z h' b11 "evenkeel/client/Window" "left" "Ljava/util/BitSet;" (.ref bl31) ∧ Fld Z h' b11 "evenkeel/client/Window" "size" "I" (.int xz) ∧ Fld Z h' b11 "evenkeel/client/Window" "committed" "J" (.long q0) ∧ Fld Z h' b11 "evenkeel/client/Window" "unfinished" "J" (.long q0) ∧ Fld Z h' b11 "evenkeel/client/Window" "next" "J" (.long v58) ∧ Fld Z h' b11 "evenkeel/client/Window" "consumed" "Ljava/util/List;" (.ref el) ∧ Fld Z h' b11 "evenkeel/client/Window" "committedFailures" "Ljava/util/List;" (.ref el) ∧ Fld Z h' b11 "evenkeel/client/Window" "consumedAt" "I" (.int (0 : Int32)) ∧ Fld Z h' b11 "evenkeel/client/Window" "failing" "Ljava/util/TreeMap;" .null ∧ Exa Z h' bf31 "java/util/BitSet" ∧ Fld Z h' bf31 "java/util/BitSet" "wordsInUse" "I" (.int (own_wu (0 : Int64))) ∧ Fld Z h' bf31 "java/util/BitSet" "sizeIsSticky" "Z" (.int (0 : Int32)) ∧ Fld Z h' bf31 "java/util/BitSet" "words" "[J" (.ref wf31) ∧ Arv Z h' wf31 kf31 .long (1 : Int32) [(.long (0 : Int64))] (.long (0 : Int64)) ∧ Exa Z h' bl31 "java/util/BitSet" ∧ Fld Z h' bl31 "java/util/BitSet" "wordsInUse" "I" (.int (own_wu (0 : Int64))) ∧ Fld Z h' bl31 "java/util/BitSet" "sizeIsSticky" "Z" (.int (0 : Int32)) ∧ Fld Z h' bl31 "java/util/BitSet" "words" "[J" (.ref wl31) ∧ Arv Z h' wl31 kl31 .long (1 : Int32) [(.long (0 : Int64))] (.long (0 : Int64)) ∧ ∀ t, own_K p e below m T' 80 #[lv p1, .second, iv p2, iv p3, iv p4, iv p5, iv p6, iv xz, iv xk, lv q0, .second, iv xf, lv qk, .second, rv b11, .unset, .unset, .unset, .unset, .unset, .unset, .unset] [] t → G t := by
    by_cases hc71_51 : (0 : Int32) < xk
    · have f53 : Exa Z T31.heap b11 "evenkeel/client/Window" := (f32.keep Kc31)
      have f54 : Old Z n0 T31.heap := (f46.keep Kc31 (allS ge_b11 all0))
      obtain ⟨cq52, kq52, q52a, q52b, q52c⟩ := isOf hZ rfl f53
      obtain ⟨_, _, ⟨T52, L52, k52, n52⟩, -, X52, ⟨Lc52, hQ52, l52, y52, z52⟩, st52⟩ := X31.virtualBack hx (y := (⟨"evenkeel/client/Window", "take", "()Z"⟩ : MethodName)) (z := (⟨"evenkeel/client/Window", "take", "()Z"⟩ : MethodName)) hown (mvT hZ (tw hw (i := 168) rfl)) (mvT hZ (tw hw (i := 169) rfl)) (notFace_of_selects (args := #[]) (mvT hZ (tw hw (i := 171) rfl))) (mvT hZ (tw hw (i := 171) rfl)) (mvT hZ (tw hw (i := 170) rfl)) (by decide) (backOf (W := 0) (rm20 l Z a0 hw [] b11 q0 el ea kE (.int xz) (.long q0) (.ref el) (.long q0) (.ref bf31) (.long (-1 : Int64)) (.ref bl31) .null (.ref el) T31.heap n0 sz31 f53 Fne_31 Fca_31 Fcs_31 ge_b11 f54 P_ Fsz_31 Fco_31 Fah_31 Fun_31 Fbf_31 Fre_31 Fbl_31 Ffa_31 Fcf_31) hZ (tw hw (i := 172) rfl) (tw hw (i := 4) rfl) (by decide) (by decide)) q52a q52c (g := (mkF m 76 #[lv p1, .second, iv p2, iv p3, iv p4, iv p5, iv p6, iv xz, iv xk, lv q0, .second, iv xf, lv qk, .second, rv b11, .unset, .unset, .unset, .unset, .unset, .unset, .unset] [(.ref b11)])) rfl (by rw [hml]; rfl) (Steps.refl _) (argsL := []) (rest := []) (lenOf pd_5 rfl) rfl (by show 2 * 0 + _ ≤ _; exact Nat.le_of_eq rfl) (hb hby at_76) (fun _ _ => ⟨rfl, rfl, (by decide : 8 + 0 ≤ _), (by decide : 32 + 0 ≤ _)⟩)
      dsimp only [Pt.U, Pt.locs, Pt.cells, Pt.slots] at X52 l52 y52 z52 st52 hQ52
      subst l52 y52 z52
      obtain ⟨rfl, Nq52, Kc52, Fn2_52, P_oa_size_52, P_oa_committed_52, P_oa_committedAhead_52, P_oa_unfinished_52, P_oa_finished_52, P_oa_restart_52, P_oa_consumed_52, P_oa_consumedAt_52, P_oa_left_52, P_oa_failing_52, P_oa_committedFailures_52⟩ := hQ52
      have N52 := Fr.app N31 Nq52
      have K52 : Keep h0 T52.heap [] := K31.trans Kc52 (allS (Or.inr sz_b11) all0)
      have sz52 : n0 ≤ T52.heap.size := Nat.le_trans sz31 Kc52.1
      have pre55 : ∀ t, own_K p e below m T52 80 #[lv p1, .second, iv p2, iv p3, iv p4, iv p5, iv p6, iv xz, iv xk, lv q0, .second, iv xf, lv qk, .second, rv b11, .unset, .unset, .unset, .unset, .unset, .unset, .unset] [] t → G t := by
        intro t k
        refine pre50 t ?_
        show own_K p e below m T31 71 #[lv p1, .second, iv p2, iv p3, iv p4, iv p5, iv p6, iv xz, iv xk, lv q0, .second, iv xf, lv qk, .second, rv b11, .unset, .unset, .unset, .unset, .unset, .unset, .unset] [(.int xk)] _
        refine XS.ifNo X31.here hx rfl (hb hby at_71) rfl ((if0 _ _).trans (tlt hc71_51).2.2.2) ?_
        show own_K p e below m T31 74 #[lv p1, .second, iv p2, iv p3, iv p4, iv p5, iv p6, iv xz, iv xk, lv q0, .second, iv xf, lv qk, .second, rv b11, .unset, .unset, .unset, .unset, .unset, .unset, .unset] [] _
        refine XS.aload X31.here hx rfl (hb hby at_74) rfl rfl ?_
        show own_K p e below m T31 76 #[lv p1, .second, iv p2, iv p3, iv p4, iv p5, iv p6, iv xz, iv xk, lv q0, .second, iv xf, lv qk, .second, rv b11, .unset, .unset, .unset, .unset, .unset, .unset, .unset] [(.ref b11)] _
        refine st52.trans ?_
        show own_K p e below m T52 79 #[lv p1, .second, iv p2, iv p3, iv p4, iv p5, iv p6, iv xz, iv xk, lv q0, .second, iv xf, lv qk, .second, rv b11, .unset, .unset, .unset, .unset, .unset, .unset, .unset] [(.int (1 : Int32))] _
        refine XS.pop X52.here hx rfl (hb hby at_79) rfl rfl ?_
        exact k
      have f59 : Old Z n0 T52.heap := (f54.keep Kc52 (allS ge_b11 all0))
      have f60 : Exa Z T52.heap b11 "evenkeel/client/Window" := (f53.keep Kc52)
      have f61 : Exa Z T52.heap bf31 "java/util/BitSet" := (Ef_31.keep Kc52)
      have f62 : Fld Z T52.heap bf31 "java/util/BitSet" "wordsInUse" "I" (.int (own_wu (0 : Int64))) := (hwu48.keep Kc52 (ninS (Ne.symm ne_b11_bf31) nin0))
      have f63 : Fld Z T52.heap bf31 "java/util/BitSet" "sizeIsSticky" "Z" (.int (0 : Int32)) := (Fyf_31.keep Kc52 (ninS (Ne.symm ne_b11_bf31) nin0))
      have f64 : Fld Z T52.heap bf31 "java/util/BitSet" "words" "[J" (.ref wf31) := (Fwf_31.keep Kc52 (ninS (Ne.symm ne_b11_bf31) nin0))
      have f65 : Arv Z T52.heap wf31 kf31 .long (1 : Int32) [(.long (0 : Int64))] (.long (0 : Int64)) := (Vf_31.keep Kc52 (ninS (Ne.symm ne_b11_wf31) nin0))
      have f66 : Exa Z T52.heap bl31 "java/util/BitSet" := (El_31.keep Kc52)
      have f67 : Fld Z T52.heap bl31 "java/util/BitSet" "wordsInUse" "I" (.int (own_wu (0 : Int64))) := (hwu49.keep Kc52 (ninS (Ne.symm ne_b11_bl31) nin0))
      have f68 : Fld Z T52.heap bl31 "java/util/BitSet" "sizeIsSticky" "Z" (.int (0 : Int32)) := (Fyl_31.keep Kc52 (ninS (Ne.symm ne_b11_bl31) nin0))
      have f69 : Fld Z T52.heap bl31 "java/util/BitSet" "words" "[J" (.ref wl31) := (Fwl_31.keep Kc52 (ninS (Ne.symm ne_b11_bl31) nin0))
      have f70 : Arv Z T52.heap wl31 kl31 .long (1 : Int32) [(.long (0 : Int64))] (.long (0 : Int64)) := (Vl_31.keep Kc52 (ninS (Ne.symm ne_b11_wl31) nin0))
      have hq := True.intro
      obtain rfl : (q0 + (1 : Int64)) = v58 := by simp only [hv58, if_pos hc71_51]
      exact ⟨_, _, _, X52, N52, rfl, K52, f59, f60, P_oa_committedAhead_52, P_oa_finished_52, P_oa_restart_52, P_oa_left_52, P_oa_size_52, P_oa_committed_52, P_oa_unfinished_52, Fn2_52, P_oa_consumed_52, P_oa_committedFailures_52, P_oa_consumedAt_52, P_oa_failing_52, f61, f62, f63, f64, f65, f66, f67, f68, f69, f70, fun t k => pre55 t k⟩
    · have pre56 : ∀ t, own_K p e below m T31 80 #[lv p1, .second, iv p2, iv p3, iv p4, iv p5, iv p6, iv xz, iv xk, lv q0, .second, iv xf, lv qk, .second, rv b11, .unset, .unset, .unset, .unset, .unset, .unset, .unset] [] t → G t := by
        intro t k
        refine pre50 t ?_
        show own_K p e below m T31 71 #[lv p1, .second, iv p2, iv p3, iv p4, iv p5, iv p6, iv xz, iv xk, lv q0, .second, iv xf, lv qk, .second, rv b11, .unset, .unset, .unset, .unset, .unset, .unset, .unset] [(.int xk)] _
        refine XS.ifYes X31.here hx rfl (pc0 := 71) (pc' := 80) rfl (hb hby at_71) rfl ((if0 _ _).trans (flt hc71_51).2.2.2) (by decide) (by decide) ?_
        exact k
      have f71 : Old Z n0 T31.heap := (f46.keep Kc31 (allS ge_b11 all0))
      have f72 : Exa Z T31.heap b11 "evenkeel/client/Window" := (f32.keep Kc31)
      have hq := True.intro
      obtain rfl : q0 = v58 := by simp only [hv58, if_neg hc71_51]
      exact ⟨_, _, _, X31, N31, rfl, K31, f71, f72, Fah_31, Fbf_31, Fre_31, Fbl_31, Fsz_31, Fco_31, Fun_31, Fne_31, Fcs_31, Fcf_31, Fca_31, Ffa_31, Ef_31, hwu48, Fyf_31, Fwf_31, Vf_31, El_31, hwu49, Fyl_31, Fwl_31, Vl_31, fun t k => pre56 t k⟩
  have pre73 : ∀ t, own_K p e below m T57 83 #[lv p1, .second, iv p2, iv p3, iv p4, iv p5, iv p6, iv xz, iv xk, lv q0, .second, iv xf, lv qk, .second, rv b11, .unset, .unset, .unset, .unset, .unset, .unset, .unset] [(.int (1 : Int32)), (.int xk)] t → G t := by
    intro t k
    refine pre57 t ?_
    show own_K p e below m T57 80 #[lv p1, .second, iv p2, iv p3, iv p4, iv p5, iv p6, iv xz, iv xk, lv q0, .second, iv xf, lv qk, .second, rv b11, .unset, .unset, .unset, .unset, .unset, .unset, .unset] [] _
    refine XS.iload X57.here hx rfl (hb hby at_80) rfl ?_
    show own_K p e below m T57 82 #[lv p1, .second, iv p2, iv p3, iv p4, iv p5, iv p6, iv xz, iv xk, lv q0, .second, iv xf, lv qk, .second, rv b11, .unset, .unset, .unset, .unset, .unset, .unset, .unset] [(.int xk)] _
    refine XS.iconst X57.here hx rfl (hb hby at_82) ?_
    exact k
  obtain ⟨v79, hv79⟩ : ∃ z : Int64, z = (if (1 : Int32) < xk then (v58 + (1 : Int64)) else v58) := ⟨_, rfl⟩
  obtain ⟨T78, h78, lo78, X78, N78, e78, K78, j78_0, j78_1, j78_2, j78_3, j78_4, j78_5, j78_6, j78_7, j78_8, j78_9, j78_10, j78_11, j78_12, j78_13, j78_14, j78_15, j78_16, j78_17, j78_18, j78_19, j78_20, j78_21, j78_22, j78_23, pre78⟩ : ∃ (T' : State) (h' : Heap) (l' : List Loc), Stand p l e room_1 s m #[(.long p1), (.int p2), (.int p3), (.int p4), (.int p5), (.int p6)] below meth c T' l' 8 32 ∧ Fr n0 l' ∧ T'.heap = h' ∧ Keep h0 h' [] ∧ Old Z n0 h' ∧ Exa Z h' b11 "evenkeel/client/Window" ∧ Fld Z h' b11 "evenkeel/client/Window" "committedAhead" "Ljava/util/List;" (.ref el) ∧ Fld Z h' b11 "evenkeel/client/Window" "finished" "Ljava/util/BitSet;" (.ref bf31) ∧ Fld Z h' b11 "evenkeel/client/Window" "restart" "J" (.long (-1 : Int64)) ∧ Fld Z h' b11 "evenkeel/client/Window" "left" "Ljava/util/BitSet;" (.ref bl31) ∧ Fld Z h' b11 "evenkeel/client/Window" "size" "I" (.int xz) ∧ Fld Z h' b11 "evenkeel/client/Window" "committed" "J" (.long q0) ∧ Fld Z h' b11 "evenkeel/client/Window" "unfinished" "J" (.long q0) ∧ Fld Z h' b11 "evenkeel/client/Window" "next" "J" (.long v79) ∧ Fld Z h' b11 "evenkeel/client/Window" "consumed" "Ljava/util/List;" (.ref el) ∧ Fld Z h' b11 "evenkeel/client/Window" "committedFailures" "Ljava/util/List;" (.ref el) ∧ Fld Z h' b11 "evenkeel/client/Window" "consumedAt" "I" (.int (0 : Int32)) ∧ Fld Z h' b11 "evenkeel/client/Window" "failing" "Ljava/util/TreeMap;" .null ∧ Exa Z h' bf31 "java/util/BitSet" ∧ Fld Z h' bf31 "java/util/BitSet" "wordsInUse" "I" (.int (own_wu (0 : Int64))) ∧ Fld Z h' bf31 "java/util/BitSet" "sizeIsSticky" "Z" (.int (0 : Int32)) ∧ Fld Z h' bf31 "java/util/BitSet" "words" "[J" (.ref wf31) ∧ Arv Z h' wf31 kf31 .long (1 : Int32) [(.long (0 : Int64))] (.long (0 : Int64)) ∧ Exa Z h' bl31 "java/util/BitSet" ∧ Fld Z h' bl31 "java/util/BitSet" "wordsInUse" "I" (.int (own_wu (0 : Int64))) ∧ Fld Z h' bl31 "java/util/BitSet" "sizeIsSticky" "Z" (.int (0 : Int32)) ∧ Fld Z h' bl31 "java/util/BitSet" "words" "[J" (.ref wl31) ∧ Arv Z h' wl31 kl31 .long (1 : Int32) [(.long (0 : Int64))] (.long (0 : Int64)) ∧ ∀ t, own_K p e below m T' 92 #[lv p1, .second, iv p2, iv p3, iv p4, iv p5, iv p6, iv xz, iv xk, lv q0, .second, iv xf, lv qk, .second, rv b11, .unset, .unset, .unset, .unset, .unset, .unset, .unset] [] t → G t := by
    by_cases hc83_74 : (1 : Int32) < xk
    · obtain ⟨cq75, kq75, q75a, q75b, q75c⟩ := isOf hZ e57 j57_1
      obtain ⟨_, _, ⟨T75, L75, k75, n75⟩, -, X75, ⟨Lc75, hQ75, l75, y75, z75⟩, st75⟩ := X57.virtualBack hx (y := (⟨"evenkeel/client/Window", "take", "()Z"⟩ : MethodName)) (z := (⟨"evenkeel/client/Window", "take", "()Z"⟩ : MethodName)) hown (mvT hZ (tw hw (i := 168) rfl)) (mvT hZ (tw hw (i := 169) rfl)) (notFace_of_selects (args := #[]) (mvT hZ (tw hw (i := 171) rfl))) (mvT hZ (tw hw (i := 171) rfl)) (mvT hZ (tw hw (i := 170) rfl)) (by decide) (backOf (W := 0) (rm20 l Z a0 hw [] b11 v58 el ea kE (.int xz) (.long q0) (.ref el) (.long q0) (.ref bf31) (.long (-1 : Int64)) (.ref bl31) .null (.ref el) h57 n0 (Nat.le_trans Z0 K57.1) j57_1 j57_9 j57_12 j57_10 ge_b11 j57_0 P_ j57_6 j57_7 j57_2 j57_8 j57_3 j57_4 j57_5 j57_13 j57_11) hZ (tw hw (i := 172) rfl) (tw hw (i := 4) rfl) (by decide) (by decide)) q75a q75c (g := (mkF m 88 #[lv p1, .second, iv p2, iv p3, iv p4, iv p5, iv p6, iv xz, iv xk, lv q0, .second, iv xf, lv qk, .second, rv b11, .unset, .unset, .unset, .unset, .unset, .unset, .unset] [(.ref b11)])) rfl (by rw [hml]; rfl) (Steps.refl _) (argsL := []) (rest := []) (lenOf pd_5 rfl) rfl (by show 2 * 0 + _ ≤ _; exact Nat.le_of_eq rfl) (hb hby at_88) (fun _ _ => ⟨rfl, e57, (by decide : 8 + 0 ≤ _), (by decide : 32 + 0 ≤ _)⟩)
      dsimp only [Pt.U, Pt.locs, Pt.cells, Pt.slots] at X75 l75 y75 z75 st75 hQ75
      subst l75 y75 z75
      obtain ⟨rfl, Nq75, Kc75, Fn2_75, P_oa_size_75, P_oa_committed_75, P_oa_committedAhead_75, P_oa_unfinished_75, P_oa_finished_75, P_oa_restart_75, P_oa_consumed_75, P_oa_consumedAt_75, P_oa_left_75, P_oa_failing_75, P_oa_committedFailures_75⟩ := hQ75
      have N75 := Fr.app N57 Nq75
      have K75 : Keep h0 T75.heap [] := K57.trans Kc75 (allS (Or.inr sz_b11) all0)
      have sz75 : n0 ≤ T75.heap.size := Nat.le_trans (Nat.le_trans Z0 K57.1) Kc75.1
      have pre76 : ∀ t, own_K p e below m T75 92 #[lv p1, .second, iv p2, iv p3, iv p4, iv p5, iv p6, iv xz, iv xk, lv q0, .second, iv xf, lv qk, .second, rv b11, .unset, .unset, .unset, .unset, .unset, .unset, .unset] [] t → G t := by
        intro t k
        refine pre73 t ?_
        show own_K p e below m T57 83 #[lv p1, .second, iv p2, iv p3, iv p4, iv p5, iv p6, iv xz, iv xk, lv q0, .second, iv xf, lv qk, .second, rv b11, .unset, .unset, .unset, .unset, .unset, .unset, .unset] [(.int (1 : Int32)), (.int xk)] _
        refine XS.icmpNo X57.here hx rfl (hb hby at_83) rfl (tlt hc83_74).2.2.2 ?_
        show own_K p e below m T57 86 #[lv p1, .second, iv p2, iv p3, iv p4, iv p5, iv p6, iv xz, iv xk, lv q0, .second, iv xf, lv qk, .second, rv b11, .unset, .unset, .unset, .unset, .unset, .unset, .unset] [] _
        refine XS.aload X57.here hx rfl (hb hby at_86) rfl rfl ?_
        show own_K p e below m T57 88 #[lv p1, .second, iv p2, iv p3, iv p4, iv p5, iv p6, iv xz, iv xk, lv q0, .second, iv xf, lv qk, .second, rv b11, .unset, .unset, .unset, .unset, .unset, .unset, .unset] [(.ref b11)] _
        refine st75.trans ?_
        show own_K p e below m T75 91 #[lv p1, .second, iv p2, iv p3, iv p4, iv p5, iv p6, iv xz, iv xk, lv q0, .second, iv xf, lv qk, .second, rv b11, .unset, .unset, .unset, .unset, .unset, .unset, .unset] [(.int (1 : Int32))] _
        refine XS.pop X75.here hx rfl (hb hby at_91) rfl rfl ?_
        exact k
      have f80 : Old Z n0 T75.heap := (j57_0.keep Kc75 (allS ge_b11 all0))
      have f81 : Exa Z T75.heap b11 "evenkeel/client/Window" := (j57_1.keep Kc75)
      have f82 : Exa Z T75.heap bf31 "java/util/BitSet" := (j57_14.keep Kc75)
      have f83 : Fld Z T75.heap bf31 "java/util/BitSet" "wordsInUse" "I" (.int (own_wu (0 : Int64))) := (j57_15.keep Kc75 (ninS (Ne.symm ne_b11_bf31) nin0))
      have f84 : Fld Z T75.heap bf31 "java/util/BitSet" "sizeIsSticky" "Z" (.int (0 : Int32)) := (j57_16.keep Kc75 (ninS (Ne.symm ne_b11_bf31) nin0))
      have f85 : Fld Z T75.heap bf31 "java/util/BitSet" "words" "[J" (.ref wf31) := (j57_17.keep Kc75 (ninS (Ne.symm ne_b11_bf31) nin0))
      have f86 : Arv Z T75.heap wf31 kf31 .long (1 : Int32) [(.long (0 : Int64))] (.long (0 : Int64)) := (j57_18.keep Kc75 (ninS (Ne.symm ne_b11_wf31) nin0))
      have f87 : Exa Z T75.heap bl31 "java/util/BitSet" := (j57_19.keep Kc75)
      have f88 : Fld Z T75.heap bl31 "java/util/BitSet" "wordsInUse" "I" (.int (own_wu (0 : Int64))) := (j57_20.keep Kc75 (ninS (Ne.symm ne_b11_bl31) nin0))
      have f89 : Fld Z T75.heap bl31 "java/util/BitSet" "sizeIsSticky" "Z" (.int (0 : Int32)) := (j57_21.keep Kc75 (ninS (Ne.symm ne_b11_bl31) nin0))
      have f90 : Fld Z T75.heap bl31 "java/util/BitSet" "words" "[J" (.ref wl31) := (j57_22.keep Kc75 (ninS (Ne.symm ne_b11_bl31) nin0))
      have f91 : Arv Z T75.heap wl31 kl31 .long (1 : Int32) [(.long (0 : Int64))] (.long (0 : Int64)) := (j57_23.keep Kc75 (ninS (Ne.symm ne_b11_wl31) nin0))
      have hq := True.intro
      obtain rfl : (v58 + (1 : Int64)) = v79 := by simp only [hv79, if_pos hc83_74]
      exact ⟨_, _, _, X75, N75, rfl, K75, f80, f81, P_oa_committedAhead_75, P_oa_finished_75, P_oa_restart_75, P_oa_left_75, P_oa_size_75, P_oa_committed_75, P_oa_unfinished_75, Fn2_75, P_oa_consumed_75, P_oa_committedFailures_75, P_oa_consumedAt_75, P_oa_failing_75, f82, f83, f84, f85, f86, f87, f88, f89, f90, f91, fun t k => pre76 t k⟩
    · have pre77 : ∀ t, own_K p e below m T57 92 #[lv p1, .second, iv p2, iv p3, iv p4, iv p5, iv p6, iv xz, iv xk, lv q0, .second, iv xf, lv qk, .second, rv b11, .unset, .unset, .unset, .unset, .unset, .unset, .unset] [] t → G t := by
        intro t k
        refine pre73 t ?_
        show own_K p e below m T57 83 #[lv p1, .second, iv p2, iv p3, iv p4, iv p5, iv p6, iv xz, iv xk, lv q0, .second, iv xf, lv qk, .second, rv b11, .unset, .unset, .unset, .unset, .unset, .unset, .unset] [(.int (1 : Int32)), (.int xk)] _
        refine XS.icmpYes X57.here hx rfl (pc0 := 83) (pc' := 92) rfl (hb hby at_83) rfl (flt hc83_74).2.2.2 (by decide) (by decide) ?_
        exact k
      have hq := True.intro
      obtain rfl : v58 = v79 := by simp only [hv79, if_neg hc83_74]
      exact ⟨_, _, _, X57, N57, e57, K57, j57_0, j57_1, j57_2, j57_3, j57_4, j57_5, j57_6, j57_7, j57_8, j57_9, j57_10, j57_11, j57_12, j57_13, j57_14, j57_15, j57_16, j57_17, j57_18, j57_19, j57_20, j57_21, j57_22, j57_23, fun t k => pre77 t k⟩
  have pre92 : ∀ t, own_K p e below m T78 95 #[lv p1, .second, iv p2, iv p3, iv p4, iv p5, iv p6, iv xz, iv xk, lv q0, .second, iv xf, lv qk, .second, rv b11, .unset, .unset, .unset, .unset, .unset, .unset, .unset] [(.int (2 : Int32)), (.int xk)] t → G t := by
    intro t k
    refine pre78 t ?_
    show own_K p e below m T78 92 #[lv p1, .second, iv p2, iv p3, iv p4, iv p5, iv p6, iv xz, iv xk, lv q0, .second, iv xf, lv qk, .second, rv b11, .unset, .unset, .unset, .unset, .unset, .unset, .unset] [] _
    refine XS.iload X78.here hx rfl (hb hby at_92) rfl ?_
    show own_K p e below m T78 94 #[lv p1, .second, iv p2, iv p3, iv p4, iv p5, iv p6, iv xz, iv xk, lv q0, .second, iv xf, lv qk, .second, rv b11, .unset, .unset, .unset, .unset, .unset, .unset, .unset] [(.int xk)] _
    refine XS.iconst X78.here hx rfl (hb hby at_94) ?_
    exact k
  obtain ⟨v98, hv98⟩ : ∃ z : Int64, z = (if (2 : Int32) < xk then (v79 + (1 : Int64)) else v79) := ⟨_, rfl⟩
  obtain ⟨T97, h97, lo97, X97, N97, e97, K97, j97_0, j97_1, j97_2, j97_3, j97_4, j97_5, j97_6, j97_7, j97_8, j97_9, j97_10, j97_11, j97_12, j97_13, j97_14, j97_15, j97_16, j97_17, j97_18, j97_19, j97_20, j97_21, j97_22, j97_23, pre97⟩ : ∃ (T' : State) (h' : Heap) (l' : List Loc), Stand p l e room_1 s m #[(.long p1), (.int p2), (.int p3), (.int p4), (.int p5), (.int p6)] below meth c T' l' 8 32 ∧ Fr n0 l' ∧ T'.heap = h' ∧ Keep h0 h' [] ∧ Old Z n0 h' ∧ Exa Z h' b11 "evenkeel/client/Window" ∧ Fld Z h' b11 "evenkeel/client/Window" "committedAhead" "Ljava/util/List;" (.ref el) ∧ Fld Z h' b11 "evenkeel/client/Window" "finished" "Ljava/util/BitSet;" (.ref bf31) ∧ Fld Z h' b11 "evenkeel/client/Window" "restart" "J" (.long (-1 : Int64)) ∧ Fld Z h' b11 "evenkeel/client/Window" "left" "Ljava/util/BitSet;" (.ref bl31) ∧ Fld Z h' b11 "evenkeel/client/Window" "size" "I" (.int xz) ∧ Fld Z h' b11 "evenkeel/client/Window" "committed" "J" (.long q0) ∧ Fld Z h' b11 "evenkeel/client/Window" "unfinished" "J" (.long q0) ∧ Fld Z h' b11 "evenkeel/client/Window" "next" "J" (.long v98) ∧ Fld Z h' b11 "evenkeel/client/Window" "consumed" "Ljava/util/List;" (.ref el) ∧ Fld Z h' b11 "evenkeel/client/Window" "committedFailures" "Ljava/util/List;" (.ref el) ∧ Fld Z h' b11 "evenkeel/client/Window" "consumedAt" "I" (.int (0 : Int32)) ∧ Fld Z h' b11 "evenkeel/client/Window" "failing" "Ljava/util/TreeMap;" .null ∧ Exa Z h' bf31 "java/util/BitSet" ∧ Fld Z h' bf31 "java/util/BitSet" "wordsInUse" "I" (.int (own_wu (0 : Int64))) ∧ Fld Z h' bf31 "java/util/BitSet" "sizeIsSticky" "Z" (.int (0 : Int32)) ∧ Fld Z h' bf31 "java/util/BitSet" "words" "[J" (.ref wf31) ∧ Arv Z h' wf31 kf31 .long (1 : Int32) [(.long (0 : Int64))] (.long (0 : Int64)) ∧ Exa Z h' bl31 "java/util/BitSet" ∧ Fld Z h' bl31 "java/util/BitSet" "wordsInUse" "I" (.int (own_wu (0 : Int64))) ∧ Fld Z h' bl31 "java/util/BitSet" "sizeIsSticky" "Z" (.int (0 : Int32)) ∧ Fld Z h' bl31 "java/util/BitSet" "words" "[J" (.ref wl31) ∧ Arv Z h' wl31 kl31 .long (1 : Int32) [(.long (0 : Int64))] (.long (0 : Int64)) ∧ ∀ t, own_K p e below m T' 104 #[lv p1, .second, iv p2, iv p3, iv p4, iv p5, iv p6, iv xz, iv xk, lv q0, .second, iv xf, lv qk, .second, rv b11, .unset, .unset, .unset, .unset, .unset, .unset, .unset] [] t → G t := by
    by_cases hc95_93 : (2 : Int32) < xk
    · obtain ⟨cq94, kq94, q94a, q94b, q94c⟩ := isOf hZ e78 j78_1
      obtain ⟨_, _, ⟨T94, L94, k94, n94⟩, -, X94, ⟨Lc94, hQ94, l94, y94, z94⟩, st94⟩ := X78.virtualBack hx (y := (⟨"evenkeel/client/Window", "take", "()Z"⟩ : MethodName)) (z := (⟨"evenkeel/client/Window", "take", "()Z"⟩ : MethodName)) hown (mvT hZ (tw hw (i := 168) rfl)) (mvT hZ (tw hw (i := 169) rfl)) (notFace_of_selects (args := #[]) (mvT hZ (tw hw (i := 171) rfl))) (mvT hZ (tw hw (i := 171) rfl)) (mvT hZ (tw hw (i := 170) rfl)) (by decide) (backOf (W := 0) (rm20 l Z a0 hw [] b11 v79 el ea kE (.int xz) (.long q0) (.ref el) (.long q0) (.ref bf31) (.long (-1 : Int64)) (.ref bl31) .null (.ref el) h78 n0 (Nat.le_trans Z0 K78.1) j78_1 j78_9 j78_12 j78_10 ge_b11 j78_0 P_ j78_6 j78_7 j78_2 j78_8 j78_3 j78_4 j78_5 j78_13 j78_11) hZ (tw hw (i := 172) rfl) (tw hw (i := 4) rfl) (by decide) (by decide)) q94a q94c (g := (mkF m 100 #[lv p1, .second, iv p2, iv p3, iv p4, iv p5, iv p6, iv xz, iv xk, lv q0, .second, iv xf, lv qk, .second, rv b11, .unset, .unset, .unset, .unset, .unset, .unset, .unset] [(.ref b11)])) rfl (by rw [hml]; rfl) (Steps.refl _) (argsL := []) (rest := []) (lenOf pd_5 rfl) rfl (by show 2 * 0 + _ ≤ _; exact Nat.le_of_eq rfl) (hb hby at_100) (fun _ _ => ⟨rfl, e78, (by decide : 8 + 0 ≤ _), (by decide : 32 + 0 ≤ _)⟩)
      dsimp only [Pt.U, Pt.locs, Pt.cells, Pt.slots] at X94 l94 y94 z94 st94 hQ94
      subst l94 y94 z94
      obtain ⟨rfl, Nq94, Kc94, Fn2_94, P_oa_size_94, P_oa_committed_94, P_oa_committedAhead_94, P_oa_unfinished_94, P_oa_finished_94, P_oa_restart_94, P_oa_consumed_94, P_oa_consumedAt_94, P_oa_left_94, P_oa_failing_94, P_oa_committedFailures_94⟩ := hQ94
      have N94 := Fr.app N78 Nq94
      have K94 : Keep h0 T94.heap [] := K78.trans Kc94 (allS (Or.inr sz_b11) all0)
      have sz94 : n0 ≤ T94.heap.size := Nat.le_trans (Nat.le_trans Z0 K78.1) Kc94.1
      have pre95 : ∀ t, own_K p e below m T94 104 #[lv p1, .second, iv p2, iv p3, iv p4, iv p5, iv p6, iv xz, iv xk, lv q0, .second, iv xf, lv qk, .second, rv b11, .unset, .unset, .unset, .unset, .unset, .unset, .unset] [] t → G t := by
        intro t k
        refine pre92 t ?_
        show own_K p e below m T78 95 #[lv p1, .second, iv p2, iv p3, iv p4, iv p5, iv p6, iv xz, iv xk, lv q0, .second, iv xf, lv qk, .second, rv b11, .unset, .unset, .unset, .unset, .unset, .unset, .unset] [(.int (2 : Int32)), (.int xk)] _
        refine XS.icmpNo X78.here hx rfl (hb hby at_95) rfl (tlt hc95_93).2.2.2 ?_
        show own_K p e below m T78 98 #[lv p1, .second, iv p2, iv p3, iv p4, iv p5, iv p6, iv xz, iv xk, lv q0, .second, iv xf, lv qk, .second, rv b11, .unset, .unset, .unset, .unset, .unset, .unset, .unset] [] _
        refine XS.aload X78.here hx rfl (hb hby at_98) rfl rfl ?_
        show own_K p e below m T78 100 #[lv p1, .second, iv p2, iv p3, iv p4, iv p5, iv p6, iv xz, iv xk, lv q0, .second, iv xf, lv qk, .second, rv b11, .unset, .unset, .unset, .unset, .unset, .unset, .unset] [(.ref b11)] _
        refine st94.trans ?_
        show own_K p e below m T94 103 #[lv p1, .second, iv p2, iv p3, iv p4, iv p5, iv p6, iv xz, iv xk, lv q0, .second, iv xf, lv qk, .second, rv b11, .unset, .unset, .unset, .unset, .unset, .unset, .unset] [(.int (1 : Int32))] _
        refine XS.pop X94.here hx rfl (hb hby at_103) rfl rfl ?_
        exact k
      have f99 : Old Z n0 T94.heap := (j78_0.keep Kc94 (allS ge_b11 all0))
      have f100 : Exa Z T94.heap b11 "evenkeel/client/Window" := (j78_1.keep Kc94)
      have f101 : Exa Z T94.heap bf31 "java/util/BitSet" := (j78_14.keep Kc94)
      have f102 : Fld Z T94.heap bf31 "java/util/BitSet" "wordsInUse" "I" (.int (own_wu (0 : Int64))) := (j78_15.keep Kc94 (ninS (Ne.symm ne_b11_bf31) nin0))
      have f103 : Fld Z T94.heap bf31 "java/util/BitSet" "sizeIsSticky" "Z" (.int (0 : Int32)) := (j78_16.keep Kc94 (ninS (Ne.symm ne_b11_bf31) nin0))
      have f104 : Fld Z T94.heap bf31 "java/util/BitSet" "words" "[J" (.ref wf31) := (j78_17.keep Kc94 (ninS (Ne.symm ne_b11_bf31) nin0))
      have f105 : Arv Z T94.heap wf31 kf31 .long (1 : Int32) [(.long (0 : Int64))] (.long (0 : Int64)) := (j78_18.keep Kc94 (ninS (Ne.symm ne_b11_wf31) nin0))
      have f106 : Exa Z T94.heap bl31 "java/util/BitSet" := (j78_19.keep Kc94)
      have f107 : Fld Z T94.heap bl31 "java/util/BitSet" "wordsInUse" "I" (.int (own_wu (0 : Int64))) := (j78_20.keep Kc94 (ninS (Ne.symm ne_b11_bl31) nin0))
      have f108 : Fld Z T94.heap bl31 "java/util/BitSet" "sizeIsSticky" "Z" (.int (0 : Int32)) := (j78_21.keep Kc94 (ninS (Ne.symm ne_b11_bl31) nin0))
      have f109 : Fld Z T94.heap bl31 "java/util/BitSet" "words" "[J" (.ref wl31) := (j78_22.keep Kc94 (ninS (Ne.symm ne_b11_bl31) nin0))
      have f110 : Arv Z T94.heap wl31 kl31 .long (1 : Int32) [(.long (0 : Int64))] (.long (0 : Int64)) := (j78_23.keep Kc94 (ninS (Ne.symm ne_b11_wl31) nin0))
      have hq := True.intro
      obtain rfl : (v79 + (1 : Int64)) = v98 := by simp only [hv98, if_pos hc95_93]
      exact ⟨_, _, _, X94, N94, rfl, K94, f99, f100, P_oa_committedAhead_94, P_oa_finished_94, P_oa_restart_94, P_oa_left_94, P_oa_size_94, P_oa_committed_94, P_oa_unfinished_94, Fn2_94, P_oa_consumed_94, P_oa_committedFailures_94, P_oa_consumedAt_94, P_oa_failing_94, f101, f102, f103, f104, f105, f106, f107, f108, f109, f110, fun t k => pre95 t k⟩
    · have pre96 : ∀ t, own_K p e below m T78 104 #[lv p1, .second, iv p2, iv p3, iv p4, iv p5, iv p6, iv xz, iv xk, lv q0, .second, iv xf, lv qk, .second, rv b11, .unset, .unset, .unset, .unset, .unset, .unset, .unset] [] t → G t := by
        intro t k
        refine pre92 t ?_
        show own_K p e below m T78 95 #[lv p1, .second, iv p2, iv p3, iv p4, iv p5, iv p6, iv xz, iv xk, lv q0, .second, iv xf, lv qk, .second, rv b11, .unset, .unset, .unset, .unset, .unset, .unset, .unset] [(.int (2 : Int32)), (.int xk)] _
        refine XS.icmpYes X78.here hx rfl (pc0 := 95) (pc' := 104) rfl (hb hby at_95) rfl (flt hc95_93).2.2.2 (by decide) (by decide) ?_
        exact k
      have hq := True.intro
      obtain rfl : v79 = v98 := by simp only [hv98, if_neg hc95_93]
      exact ⟨_, _, _, X78, N78, e78, K78, j78_0, j78_1, j78_2, j78_3, j78_4, j78_5, j78_6, j78_7, j78_8, j78_9, j78_10, j78_11, j78_12, j78_13, j78_14, j78_15, j78_16, j78_17, j78_18, j78_19, j78_20, j78_21, j78_22, j78_23, fun t k => pre96 t k⟩
  have pre111 : ∀ t, own_K p e below m T97 107 #[lv p1, .second, iv p2, iv p3, iv p4, iv p5, iv p6, iv xz, iv xk, lv q0, .second, iv xf, lv qk, .second, rv b11, .unset, .unset, .unset, .unset, .unset, .unset, .unset] [(.int (3 : Int32)), (.int xk)] t → G t := by
    intro t k
    refine pre97 t ?_
    show own_K p e below m T97 104 #[lv p1, .second, iv p2, iv p3, iv p4, iv p5, iv p6, iv xz, iv xk, lv q0, .second, iv xf, lv qk, .second, rv b11, .unset, .unset, .unset, .unset, .unset, .unset, .unset] [] _
    refine XS.iload X97.here hx rfl (hb hby at_104) rfl ?_
    show own_K p e below m T97 106 #[lv p1, .second, iv p2, iv p3, iv p4, iv p5, iv p6, iv xz, iv xk, lv q0, .second, iv xf, lv qk, .second, rv b11, .unset, .unset, .unset, .unset, .unset, .unset, .unset] [(.int xk)] _
    refine XS.iconst X97.here hx rfl (hb hby at_106) ?_
    exact k
  obtain ⟨v117, hv117⟩ : ∃ z : Int64, z = (if (3 : Int32) < xk then (v98 + (1 : Int64)) else v98) := ⟨_, rfl⟩
  obtain ⟨T116, h116, lo116, X116, N116, e116, K116, j116_0, j116_1, j116_2, j116_3, j116_4, j116_5, j116_6, j116_7, j116_8, j116_9, j116_10, j116_11, j116_12, j116_13, j116_14, j116_15, j116_16, j116_17, j116_18, j116_19, j116_20, j116_21, j116_22, j116_23, pre116⟩ : ∃ (T' : State) (h' : Heap) (l' : List Loc), Stand p l e room_1 s m #[(.long p1), (.int p2), (.int p3), (.int p4), (.int p5), (.int p6)] below meth c T' l' 8 32 ∧ Fr n0 l' ∧ T'.heap = h' ∧ Keep h0 h' [] ∧ Old Z n0 h' ∧ Exa Z h' b11 "evenkeel/client/Window" ∧ Fld Z h' b11 "evenkeel/client/Window" "committedAhead" "Ljava/util/List;" (.ref el) ∧ Fld Z h' b11 "evenkeel/client/Window" "finished" "Ljava/util/BitSet;" (.ref bf31) ∧ Fld Z h' b11 "evenkeel/client/Window" "restart" "J" (.long (-1 : Int64)) ∧ Fld Z h' b11 "evenkeel/client/Window" "left" "Ljava/util/BitSet;" (.ref bl31) ∧ Fld Z h' b11 "evenkeel/client/Window" "size" "I" (.int xz) ∧ Fld Z h' b11 "evenkeel/client/Window" "committed" "J" (.long q0) ∧ Fld Z h' b11 "evenkeel/client/Window" "unfinished" "J" (.long q0) ∧ Fld Z h' b11 "evenkeel/client/Window" "next" "J" (.long v117) ∧ Fld Z h' b11 "evenkeel/client/Window" "consumed" "Ljava/util/List;" (.ref el) ∧ Fld Z h' b11 "evenkeel/client/Window" "committedFailures" "Ljava/util/List;" (.ref el) ∧ Fld Z h' b11 "evenkeel/client/Window" "consumedAt" "I" (.int (0 : Int32)) ∧ Fld Z h' b11 "evenkeel/client/Window" "failing" "Ljava/util/TreeMap;" .null ∧ Exa Z h' bf31 "java/util/BitSet" ∧ Fld Z h' bf31 "java/util/BitSet" "wordsInUse" "I" (.int (own_wu (0 : Int64))) ∧ Fld Z h' bf31 "java/util/BitSet" "sizeIsSticky" "Z" (.int (0 : Int32)) ∧ Fld Z h' bf31 "java/util/BitSet" "words" "[J" (.ref wf31) ∧ Arv Z h' wf31 kf31 .long (1 : Int32) [(.long (0 : Int64))] (.long (0 : Int64)) ∧ Exa Z h' bl31 "java/util/BitSet" ∧ Fld Z h' bl31 "java/util/BitSet" "wordsInUse" "I" (.int (own_wu (0 : Int64))) ∧ Fld Z h' bl31 "java/util/BitSet" "sizeIsSticky" "Z" (.int (0 : Int32)) ∧ Fld Z h' bl31 "java/util/BitSet" "words" "[J" (.ref wl31) ∧ Arv Z h' wl31 kl31 .long (1 : Int32) [(.long (0 : Int64))] (.long (0 : Int64)) ∧ ∀ t, own_K p e below m T' 116 #[lv p1, .second, iv p2, iv p3, iv p4, iv p5, iv p6, iv xz, iv xk, lv q0, .second, iv xf, lv qk, .second, rv b11, .unset, .unset, .unset, .unset, .unset, .unset, .unset] [] t → G t := by
    by_cases hc107_112 : (3 : Int32) < xk
    · obtain ⟨cq113, kq113, q113a, q113b, q113c⟩ := isOf hZ e97 j97_1
      obtain ⟨_, _, ⟨T113, L113, k113, n113⟩, -, X113, ⟨Lc113, hQ113, l113, y113, z113⟩, st113⟩ := X97.virtualBack hx (y := (⟨"evenkeel/client/Window", "take", "()Z"⟩ : MethodName)) (z := (⟨"evenkeel/client/Window", "take", "()Z"⟩ : MethodName)) hown (mvT hZ (tw hw (i := 168) rfl)) (mvT hZ (tw hw (i := 169) rfl)) (notFace_of_selects (args := #[]) (mvT hZ (tw hw (i := 171) rfl))) (mvT hZ (tw hw (i := 171) rfl)) (mvT hZ (tw hw (i := 170) rfl)) (by decide) (backOf (W := 0) (rm20 l Z a0 hw [] b11 v98 el ea kE (.int xz) (.long q0) (.ref el) (.long q0) (.ref bf31) (.long (-1 : Int64)) (.ref bl31) .null (.ref el) h97 n0 (Nat.le_trans Z0 K97.1) j97_1 j97_9 j97_12 j97_10 ge_b11 j97_0 P_ j97_6 j97_7 j97_2 j97_8 j97_3 j97_4 j97_5 j97_13 j97_11) hZ (tw hw (i := 172) rfl) (tw hw (i := 4) rfl) (by decide) (by decide)) q113a q113c (g := (mkF m 112 #[lv p1, .second, iv p2, iv p3, iv p4, iv p5, iv p6, iv xz, iv xk, lv q0, .second, iv xf, lv qk, .second, rv b11, .unset, .unset, .unset, .unset, .unset, .unset, .unset] [(.ref b11)])) rfl (by rw [hml]; rfl) (Steps.refl _) (argsL := []) (rest := []) (lenOf pd_5 rfl) rfl (by show 2 * 0 + _ ≤ _; exact Nat.le_of_eq rfl) (hb hby at_112) (fun _ _ => ⟨rfl, e97, (by decide : 8 + 0 ≤ _), (by decide : 32 + 0 ≤ _)⟩)
      dsimp only [Pt.U, Pt.locs, Pt.cells, Pt.slots] at X113 l113 y113 z113 st113 hQ113
      subst l113 y113 z113
      obtain ⟨rfl, Nq113, Kc113, Fn2_113, P_oa_size_113, P_oa_committed_113, P_oa_committedAhead_113, P_oa_unfinished_113, P_oa_finished_113, P_oa_restart_113, P_oa_consumed_113, P_oa_consumedAt_113, P_oa_left_113, P_oa_failing_113, P_oa_committedFailures_113⟩ := hQ113
      have N113 := Fr.app N97 Nq113
      have K113 : Keep h0 T113.heap [] := K97.trans Kc113 (allS (Or.inr sz_b11) all0)
      have sz113 : n0 ≤ T113.heap.size := Nat.le_trans (Nat.le_trans Z0 K97.1) Kc113.1
      have pre114 : ∀ t, own_K p e below m T113 116 #[lv p1, .second, iv p2, iv p3, iv p4, iv p5, iv p6, iv xz, iv xk, lv q0, .second, iv xf, lv qk, .second, rv b11, .unset, .unset, .unset, .unset, .unset, .unset, .unset] [] t → G t := by
        intro t k
        refine pre111 t ?_
        show own_K p e below m T97 107 #[lv p1, .second, iv p2, iv p3, iv p4, iv p5, iv p6, iv xz, iv xk, lv q0, .second, iv xf, lv qk, .second, rv b11, .unset, .unset, .unset, .unset, .unset, .unset, .unset] [(.int (3 : Int32)), (.int xk)] _
        refine XS.icmpNo X97.here hx rfl (hb hby at_107) rfl (tlt hc107_112).2.2.2 ?_
        show own_K p e below m T97 110 #[lv p1, .second, iv p2, iv p3, iv p4, iv p5, iv p6, iv xz, iv xk, lv q0, .second, iv xf, lv qk, .second, rv b11, .unset, .unset, .unset, .unset, .unset, .unset, .unset] [] _
        refine XS.aload X97.here hx rfl (hb hby at_110) rfl rfl ?_
        show own_K p e below m T97 112 #[lv p1, .second, iv p2, iv p3, iv p4, iv p5, iv p6, iv xz, iv xk, lv q0, .second, iv xf, lv qk, .second, rv b11, .unset, .unset, .unset, .unset, .unset, .unset, .unset] [(.ref b11)] _
        refine st113.trans ?_
        show own_K p e below m T113 115 #[lv p1, .second, iv p2, iv p3, iv p4, iv p5, iv p6, iv xz, iv xk, lv q0, .second, iv xf, lv qk, .second, rv b11, .unset, .unset, .unset, .unset, .unset, .unset, .unset] [(.int (1 : Int32))] _
        refine XS.pop X113.here hx rfl (hb hby at_115) rfl rfl ?_
        exact k
      have f118 : Old Z n0 T113.heap := (j97_0.keep Kc113 (allS ge_b11 all0))
      have f119 : Exa Z T113.heap b11 "evenkeel/client/Window" := (j97_1.keep Kc113)
      have f120 : Exa Z T113.heap bf31 "java/util/BitSet" := (j97_14.keep Kc113)
      have f121 : Fld Z T113.heap bf31 "java/util/BitSet" "wordsInUse" "I" (.int (own_wu (0 : Int64))) := (j97_15.keep Kc113 (ninS (Ne.symm ne_b11_bf31) nin0))
      have f122 : Fld Z T113.heap bf31 "java/util/BitSet" "sizeIsSticky" "Z" (.int (0 : Int32)) := (j97_16.keep Kc113 (ninS (Ne.symm ne_b11_bf31) nin0))
      have f123 : Fld Z T113.heap bf31 "java/util/BitSet" "words" "[J" (.ref wf31) := (j97_17.keep Kc113 (ninS (Ne.symm ne_b11_bf31) nin0))
      have f124 : Arv Z T113.heap wf31 kf31 .long (1 : Int32) [(.long (0 : Int64))] (.long (0 : Int64)) := (j97_18.keep Kc113 (ninS (Ne.symm ne_b11_wf31) nin0))
      have f125 : Exa Z T113.heap bl31 "java/util/BitSet" := (j97_19.keep Kc113)
      have f126 : Fld Z T113.heap bl31 "java/util/BitSet" "wordsInUse" "I" (.int (own_wu (0 : Int64))) := (j97_20.keep Kc113 (ninS (Ne.symm ne_b11_bl31) nin0))
      have f127 : Fld Z T113.heap bl31 "java/util/BitSet" "sizeIsSticky" "Z" (.int (0 : Int32)) := (j97_21.keep Kc113 (ninS (Ne.symm ne_b11_bl31) nin0))
      have f128 : Fld Z T113.heap bl31 "java/util/BitSet" "words" "[J" (.ref wl31) := (j97_22.keep Kc113 (ninS (Ne.symm ne_b11_bl31) nin0))
      have f129 : Arv Z T113.heap wl31 kl31 .long (1 : Int32) [(.long (0 : Int64))] (.long (0 : Int64)) := (j97_23.keep Kc113 (ninS (Ne.symm ne_b11_wl31) nin0))
      have hq := True.intro
      obtain rfl : (v98 + (1 : Int64)) = v117 := by simp only [hv117, if_pos hc107_112]
      exact ⟨_, _, _, X113, N113, rfl, K113, f118, f119, P_oa_committedAhead_113, P_oa_finished_113, P_oa_restart_113, P_oa_left_113, P_oa_size_113, P_oa_committed_113, P_oa_unfinished_113, Fn2_113, P_oa_consumed_113, P_oa_committedFailures_113, P_oa_consumedAt_113, P_oa_failing_113, f120, f121, f122, f123, f124, f125, f126, f127, f128, f129, fun t k => pre114 t k⟩
    · have pre115 : ∀ t, own_K p e below m T97 116 #[lv p1, .second, iv p2, iv p3, iv p4, iv p5, iv p6, iv xz, iv xk, lv q0, .second, iv xf, lv qk, .second, rv b11, .unset, .unset, .unset, .unset, .unset, .unset, .unset] [] t → G t := by
        intro t k
        refine pre111 t ?_
        show own_K p e below m T97 107 #[lv p1, .second, iv p2, iv p3, iv p4, iv p5, iv p6, iv xz, iv xk, lv q0, .second, iv xf, lv qk, .second, rv b11, .unset, .unset, .unset, .unset, .unset, .unset, .unset] [(.int (3 : Int32)), (.int xk)] _
        refine XS.icmpYes X97.here hx rfl (pc0 := 107) (pc' := 116) rfl (hb hby at_107) rfl (flt hc107_112).2.2.2 (by decide) (by decide) ?_
        exact k
      have hq := True.intro
      obtain rfl : v98 = v117 := by simp only [hv117, if_neg hc107_112]
      exact ⟨_, _, _, X97, N97, e97, K97, j97_0, j97_1, j97_2, j97_3, j97_4, j97_5, j97_6, j97_7, j97_8, j97_9, j97_10, j97_11, j97_12, j97_13, j97_14, j97_15, j97_16, j97_17, j97_18, j97_19, j97_20, j97_21, j97_22, j97_23, fun t k => pre115 t k⟩
  have hnx := own_next hkN hkb hv58 hv79 hv98 hv117 hq62
  have pre130 : ∀ t, own_K p e below m T116 119 #[lv p1, .second, iv p2, iv p3, iv p4, iv p5, iv p6, iv xz, iv xk, lv q0, .second, iv xf, lv qk, .second, rv b11, .unset, .unset, .unset, .unset, .unset, .unset, .unset] [(.int (1 : Int32)), (.int xf)] t → G t := by
    intro t k
    refine pre116 t ?_
    show own_K p e below m T116 116 #[lv p1, .second, iv p2, iv p3, iv p4, iv p5, iv p6, iv xz, iv xk, lv q0, .second, iv xf, lv qk, .second, rv b11, .unset, .unset, .unset, .unset, .unset, .unset, .unset] [] _
    refine XS.iload X116.here hx rfl (hb hby at_116) rfl ?_
    show own_K p e below m T116 118 #[lv p1, .second, iv p2, iv p3, iv p4, iv p5, iv p6, iv xz, iv xk, lv q0, .second, iv xf, lv qk, .second, rv b11, .unset, .unset, .unset, .unset, .unset, .unset, .unset] [(.int xf)] _
    refine XS.iconst X116.here hx rfl (hb hby at_118) ?_
    exact k
  obtain ⟨v136, hv136⟩ : ∃ z : Int64, z = (if xf = (1 : Int32) then (if q0 = v117 then (-1 : Int64) else (if (-1 : Int64) < qk then qk else (-1 : Int64))) else (-1 : Int64)) := ⟨_, rfl⟩
  obtain ⟨v137, hv137⟩ : ∃ z : Int64, z = (if xf = (1 : Int32) then (if q0 = v117 then qk else q0) else q0) := ⟨_, rfl⟩
  obtain ⟨v138, hv138⟩ : ∃ z : Int64, z = (if xf = (1 : Int32) then (if q0 = v117 then qk else v117) else v117) := ⟨_, rfl⟩
  obtain ⟨T135, h135, lo135, X135, N135, e135, K135, j135_0, j135_1, j135_2, j135_3, j135_4, j135_5, j135_6, j135_7, j135_8, j135_9, j135_10, j135_11, j135_12, j135_13, j135_14, j135_15, j135_16, j135_17, j135_18, j135_19, j135_20, j135_21, j135_22, j135_23, pre135⟩ : ∃ (T' : State) (h' : Heap) (l' : List Loc), Stand p l e room_1 s m #[(.long p1), (.int p2), (.int p3), (.int p4), (.int p5), (.int p6)] below meth c T' l' 8 32 ∧ Fr n0 l' ∧ T'.heap = h' ∧ Keep h0 h' [] ∧ Old Z n0 h' ∧ Exa Z h' b11 "evenkeel/client/Window" ∧ Fld Z h' b11 "evenkeel/client/Window" "committedAhead" "Ljava/util/List;" (.ref el) ∧ Fld Z h' b11 "evenkeel/client/Window" "finished" "Ljava/util/BitSet;" (.ref bf31) ∧ Fld Z h' b11 "evenkeel/client/Window" "restart" "J" (.long v136) ∧ Fld Z h' b11 "evenkeel/client/Window" "left" "Ljava/util/BitSet;" (.ref bl31) ∧ Fld Z h' b11 "evenkeel/client/Window" "size" "I" (.int xz) ∧ Fld Z h' b11 "evenkeel/client/Window" "committed" "J" (.long v137) ∧ Fld Z h' b11 "evenkeel/client/Window" "unfinished" "J" (.long v137) ∧ Fld Z h' b11 "evenkeel/client/Window" "next" "J" (.long v138) ∧ Fld Z h' b11 "evenkeel/client/Window" "consumed" "Ljava/util/List;" (.ref el) ∧ Fld Z h' b11 "evenkeel/client/Window" "committedFailures" "Ljava/util/List;" (.ref el) ∧ Fld Z h' b11 "evenkeel/client/Window" "consumedAt" "I" (.int (0 : Int32)) ∧ Fld Z h' b11 "evenkeel/client/Window" "failing" "Ljava/util/TreeMap;" .null ∧ Exa Z h' bf31 "java/util/BitSet" ∧ Fld Z h' bf31 "java/util/BitSet" "wordsInUse" "I" (.int (own_wu (0 : Int64))) ∧ Fld Z h' bf31 "java/util/BitSet" "sizeIsSticky" "Z" (.int (0 : Int32)) ∧ Fld Z h' bf31 "java/util/BitSet" "words" "[J" (.ref wf31) ∧ Arv Z h' wf31 kf31 .long (1 : Int32) [(.long (0 : Int64))] (.long (0 : Int64)) ∧ Exa Z h' bl31 "java/util/BitSet" ∧ Fld Z h' bl31 "java/util/BitSet" "wordsInUse" "I" (.int (own_wu (0 : Int64))) ∧ Fld Z h' bl31 "java/util/BitSet" "sizeIsSticky" "Z" (.int (0 : Int32)) ∧ Fld Z h' bl31 "java/util/BitSet" "words" "[J" (.ref wl31) ∧ Arv Z h' wl31 kl31 .long (1 : Int32) [(.long (0 : Int64))] (.long (0 : Int64)) ∧ ∀ t, own_K p e below m T' 130 #[lv p1, .second, iv p2, iv p3, iv p4, iv p5, iv p6, iv xz, iv xk, lv q0, .second, iv xf, lv qk, .second, rv b11, .unset, .unset, .unset, .unset, .unset, .unset, .unset] [] t → G t := by
    by_cases hc119_131 : xf = (1 : Int32)
    · obtain ⟨cq132, kq132, q132a, q132b, q132c⟩ := isOf hZ e116 j116_1
      obtain ⟨_, _, ⟨T132, L132, k132, n132⟩, -, X132, ⟨Lc132, hQ132, l132, y132, z132⟩, st132⟩ := X116.virtualBack hx (y := (⟨"evenkeel/client/Window", "skip", "(J)Z"⟩ : MethodName)) (z := (⟨"evenkeel/client/Window", "skip", "(J)Z"⟩ : MethodName)) hown (mvT hZ (tw hw (i := 186) rfl)) (mvT hZ (tw hw (i := 187) rfl)) (notFace_of_selects (args := #[]) (mvT hZ (tw hw (i := 189) rfl))) (mvT hZ (tw hw (i := 189) rfl)) (mvT hZ (tw hw (i := 188) rfl)) (by decide) (backOf (W := 0) (rm22 l Z a0 hw [] b11 qk q0 q0 v117 (-1 : Int64) (.int xz) (.ref el) (.ref bf31) (.ref el) (.int (0 : Int32)) (.ref bl31) (.ref el) h116 n0 (Nat.le_trans Z0 K116.1) j116_1 j116_7 j116_8 j116_9 j116_4 j116_13 ge_b11 j116_6 j116_2 j116_3 j116_10 j116_12 j116_5 j116_11) hZ (tw hw (i := 190) rfl) (tw hw (i := 4) rfl) (by decide) (by decide)) q132a q132c (g := (mkF m 126 #[lv p1, .second, iv p2, iv p3, iv p4, iv p5, iv p6, iv xz, iv xk, lv q0, .second, iv xf, lv qk, .second, rv b11, .unset, .unset, .unset, .unset, .unset, .unset, .unset] [(.long qk), (.ref b11)])) rfl (by rw [hml]; rfl) (Steps.refl _) (argsL := [(.long qk)]) (rest := []) (lenOf pd_14 rfl) rfl (by show 2 * 0 + _ ≤ _; exact Nat.le_of_eq rfl) (hb hby at_126) (fun _ _ => ⟨rfl, e116, (by decide : 8 + 0 ≤ _), (by decide : 32 + 0 ≤ _)⟩)
      dsimp only [Pt.U, Pt.locs, Pt.cells, Pt.slots] at X132 l132 y132 z132 st132 hQ132
      subst l132 y132 z132
      obtain ⟨rfl, Nq132, Kc132, Fc2_132, Fu2_132, Fn2_132, Fr2_132, Ff2_132, P_oa_size_132, P_oa_committedAhead_132, P_oa_finished_132, P_oa_consumed_132, P_oa_consumedAt_132, P_oa_left_132, P_oa_committedFailures_132⟩ := hQ132
      have N132 := Fr.app N116 Nq132
      have K132 : Keep h0 T132.heap [] := K116.trans Kc132 (allS (Or.inr sz_b11) all0)
      have sz132 : n0 ≤ T132.heap.size := Nat.le_trans (Nat.le_trans Z0 K116.1) Kc132.1
      have pre133 : ∀ t, own_K p e below m T132 130 #[lv p1, .second, iv p2, iv p3, iv p4, iv p5, iv p6, iv xz, iv xk, lv q0, .second, iv xf, lv qk, .second, rv b11, .unset, .unset, .unset, .unset, .unset, .unset, .unset] [] t → G t := by
        intro t k
        refine pre130 t ?_
        show own_K p e below m T116 119 #[lv p1, .second, iv p2, iv p3, iv p4, iv p5, iv p6, iv xz, iv xk, lv q0, .second, iv xf, lv qk, .second, rv b11, .unset, .unset, .unset, .unset, .unset, .unset, .unset] [(.int (1 : Int32)), (.int xf)] _
        refine XS.icmpNo X116.here hx rfl (hb hby at_119) rfl (teq hc119_131).2 ?_
        show own_K p e below m T116 122 #[lv p1, .second, iv p2, iv p3, iv p4, iv p5, iv p6, iv xz, iv xk, lv q0, .second, iv xf, lv qk, .second, rv b11, .unset, .unset, .unset, .unset, .unset, .unset, .unset] [] _
        refine XS.aload X116.here hx rfl (hb hby at_122) rfl rfl ?_
        show own_K p e below m T116 124 #[lv p1, .second, iv p2, iv p3, iv p4, iv p5, iv p6, iv xz, iv xk, lv q0, .second, iv xf, lv qk, .second, rv b11, .unset, .unset, .unset, .unset, .unset, .unset, .unset] [(.ref b11)] _
        refine XS.lload X116.here hx rfl (hb hby at_124) rfl ?_
        show own_K p e below m T116 126 #[lv p1, .second, iv p2, iv p3, iv p4, iv p5, iv p6, iv xz, iv xk, lv q0, .second, iv xf, lv qk, .second, rv b11, .unset, .unset, .unset, .unset, .unset, .unset, .unset] [(.long qk), (.ref b11)] _
        refine st132.trans ?_
        show own_K p e below m T132 129 #[lv p1, .second, iv p2, iv p3, iv p4, iv p5, iv p6, iv xz, iv xk, lv q0, .second, iv xf, lv qk, .second, rv b11, .unset, .unset, .unset, .unset, .unset, .unset, .unset] [(.int (if q0 = v117 then (1 : Int32) else (0 : Int32)))] _
        refine XS.pop X132.here hx rfl (hb hby at_129) rfl rfl ?_
        exact k
      have f139 : Old Z n0 T132.heap := (j116_0.keep Kc132 (allS ge_b11 all0))
      have f140 : Exa Z T132.heap b11 "evenkeel/client/Window" := (j116_1.keep Kc132)
      have f141 : Exa Z T132.heap bf31 "java/util/BitSet" := (j116_14.keep Kc132)
      have f142 : Fld Z T132.heap bf31 "java/util/BitSet" "wordsInUse" "I" (.int (own_wu (0 : Int64))) := (j116_15.keep Kc132 (ninS (Ne.symm ne_b11_bf31) nin0))
      have f143 : Fld Z T132.heap bf31 "java/util/BitSet" "sizeIsSticky" "Z" (.int (0 : Int32)) := (j116_16.keep Kc132 (ninS (Ne.symm ne_b11_bf31) nin0))
      have f144 : Fld Z T132.heap bf31 "java/util/BitSet" "words" "[J" (.ref wf31) := (j116_17.keep Kc132 (ninS (Ne.symm ne_b11_bf31) nin0))
      have f145 : Arv Z T132.heap wf31 kf31 .long (1 : Int32) [(.long (0 : Int64))] (.long (0 : Int64)) := (j116_18.keep Kc132 (ninS (Ne.symm ne_b11_wf31) nin0))
      have f146 : Exa Z T132.heap bl31 "java/util/BitSet" := (j116_19.keep Kc132)
      have f147 : Fld Z T132.heap bl31 "java/util/BitSet" "wordsInUse" "I" (.int (own_wu (0 : Int64))) := (j116_20.keep Kc132 (ninS (Ne.symm ne_b11_bl31) nin0))
      have f148 : Fld Z T132.heap bl31 "java/util/BitSet" "sizeIsSticky" "Z" (.int (0 : Int32)) := (j116_21.keep Kc132 (ninS (Ne.symm ne_b11_bl31) nin0))
      have f149 : Fld Z T132.heap bl31 "java/util/BitSet" "words" "[J" (.ref wl31) := (j116_22.keep Kc132 (ninS (Ne.symm ne_b11_bl31) nin0))
      have f150 : Arv Z T132.heap wl31 kl31 .long (1 : Int32) [(.long (0 : Int64))] (.long (0 : Int64)) := (j116_23.keep Kc132 (ninS (Ne.symm ne_b11_wl31) nin0))
      have hq := True.intro
      obtain rfl : (if q0 = v117 then (-1 : Int64) else (if (-1 : Int64) < qk then qk else (-1 : Int64))) = v136 := by simp only [hv136, if_pos hc119_131]
      obtain rfl : (if q0 = v117 then qk else q0) = v137 := by simp only [hv137, if_pos hc119_131]
      obtain rfl : (if q0 = v117 then qk else v117) = v138 := by simp only [hv138, if_pos hc119_131]
      exact ⟨_, _, _, X132, N132, rfl, K132, f139, f140, P_oa_committedAhead_132, P_oa_finished_132, Fr2_132, P_oa_left_132, P_oa_size_132, Fc2_132, Fu2_132, Fn2_132, P_oa_consumed_132, P_oa_committedFailures_132, P_oa_consumedAt_132, Ff2_132, f141, f142, f143, f144, f145, f146, f147, f148, f149, f150, fun t k => pre133 t k⟩
    · have pre134 : ∀ t, own_K p e below m T116 130 #[lv p1, .second, iv p2, iv p3, iv p4, iv p5, iv p6, iv xz, iv xk, lv q0, .second, iv xf, lv qk, .second, rv b11, .unset, .unset, .unset, .unset, .unset, .unset, .unset] [] t → G t := by
        intro t k
        refine pre130 t ?_
        show own_K p e below m T116 119 #[lv p1, .second, iv p2, iv p3, iv p4, iv p5, iv p6, iv xz, iv xk, lv q0, .second, iv xf, lv qk, .second, rv b11, .unset, .unset, .unset, .unset, .unset, .unset, .unset] [(.int (1 : Int32)), (.int xf)] _
        refine XS.icmpYes X116.here hx rfl (pc0 := 119) (pc' := 130) rfl (hb hby at_119) rfl (feq hc119_131).2 (by decide) (by decide) ?_
        exact k
      have hq := True.intro
      obtain rfl : (-1 : Int64) = v136 := by simp only [hv136, if_neg hc119_131]
      obtain rfl : q0 = v137 := by simp only [hv137, if_neg hc119_131]
      obtain rfl : v117 = v138 := by simp only [hv138, if_neg hc119_131]
      exact ⟨_, _, _, X116, N116, e116, K116, j116_0, j116_1, j116_2, j116_3, j116_4, j116_5, j116_6, j116_7, j116_8, j116_9, j116_10, j116_11, j116_12, j116_13, j116_14, j116_15, j116_16, j116_17, j116_18, j116_19, j116_20, j116_21, j116_22, j116_23, fun t k => pre134 t k⟩
  have hS := own_after (k := kN) (U := v137) (N := v138) (R := v136) hnx hq62 hv137 hv138 hv136 hsk
  have pre151 : ∀ t, own_K p e below m T135 135 #[lv p1, .second, iv p2, iv p3, iv p4, iv p5, iv p6, iv xz, iv xk, lv q0, .second, iv xf, lv qk, .second, rv b11, .unset, .unset, .unset, .unset, .unset, .unset, .unset] [(.int (p4 &&& (8 : Int32)))] t → G t := by
    intro t k
    refine pre135 t ?_
    show own_K p e below m T135 130 #[lv p1, .second, iv p2, iv p3, iv p4, iv p5, iv p6, iv xz, iv xk, lv q0, .second, iv xf, lv qk, .second, rv b11, .unset, .unset, .unset, .unset, .unset, .unset, .unset] [] _
    refine XS.iload X135.here hx rfl (hb hby at_130) rfl ?_
    show own_K p e below m T135 132 #[lv p1, .second, iv p2, iv p3, iv p4, iv p5, iv p6, iv xz, iv xk, lv q0, .second, iv xf, lv qk, .second, rv b11, .unset, .unset, .unset, .unset, .unset, .unset, .unset] [(.int p4)] _
    refine XS.bipush X135.here hx rfl (hb hby at_132) ?_
    show own_K p e below m T135 134 #[lv p1, .second, iv p2, iv p3, iv p4, iv p5, iv p6, iv xz, iv xk, lv q0, .second, iv xf, lv qk, .second, rv b11, .unset, .unset, .unset, .unset, .unset, .unset, .unset] [(.int (8 : Int32)), (.int p4)] _
    refine XS.iand X135.here hx rfl (hb hby at_134) rfl ?_
    exact k
  obtain ⟨v161, hv161⟩ : ∃ z : Int32, z = (if (p4 &&& (8 : Int32)) = (0 : Int32) then (own_wu (0 : Int64)) else (if 3 < kN then (own_wu ((0 : Int64) ||| (own_m (q0 + (3 : Int64)) xz))) else (own_wu (0 : Int64)))) := ⟨_, rfl⟩
  obtain ⟨v162, hv162⟩ : ∃ z : Int64, z = (if (p4 &&& (8 : Int32)) = (0 : Int32) then (0 : Int64) else (if 3 < kN then ((0 : Int64) ||| (own_m (q0 + (3 : Int64)) xz)) else (0 : Int64))) := ⟨_, rfl⟩
  obtain ⟨T160, h160, lo160, X160, N160, e160, K160, j160_0, j160_1, j160_2, j160_3, j160_4, j160_5, j160_6, j160_7, j160_8, j160_9, j160_10, j160_11, j160_12, j160_13, j160_14, j160_15, j160_16, j160_17, j160_18, j160_19, j160_20, j160_21, j160_22, j160_23, pre160⟩ : ∃ (T' : State) (h' : Heap) (l' : List Loc), Stand p l e room_1 s m #[(.long p1), (.int p2), (.int p3), (.int p4), (.int p5), (.int p6)] below meth c T' l' 8 32 ∧ Fr n0 l' ∧ T'.heap = h' ∧ Keep h0 h' [] ∧ Old Z n0 h' ∧ Exa Z h' b11 "evenkeel/client/Window" ∧ Fld Z h' b11 "evenkeel/client/Window" "committedAhead" "Ljava/util/List;" (.ref el) ∧ Fld Z h' b11 "evenkeel/client/Window" "finished" "Ljava/util/BitSet;" (.ref bf31) ∧ Fld Z h' b11 "evenkeel/client/Window" "restart" "J" (.long v136) ∧ Fld Z h' b11 "evenkeel/client/Window" "left" "Ljava/util/BitSet;" (.ref bl31) ∧ Fld Z h' b11 "evenkeel/client/Window" "size" "I" (.int xz) ∧ Fld Z h' b11 "evenkeel/client/Window" "committed" "J" (.long v137) ∧ Fld Z h' b11 "evenkeel/client/Window" "unfinished" "J" (.long v137) ∧ Fld Z h' b11 "evenkeel/client/Window" "next" "J" (.long v138) ∧ Fld Z h' b11 "evenkeel/client/Window" "consumed" "Ljava/util/List;" (.ref el) ∧ Fld Z h' b11 "evenkeel/client/Window" "committedFailures" "Ljava/util/List;" (.ref el) ∧ Fld Z h' b11 "evenkeel/client/Window" "consumedAt" "I" (.int (0 : Int32)) ∧ Fld Z h' b11 "evenkeel/client/Window" "failing" "Ljava/util/TreeMap;" .null ∧ Exa Z h' bf31 "java/util/BitSet" ∧ Fld Z h' bf31 "java/util/BitSet" "wordsInUse" "I" (.int v161) ∧ Fld Z h' bf31 "java/util/BitSet" "sizeIsSticky" "Z" (.int (0 : Int32)) ∧ Fld Z h' bf31 "java/util/BitSet" "words" "[J" (.ref wf31) ∧ Arv Z h' wf31 kf31 .long (1 : Int32) [(.long v162)] (.long (0 : Int64)) ∧ Exa Z h' bl31 "java/util/BitSet" ∧ Fld Z h' bl31 "java/util/BitSet" "wordsInUse" "I" (.int (own_wu (0 : Int64))) ∧ Fld Z h' bl31 "java/util/BitSet" "sizeIsSticky" "Z" (.int (0 : Int32)) ∧ Fld Z h' bl31 "java/util/BitSet" "words" "[J" (.ref wl31) ∧ Arv Z h' wl31 kl31 .long (1 : Int32) [(.long (0 : Int64))] (.long (0 : Int64)) ∧ ∀ t, own_K p e below m T' 150 #[lv p1, .second, iv p2, iv p3, iv p4, iv p5, iv p6, iv xz, iv xk, lv q0, .second, iv xf, lv qk, .second, rv b11, .unset, .unset, .unset, .unset, .unset, .unset, .unset] [] t → G t := by
    by_cases hc135_152 : (p4 &&& (8 : Int32)) = (0 : Int32)
    · have pre153 : ∀ t, own_K p e below m T135 150 #[lv p1, .second, iv p2, iv p3, iv p4, iv p5, iv p6, iv xz, iv xk, lv q0, .second, iv xf, lv qk, .second, rv b11, .unset, .unset, .unset, .unset, .unset, .unset, .unset] [] t → G t := by
        intro t k
        refine pre151 t ?_
        show own_K p e below m T135 135 #[lv p1, .second, iv p2, iv p3, iv p4, iv p5, iv p6, iv xz, iv xk, lv q0, .second, iv xf, lv qk, .second, rv b11, .unset, .unset, .unset, .unset, .unset, .unset, .unset] [(.int (p4 &&& (8 : Int32)))] _
        refine XS.ifYes X135.here hx rfl (pc0 := 135) (pc' := 150) rfl (hb hby at_135) rfl ((if0 _ _).trans (teq hc135_152).1) (by decide) (by decide) ?_
        exact k
      have hq := True.intro
      obtain rfl : (own_wu (0 : Int64)) = v161 := by simp only [hv161, if_pos hc135_152]
      obtain rfl : (0 : Int64) = v162 := by simp only [hv162, if_pos hc135_152]
      exact ⟨_, _, _, X135, N135, e135, K135, j135_0, j135_1, j135_2, j135_3, j135_4, j135_5, j135_6, j135_7, j135_8, j135_9, j135_10, j135_11, j135_12, j135_13, j135_14, j135_15, j135_16, j135_17, j135_18, j135_19, j135_20, j135_21, j135_22, j135_23, fun t k => pre153 t k⟩
    · have pre155 : ∀ t, own_K p e below m T135 146 #[lv p1, .second, iv p2, iv p3, iv p4, iv p5, iv p6, iv xz, iv xk, lv q0, .second, iv xf, lv qk, .second, rv b11, .unset, .unset, .unset, .unset, .unset, .unset, .unset] [(.long (q0 + (3 : Int64))), (.ref b11)] t → G t := by
        intro t k
        refine pre151 t ?_
        show own_K p e below m T135 135 #[lv p1, .second, iv p2, iv p3, iv p4, iv p5, iv p6, iv xz, iv xk, lv q0, .second, iv xf, lv qk, .second, rv b11, .unset, .unset, .unset, .unset, .unset, .unset, .unset] [(.int (p4 &&& (8 : Int32)))] _
        refine XS.ifNo X135.here hx rfl (hb hby at_135) rfl ((if0 _ _).trans (feq hc135_152).1) ?_
        show own_K p e below m T135 138 #[lv p1, .second, iv p2, iv p3, iv p4, iv p5, iv p6, iv xz, iv xk, lv q0, .second, iv xf, lv qk, .second, rv b11, .unset, .unset, .unset, .unset, .unset, .unset, .unset] [] _
        refine XS.aload X135.here hx rfl (hb hby at_138) rfl rfl ?_
        show own_K p e below m T135 140 #[lv p1, .second, iv p2, iv p3, iv p4, iv p5, iv p6, iv xz, iv xk, lv q0, .second, iv xf, lv qk, .second, rv b11, .unset, .unset, .unset, .unset, .unset, .unset, .unset] [(.ref b11)] _
        refine XS.lload X135.here hx rfl (hb hby at_140) rfl ?_
        show own_K p e below m T135 142 #[lv p1, .second, iv p2, iv p3, iv p4, iv p5, iv p6, iv xz, iv xk, lv q0, .second, iv xf, lv qk, .second, rv b11, .unset, .unset, .unset, .unset, .unset, .unset, .unset] [(.long q0), (.ref b11)] _
        refine X135.ldc2Long hx hown (mvT hZ (tw hw (i := 206) rfl)) (g := (mkF m 142 #[lv p1, .second, iv p2, iv p3, iv p4, iv p5, iv p6, iv xz, iv xk, lv q0, .second, iv xf, lv qk, .second, rv b11, .unset, .unset, .unset, .unset, .unset, .unset, .unset] [(.long q0), (.ref b11)])) rfl (hb hby at_142) _ ?_
        show own_K p e below m T135 145 #[lv p1, .second, iv p2, iv p3, iv p4, iv p5, iv p6, iv xz, iv xk, lv q0, .second, iv xf, lv qk, .second, rv b11, .unset, .unset, .unset, .unset, .unset, .unset, .unset] [(.long (3 : Int64)), (.long q0), (.ref b11)] _
        refine XS.ladd X135.here hx rfl (hb hby at_145) rfl ?_
        exact k
      by_cases hb146_154 : 3 < kN
      · obtain ⟨cq156, kq156, q156a, q156b, q156c⟩ := isOf hZ e135 j135_1
        obtain ⟨_, _, ⟨T156, L156, k156, n156⟩, -, X156, ⟨Lc156, hQ156, l156, y156, z156⟩, st156⟩ := X135.virtualBack hx (y := (⟨"evenkeel/client/Window", "finish", "(J)Z"⟩ : MethodName)) (z := (⟨"evenkeel/client/Window", "finish", "(J)Z"⟩ : MethodName)) hown (mvT hZ (tw hw (i := 197) rfl)) (mvT hZ (tw hw (i := 198) rfl)) (notFace_of_selects (args := #[]) (mvT hZ (tw hw (i := 200) rfl))) (mvT hZ (tw hw (i := 200) rfl)) (mvT hZ (tw hw (i := 199) rfl)) (by decide) (backOf (W := 0) (rm24b l Z a0 hw [] b11 (q0 + (3 : Int64)) v137 v138 v136 xz (0 : Int64) bf31 wf31 kf31 bl31 wl31 kl31 el ea kE (.long v137) (.ref el) (.ref el) (.int (0 : Int32)) (.ref el) (.int (0 : Int32)) h135 n0 (Nat.le_trans Z0 K135.1) j135_1 j135_8 j135_9 j135_4 j135_13 j135_6 j135_3 j135_14 j135_15 j135_17 j135_18 j135_5 j135_19 j135_20 j135_22 j135_23 hzb (own_q3 hq62) (own_in3 hS hnx hq62 hb146_154).1 (own_in3 hS hnx hq62 hb146_154).2.1 (own_in3 hS hnx hq62 hb146_154).2.2.1 (own_nb3 hkb hzb hkz hq62 hnx hb146_154) (own_in3 hS hnx hq62 hb146_154).2.2.2 ne_b11_bf31 ne_b11_wf31 nbfwf_31 ne_b11_bl31 ne_b11_wl31 nbfbl_31 nbfwl_31 nwfbl_31 nwfwl_31 ge_b11 ge_bf31 ge_wf31 j135_0 P_ j135_7 j135_2 j135_10 j135_12 j135_11 j135_16) hZ (tw hw (i := 201) rfl) (tw hw (i := 4) rfl) (by decide) (by decide)) q156a q156c (g := (mkF m 146 #[lv p1, .second, iv p2, iv p3, iv p4, iv p5, iv p6, iv xz, iv xk, lv q0, .second, iv xf, lv qk, .second, rv b11, .unset, .unset, .unset, .unset, .unset, .unset, .unset] [(.long (q0 + (3 : Int64))), (.ref b11)])) rfl (by rw [hml]; rfl) (Steps.refl _) (argsL := [(.long (q0 + (3 : Int64)))]) (rest := []) (lenOf pd_14 rfl) rfl (by show 2 * 0 + _ ≤ _; exact Nat.le_of_eq rfl) (hb hby at_146) (fun _ _ => ⟨rfl, e135, (by decide : 8 + 0 ≤ _), (by decide : 32 + 0 ≤ _)⟩)
        dsimp only [Pt.U, Pt.locs, Pt.cells, Pt.slots] at X156 l156 y156 z156 st156 hQ156
        subst l156 y156 z156
        obtain ⟨rfl, Nq156, Kc156, Fw2_156, Fx2_156, Vx2_156, P_oa_size_156, P_oa_committed_156, P_oa_committedAhead_156, P_oa_unfinished_156, P_oa_next_156, P_oa_finished_156, P_oa_restart_156, P_oa_consumed_156, P_oa_consumedAt_156, P_oa_left_156, P_oa_failing_156, P_oa_committedFailures_156, P_bf_sizeIsSticky_156⟩ := hQ156
        have N156 := Fr.app N135 Nq156
        have K156 : Keep h0 T156.heap [] := K135.trans Kc156 (allS (Or.inr sz_b11) (allS (Or.inr sz_bf31) (allS (Or.inr sz_wf31) all0)))
        have sz156 : n0 ≤ T156.heap.size := Nat.le_trans (Nat.le_trans Z0 K135.1) Kc156.1
        have pre157 : ∀ t, own_K p e below m T156 150 #[lv p1, .second, iv p2, iv p3, iv p4, iv p5, iv p6, iv xz, iv xk, lv q0, .second, iv xf, lv qk, .second, rv b11, .unset, .unset, .unset, .unset, .unset, .unset, .unset] [] t → G t := by
          intro t k
          refine pre155 t ?_
          show own_K p e below m T135 146 #[lv p1, .second, iv p2, iv p3, iv p4, iv p5, iv p6, iv xz, iv xk, lv q0, .second, iv xf, lv qk, .second, rv b11, .unset, .unset, .unset, .unset, .unset, .unset, .unset] [(.long (q0 + (3 : Int64))), (.ref b11)] _
          refine st156.trans ?_
          show own_K p e below m T156 149 #[lv p1, .second, iv p2, iv p3, iv p4, iv p5, iv p6, iv xz, iv xk, lv q0, .second, iv xf, lv qk, .second, rv b11, .unset, .unset, .unset, .unset, .unset, .unset, .unset] [(.int (1 : Int32))] _
          refine XS.pop X156.here hx rfl (hb hby at_149) rfl rfl ?_
          exact k
        have f163 : Old Z n0 T156.heap := (j135_0.keep Kc156 (allS ge_b11 (allS ge_bf31 (allS ge_wf31 all0))))
        have f164 : Exa Z T156.heap b11 "evenkeel/client/Window" := (j135_1.keep Kc156)
        have f165 : Exa Z T156.heap bf31 "java/util/BitSet" := (j135_14.keep Kc156)
        have f166 : Exa Z T156.heap bl31 "java/util/BitSet" := (j135_19.keep Kc156)
        have f167 : Fld Z T156.heap bl31 "java/util/BitSet" "wordsInUse" "I" (.int (own_wu (0 : Int64))) := (j135_20.keep Kc156 (ninS (Ne.symm ne_b11_bl31) (ninS (Ne.symm nbfbl_31) (ninS (Ne.symm nwfbl_31) nin0))))
        have f168 : Fld Z T156.heap bl31 "java/util/BitSet" "sizeIsSticky" "Z" (.int (0 : Int32)) := (j135_21.keep Kc156 (ninS (Ne.symm ne_b11_bl31) (ninS (Ne.symm nbfbl_31) (ninS (Ne.symm nwfbl_31) nin0))))
        have f169 : Fld Z T156.heap bl31 "java/util/BitSet" "words" "[J" (.ref wl31) := (j135_22.keep Kc156 (ninS (Ne.symm ne_b11_bl31) (ninS (Ne.symm nbfbl_31) (ninS (Ne.symm nwfbl_31) nin0))))
        have f170 : Arv Z T156.heap wl31 kl31 .long (1 : Int32) [(.long (0 : Int64))] (.long (0 : Int64)) := (j135_23.keep Kc156 (ninS (Ne.symm ne_b11_wl31) (ninS (Ne.symm nbfwl_31) (ninS (Ne.symm nwfwl_31) nin0))))
        have hq := True.intro
        obtain rfl : (own_wu ((0 : Int64) ||| (own_m (q0 + (3 : Int64)) xz))) = v161 := by simp only [hv161, if_neg hc135_152, if_pos hb146_154]
        obtain rfl : ((0 : Int64) ||| (own_m (q0 + (3 : Int64)) xz)) = v162 := by simp only [hv162, if_neg hc135_152, if_pos hb146_154]
        exact ⟨_, _, _, X156, N156, rfl, K156, f163, f164, P_oa_committedAhead_156, P_oa_finished_156, P_oa_restart_156, P_oa_left_156, P_oa_size_156, P_oa_committed_156, P_oa_unfinished_156, P_oa_next_156, P_oa_consumed_156, P_oa_committedFailures_156, P_oa_consumedAt_156, P_oa_failing_156, f165, Fw2_156, P_bf_sizeIsSticky_156, Fx2_156, Vx2_156, f166, f167, f168, f169, f170, fun t k => pre157 t k⟩
      · obtain ⟨cq158, kq158, q158a, q158b, q158c⟩ := isOf hZ e135 j135_1
        obtain ⟨_, _, ⟨T158, L158, k158, n158⟩, -, X158, ⟨Lc158, hQ158, l158, y158, z158⟩, st158⟩ := X135.virtualBack hx (y := (⟨"evenkeel/client/Window", "finish", "(J)Z"⟩ : MethodName)) (z := (⟨"evenkeel/client/Window", "finish", "(J)Z"⟩ : MethodName)) hown (mvT hZ (tw hw (i := 197) rfl)) (mvT hZ (tw hw (i := 198) rfl)) (notFace_of_selects (args := #[]) (mvT hZ (tw hw (i := 200) rfl))) (mvT hZ (tw hw (i := 200) rfl)) (mvT hZ (tw hw (i := 199) rfl)) (by decide) (backOf (W := 0) (rm24a l Z a0 hw [] b11 (q0 + (3 : Int64)) v137 v138 h135 n0 (Nat.le_trans Z0 K135.1) j135_1 j135_8 j135_9 (own_out3 hS hnx hq62 hb146_154)) hZ (tw hw (i := 201) rfl) (tw hw (i := 4) rfl) (by decide) (by decide)) q158a q158c (g := (mkF m 146 #[lv p1, .second, iv p2, iv p3, iv p4, iv p5, iv p6, iv xz, iv xk, lv q0, .second, iv xf, lv qk, .second, rv b11, .unset, .unset, .unset, .unset, .unset, .unset, .unset] [(.long (q0 + (3 : Int64))), (.ref b11)])) rfl (by rw [hml]; rfl) (Steps.refl _) (argsL := [(.long (q0 + (3 : Int64)))]) (rest := []) (lenOf pd_14 rfl) rfl (by show 2 * 0 + _ ≤ _; exact Nat.le_of_eq rfl) (hb hby at_146) (fun _ _ => ⟨rfl, e135, (by decide : 8 + 0 ≤ _), (by decide : 32 + 0 ≤ _)⟩)
        dsimp only [Pt.U, Pt.locs, Pt.cells, Pt.slots] at X158 l158 y158 z158 st158 hQ158
        subst l158 y158 z158
        obtain ⟨rfl, Nq158, eh158⟩ := hQ158
        have N158 := Fr.app N135 Nq158
        have pre159 : ∀ t, own_K p e below m T158 150 #[lv p1, .second, iv p2, iv p3, iv p4, iv p5, iv p6, iv xz, iv xk, lv q0, .second, iv xf, lv qk, .second, rv b11, .unset, .unset, .unset, .unset, .unset, .unset, .unset] [] t → G t := by
          intro t k
          refine pre155 t ?_
          show own_K p e below m T135 146 #[lv p1, .second, iv p2, iv p3, iv p4, iv p5, iv p6, iv xz, iv xk, lv q0, .second, iv xf, lv qk, .second, rv b11, .unset, .unset, .unset, .unset, .unset, .unset, .unset] [(.long (q0 + (3 : Int64))), (.ref b11)] _
          refine st158.trans ?_
          show own_K p e below m T158 149 #[lv p1, .second, iv p2, iv p3, iv p4, iv p5, iv p6, iv xz, iv xk, lv q0, .second, iv xf, lv qk, .second, rv b11, .unset, .unset, .unset, .unset, .unset, .unset, .unset] [(.int (0 : Int32))] _
          refine XS.pop X158.here hx rfl (hb hby at_149) rfl rfl ?_
          exact k
        have hq := True.intro
        obtain rfl : (own_wu (0 : Int64)) = v161 := by simp only [hv161, if_neg hc135_152, if_neg hb146_154]
        obtain rfl : (0 : Int64) = v162 := by simp only [hv162, if_neg hc135_152, if_neg hb146_154]
        exact ⟨_, _, _, X158, N158, eh158, K135, j135_0, j135_1, j135_2, j135_3, j135_4, j135_5, j135_6, j135_7, j135_8, j135_9, j135_10, j135_11, j135_12, j135_13, j135_14, j135_15, j135_16, j135_17, j135_18, j135_19, j135_20, j135_21, j135_22, j135_23, fun t k => pre159 t k⟩
  have hwj171 : v161 = own_wu v162 := by rw [hv161, hv162]; exact own_wuite _ _ _
  have hwu171 : Fld Z h160 bf31 "java/util/BitSet" "wordsInUse" "I" (.int (own_wu v162)) := by rw [← hwj171]; exact j160_15
  have pre172 : ∀ t, own_K p e below m T160 154 #[lv p1, .second, iv p2, iv p3, iv p4, iv p5, iv p6, iv xz, iv xk, lv q0, .second, iv xf, lv qk, .second, rv b11, .unset, .unset, .unset, .unset, .unset, .unset, .unset] [(.int (p4 &&& (4 : Int32)))] t → G t := by
    intro t k
    refine pre160 t ?_
    show own_K p e below m T160 150 #[lv p1, .second, iv p2, iv p3, iv p4, iv p5, iv p6, iv xz, iv xk, lv q0, .second, iv xf, lv qk, .second, rv b11, .unset, .unset, .unset, .unset, .unset, .unset, .unset] [] _
    refine XS.iload X160.here hx rfl (hb hby at_150) rfl ?_
    show own_K p e below m T160 152 #[lv p1, .second, iv p2, iv p3, iv p4, iv p5, iv p6, iv xz, iv xk, lv q0, .second, iv xf, lv qk, .second, rv b11, .unset, .unset, .unset, .unset, .unset, .unset, .unset] [(.int p4)] _
    refine XS.iconst X160.here hx rfl (hb hby at_152) ?_
    show own_K p e below m T160 153 #[lv p1, .second, iv p2, iv p3, iv p4, iv p5, iv p6, iv xz, iv xk, lv q0, .second, iv xf, lv qk, .second, rv b11, .unset, .unset, .unset, .unset, .unset, .unset, .unset] [(.int (4 : Int32)), (.int p4)] _
    refine XS.iand X160.here hx rfl (hb hby at_153) rfl ?_
    exact k
  obtain ⟨v182, hv182⟩ : ∃ z : Int32, z = (if (p4 &&& (4 : Int32)) = (0 : Int32) then (own_wu v162) else (if 2 < kN then (own_wu (v162 ||| (own_m (q0 + (2 : Int64)) xz))) else (own_wu v162))) := ⟨_, rfl⟩
  obtain ⟨v183, hv183⟩ : ∃ z : Int64, z = (if (p4 &&& (4 : Int32)) = (0 : Int32) then v162 else (if 2 < kN then (v162 ||| (own_m (q0 + (2 : Int64)) xz)) else v162)) := ⟨_, rfl⟩
  obtain ⟨T181, h181, lo181, X181, N181, e181, K181, j181_0, j181_1, j181_2, j181_3, j181_4, j181_5, j181_6, j181_7, j181_8, j181_9, j181_10, j181_11, j181_12, j181_13, j181_14, j181_15, j181_16, j181_17, j181_18, j181_19, j181_20, j181_21, j181_22, j181_23, pre181⟩ : ∃ (T' : State) (h' : Heap) (l' : List Loc), Stand p l e room_1 s m #[(.long p1), (.int p2), (.int p3), (.int p4), (.int p5), (.int p6)] below meth c T' l' 8 32 ∧ Fr n0 l' ∧ T'.heap = h' ∧ Keep h0 h' [] ∧ Old Z n0 h' ∧ Exa Z h' b11 "evenkeel/client/Window" ∧ Fld Z h' b11 "evenkeel/client/Window" "committedAhead" "Ljava/util/List;" (.ref el) ∧ Fld Z h' b11 "evenkeel/client/Window" "finished" "Ljava/util/BitSet;" (.ref bf31) ∧ Fld Z h' b11 "evenkeel/client/Window" "restart" "J" (.long v136) ∧ Fld Z h' b11 "evenkeel/client/Window" "left" "Ljava/util/BitSet;" (.ref bl31) ∧ Fld Z h' b11 "evenkeel/client/Window" "size" "I" (.int xz) ∧ Fld Z h' b11 "evenkeel/client/Window" "committed" "J" (.long v137) ∧ Fld Z h' b11 "evenkeel/client/Window" "unfinished" "J" (.long v137) ∧ Fld Z h' b11 "evenkeel/client/Window" "next" "J" (.long v138) ∧ Fld Z h' b11 "evenkeel/client/Window" "consumed" "Ljava/util/List;" (.ref el) ∧ Fld Z h' b11 "evenkeel/client/Window" "committedFailures" "Ljava/util/List;" (.ref el) ∧ Fld Z h' b11 "evenkeel/client/Window" "consumedAt" "I" (.int (0 : Int32)) ∧ Fld Z h' b11 "evenkeel/client/Window" "failing" "Ljava/util/TreeMap;" .null ∧ Exa Z h' bf31 "java/util/BitSet" ∧ Fld Z h' bf31 "java/util/BitSet" "wordsInUse" "I" (.int v182) ∧ Fld Z h' bf31 "java/util/BitSet" "sizeIsSticky" "Z" (.int (0 : Int32)) ∧ Fld Z h' bf31 "java/util/BitSet" "words" "[J" (.ref wf31) ∧ Arv Z h' wf31 kf31 .long (1 : Int32) [(.long v183)] (.long (0 : Int64)) ∧ Exa Z h' bl31 "java/util/BitSet" ∧ Fld Z h' bl31 "java/util/BitSet" "wordsInUse" "I" (.int (own_wu (0 : Int64))) ∧ Fld Z h' bl31 "java/util/BitSet" "sizeIsSticky" "Z" (.int (0 : Int32)) ∧ Fld Z h' bl31 "java/util/BitSet" "words" "[J" (.ref wl31) ∧ Arv Z h' wl31 kl31 .long (1 : Int32) [(.long (0 : Int64))] (.long (0 : Int64)) ∧ ∀ t, own_K p e below m T' 169 #[lv p1, .second, iv p2, iv p3, iv p4, iv p5, iv p6, iv xz, iv xk, lv q0, .second, iv xf, lv qk, .second, rv b11, .unset, .unset, .unset, .unset, .unset, .unset, .unset] [] t → G t := by
    by_cases hc154_173 : (p4 &&& (4 : Int32)) = (0 : Int32)
    · have pre174 : ∀ t, own_K p e below m T160 169 #[lv p1, .second, iv p2, iv p3, iv p4, iv p5, iv p6, iv xz, iv xk, lv q0, .second, iv xf, lv qk, .second, rv b11, .unset, .unset, .unset, .unset, .unset, .unset, .unset] [] t → G t := by
        intro t k
        refine pre172 t ?_
        show own_K p e below m T160 154 #[lv p1, .second, iv p2, iv p3, iv p4, iv p5, iv p6, iv xz, iv xk, lv q0, .second, iv xf, lv qk, .second, rv b11, .unset, .unset, .unset, .unset, .unset, .unset, .unset] [(.int (p4 &&& (4 : Int32)))] _
        refine XS.ifYes X160.here hx rfl (pc0 := 154) (pc' := 169) rfl (hb hby at_154) rfl ((if0 _ _).trans (teq hc154_173).1) (by decide) (by decide) ?_
        exact k
      have hq := True.intro
      obtain rfl : (own_wu v162) = v182 := by simp only [hv182, if_pos hc154_173]
      obtain rfl : v162 = v183 := by simp only [hv183, if_pos hc154_173]
      exact ⟨_, _, _, X160, N160, e160, K160, j160_0, j160_1, j160_2, j160_3, j160_4, j160_5, j160_6, j160_7, j160_8, j160_9, j160_10, j160_11, j160_12, j160_13, j160_14, hwu171, j160_16, j160_17, j160_18, j160_19, j160_20, j160_21, j160_22, j160_23, fun t k => pre174 t k⟩
    · have pre176 : ∀ t, own_K p e below m T160 165 #[lv p1, .second, iv p2, iv p3, iv p4, iv p5, iv p6, iv xz, iv xk, lv q0, .second, iv xf, lv qk, .second, rv b11, .unset, .unset, .unset, .unset, .unset, .unset, .unset] [(.long (q0 + (2 : Int64))), (.ref b11)] t → G t := by
        intro t k
        refine pre172 t ?_
        show own_K p e below m T160 154 #[lv p1, .second, iv p2, iv p3, iv p4, iv p5, iv p6, iv xz, iv xk, lv q0, .second, iv xf, lv qk, .second, rv b11, .unset, .unset, .unset, .unset, .unset, .unset, .unset] [(.int (p4 &&& (4 : Int32)))] _
        refine XS.ifNo X160.here hx rfl (hb hby at_154) rfl ((if0 _ _).trans (feq hc154_173).1) ?_
        show own_K p e below m T160 157 #[lv p1, .second, iv p2, iv p3, iv p4, iv p5, iv p6, iv xz, iv xk, lv q0, .second, iv xf, lv qk, .second, rv b11, .unset, .unset, .unset, .unset, .unset, .unset, .unset] [] _
        refine XS.aload X160.here hx rfl (hb hby at_157) rfl rfl ?_
        show own_K p e below m T160 159 #[lv p1, .second, iv p2, iv p3, iv p4, iv p5, iv p6, iv xz, iv xk, lv q0, .second, iv xf, lv qk, .second, rv b11, .unset, .unset, .unset, .unset, .unset, .unset, .unset] [(.ref b11)] _
        refine XS.lload X160.here hx rfl (hb hby at_159) rfl ?_
        show own_K p e below m T160 161 #[lv p1, .second, iv p2, iv p3, iv p4, iv p5, iv p6, iv xz, iv xk, lv q0, .second, iv xf, lv qk, .second, rv b11, .unset, .unset, .unset, .unset, .unset, .unset, .unset] [(.long q0), (.ref b11)] _
        refine X160.ldc2Long hx hown (mvT hZ (tw hw (i := 207) rfl)) (g := (mkF m 161 #[lv p1, .second, iv p2, iv p3, iv p4, iv p5, iv p6, iv xz, iv xk, lv q0, .second, iv xf, lv qk, .second, rv b11, .unset, .unset, .unset, .unset, .unset, .unset, .unset] [(.long q0), (.ref b11)])) rfl (hb hby at_161) _ ?_
        show own_K p e below m T160 164 #[lv p1, .second, iv p2, iv p3, iv p4, iv p5, iv p6, iv xz, iv xk, lv q0, .second, iv xf, lv qk, .second, rv b11, .unset, .unset, .unset, .unset, .unset, .unset, .unset] [(.long (2 : Int64)), (.long q0), (.ref b11)] _
        refine XS.ladd X160.here hx rfl (hb hby at_164) rfl ?_
        exact k
      by_cases hb165_175 : 2 < kN
      · obtain ⟨cq177, kq177, q177a, q177b, q177c⟩ := isOf hZ e160 j160_1
        obtain ⟨_, _, ⟨T177, L177, k177, n177⟩, -, X177, ⟨Lc177, hQ177, l177, y177, z177⟩, st177⟩ := X160.virtualBack hx (y := (⟨"evenkeel/client/Window", "finish", "(J)Z"⟩ : MethodName)) (z := (⟨"evenkeel/client/Window", "finish", "(J)Z"⟩ : MethodName)) hown (mvT hZ (tw hw (i := 197) rfl)) (mvT hZ (tw hw (i := 198) rfl)) (notFace_of_selects (args := #[]) (mvT hZ (tw hw (i := 200) rfl))) (mvT hZ (tw hw (i := 200) rfl)) (mvT hZ (tw hw (i := 199) rfl)) (by decide) (backOf (W := 0) (rm24b l Z a0 hw [] b11 (q0 + (2 : Int64)) v137 v138 v136 xz v162 bf31 wf31 kf31 bl31 wl31 kl31 el ea kE (.long v137) (.ref el) (.ref el) (.int (0 : Int32)) (.ref el) (.int (0 : Int32)) h160 n0 (Nat.le_trans Z0 K160.1) j160_1 j160_8 j160_9 j160_4 j160_13 j160_6 j160_3 j160_14 hwu171 j160_17 j160_18 j160_5 j160_19 j160_20 j160_22 j160_23 hzb (own_q2 hq62) (own_in2 hS hnx hq62 hb165_175).1 (own_in2 hS hnx hq62 hb165_175).2.1 (own_in2 hS hnx hq62 hb165_175).2.2.1 (own_nb2 hkb hzb hkz hq62 hnx hb165_175 hv162) (own_in2 hS hnx hq62 hb165_175).2.2.2 ne_b11_bf31 ne_b11_wf31 nbfwf_31 ne_b11_bl31 ne_b11_wl31 nbfbl_31 nbfwl_31 nwfbl_31 nwfwl_31 ge_b11 ge_bf31 ge_wf31 j160_0 P_ j160_7 j160_2 j160_10 j160_12 j160_11 j160_16) hZ (tw hw (i := 201) rfl) (tw hw (i := 4) rfl) (by decide) (by decide)) q177a q177c (g := (mkF m 165 #[lv p1, .second, iv p2, iv p3, iv p4, iv p5, iv p6, iv xz, iv xk, lv q0, .second, iv xf, lv qk, .second, rv b11, .unset, .unset, .unset, .unset, .unset, .unset, .unset] [(.long (q0 + (2 : Int64))), (.ref b11)])) rfl (by rw [hml]; rfl) (Steps.refl _) (argsL := [(.long (q0 + (2 : Int64)))]) (rest := []) (lenOf pd_14 rfl) rfl (by show 2 * 0 + _ ≤ _; exact Nat.le_of_eq rfl) (hb hby at_165) (fun _ _ => ⟨rfl, e160, (by decide : 8 + 0 ≤ _), (by decide : 32 + 0 ≤ _)⟩)
        dsimp only [Pt.U, Pt.locs, Pt.cells, Pt.slots] at X177 l177 y177 z177 st177 hQ177
        subst l177 y177 z177
        obtain ⟨rfl, Nq177, Kc177, Fw2_177, Fx2_177, Vx2_177, P_oa_size_177, P_oa_committed_177, P_oa_committedAhead_177, P_oa_unfinished_177, P_oa_next_177, P_oa_finished_177, P_oa_restart_177, P_oa_consumed_177, P_oa_consumedAt_177, P_oa_left_177, P_oa_failing_177, P_oa_committedFailures_177, P_bf_sizeIsSticky_177⟩ := hQ177
        have N177 := Fr.app N160 Nq177
        have K177 : Keep h0 T177.heap [] := K160.trans Kc177 (allS (Or.inr sz_b11) (allS (Or.inr sz_bf31) (allS (Or.inr sz_wf31) all0)))
        have sz177 : n0 ≤ T177.heap.size := Nat.le_trans (Nat.le_trans Z0 K160.1) Kc177.1
        have pre178 : ∀ t, own_K p e below m T177 169 #[lv p1, .second, iv p2, iv p3, iv p4, iv p5, iv p6, iv xz, iv xk, lv q0, .second, iv xf, lv qk, .second, rv b11, .unset, .unset, .unset, .unset, .unset, .unset, .unset] [] t → G t := by
          intro t k
          refine pre176 t ?_
          show own_K p e below m T160 165 #[lv p1, .second, iv p2, iv p3, iv p4, iv p5, iv p6, iv xz, iv xk, lv q0, .second, iv xf, lv qk, .second, rv b11, .unset, .unset, .unset, .unset, .unset, .unset, .unset] [(.long (q0 + (2 : Int64))), (.ref b11)] _
          refine st177.trans ?_
          show own_K p e below m T177 168 #[lv p1, .second, iv p2, iv p3, iv p4, iv p5, iv p6, iv xz, iv xk, lv q0, .second, iv xf, lv qk, .second, rv b11, .unset, .unset, .unset, .unset, .unset, .unset, .unset] [(.int (1 : Int32))] _
          refine XS.pop X177.here hx rfl (hb hby at_168) rfl rfl ?_
          exact k
        have f184 : Old Z n0 T177.heap := (j160_0.keep Kc177 (allS ge_b11 (allS ge_bf31 (allS ge_wf31 all0))))
        have f185 : Exa Z T177.heap b11 "evenkeel/client/Window" := (j160_1.keep Kc177)
        have f186 : Exa Z T177.heap bf31 "java/util/BitSet" := (j160_14.keep Kc177)
        have f187 : Exa Z T177.heap bl31 "java/util/BitSet" := (j160_19.keep Kc177)
        have f188 : Fld Z T177.heap bl31 "java/util/BitSet" "wordsInUse" "I" (.int (own_wu (0 : Int64))) := (j160_20.keep Kc177 (ninS (Ne.symm ne_b11_bl31) (ninS (Ne.symm nbfbl_31) (ninS (Ne.symm nwfbl_31) nin0))))
        have f189 : Fld Z T177.heap bl31 "java/util/BitSet" "sizeIsSticky" "Z" (.int (0 : Int32)) := (j160_21.keep Kc177 (ninS (Ne.symm ne_b11_bl31) (ninS (Ne.symm nbfbl_31) (ninS (Ne.symm nwfbl_31) nin0))))
        have f190 : Fld Z T177.heap bl31 "java/util/BitSet" "words" "[J" (.ref wl31) := (j160_22.keep Kc177 (ninS (Ne.symm ne_b11_bl31) (ninS (Ne.symm nbfbl_31) (ninS (Ne.symm nwfbl_31) nin0))))
        have f191 : Arv Z T177.heap wl31 kl31 .long (1 : Int32) [(.long (0 : Int64))] (.long (0 : Int64)) := (j160_23.keep Kc177 (ninS (Ne.symm ne_b11_wl31) (ninS (Ne.symm nbfwl_31) (ninS (Ne.symm nwfwl_31) nin0))))
        have hq := True.intro
        obtain rfl : (own_wu (v162 ||| (own_m (q0 + (2 : Int64)) xz))) = v182 := by simp only [hv182, if_neg hc154_173, if_pos hb165_175]
        obtain rfl : (v162 ||| (own_m (q0 + (2 : Int64)) xz)) = v183 := by simp only [hv183, if_neg hc154_173, if_pos hb165_175]
        exact ⟨_, _, _, X177, N177, rfl, K177, f184, f185, P_oa_committedAhead_177, P_oa_finished_177, P_oa_restart_177, P_oa_left_177, P_oa_size_177, P_oa_committed_177, P_oa_unfinished_177, P_oa_next_177, P_oa_consumed_177, P_oa_committedFailures_177, P_oa_consumedAt_177, P_oa_failing_177, f186, Fw2_177, P_bf_sizeIsSticky_177, Fx2_177, Vx2_177, f187, f188, f189, f190, f191, fun t k => pre178 t k⟩
      · obtain ⟨cq179, kq179, q179a, q179b, q179c⟩ := isOf hZ e160 j160_1
        obtain ⟨_, _, ⟨T179, L179, k179, n179⟩, -, X179, ⟨Lc179, hQ179, l179, y179, z179⟩, st179⟩ := X160.virtualBack hx (y := (⟨"evenkeel/client/Window", "finish", "(J)Z"⟩ : MethodName)) (z := (⟨"evenkeel/client/Window", "finish", "(J)Z"⟩ : MethodName)) hown (mvT hZ (tw hw (i := 197) rfl)) (mvT hZ (tw hw (i := 198) rfl)) (notFace_of_selects (args := #[]) (mvT hZ (tw hw (i := 200) rfl))) (mvT hZ (tw hw (i := 200) rfl)) (mvT hZ (tw hw (i := 199) rfl)) (by decide) (backOf (W := 0) (rm24a l Z a0 hw [] b11 (q0 + (2 : Int64)) v137 v138 h160 n0 (Nat.le_trans Z0 K160.1) j160_1 j160_8 j160_9 (own_out2 hS hnx hq62 hb165_175)) hZ (tw hw (i := 201) rfl) (tw hw (i := 4) rfl) (by decide) (by decide)) q179a q179c (g := (mkF m 165 #[lv p1, .second, iv p2, iv p3, iv p4, iv p5, iv p6, iv xz, iv xk, lv q0, .second, iv xf, lv qk, .second, rv b11, .unset, .unset, .unset, .unset, .unset, .unset, .unset] [(.long (q0 + (2 : Int64))), (.ref b11)])) rfl (by rw [hml]; rfl) (Steps.refl _) (argsL := [(.long (q0 + (2 : Int64)))]) (rest := []) (lenOf pd_14 rfl) rfl (by show 2 * 0 + _ ≤ _; exact Nat.le_of_eq rfl) (hb hby at_165) (fun _ _ => ⟨rfl, e160, (by decide : 8 + 0 ≤ _), (by decide : 32 + 0 ≤ _)⟩)
        dsimp only [Pt.U, Pt.locs, Pt.cells, Pt.slots] at X179 l179 y179 z179 st179 hQ179
        subst l179 y179 z179
        obtain ⟨rfl, Nq179, eh179⟩ := hQ179
        have N179 := Fr.app N160 Nq179
        have pre180 : ∀ t, own_K p e below m T179 169 #[lv p1, .second, iv p2, iv p3, iv p4, iv p5, iv p6, iv xz, iv xk, lv q0, .second, iv xf, lv qk, .second, rv b11, .unset, .unset, .unset, .unset, .unset, .unset, .unset] [] t → G t := by
          intro t k
          refine pre176 t ?_
          show own_K p e below m T160 165 #[lv p1, .second, iv p2, iv p3, iv p4, iv p5, iv p6, iv xz, iv xk, lv q0, .second, iv xf, lv qk, .second, rv b11, .unset, .unset, .unset, .unset, .unset, .unset, .unset] [(.long (q0 + (2 : Int64))), (.ref b11)] _
          refine st179.trans ?_
          show own_K p e below m T179 168 #[lv p1, .second, iv p2, iv p3, iv p4, iv p5, iv p6, iv xz, iv xk, lv q0, .second, iv xf, lv qk, .second, rv b11, .unset, .unset, .unset, .unset, .unset, .unset, .unset] [(.int (0 : Int32))] _
          refine XS.pop X179.here hx rfl (hb hby at_168) rfl rfl ?_
          exact k
        have hq := True.intro
        obtain rfl : (own_wu v162) = v182 := by simp only [hv182, if_neg hc154_173, if_neg hb165_175]
        obtain rfl : v162 = v183 := by simp only [hv183, if_neg hc154_173, if_neg hb165_175]
        exact ⟨_, _, _, X179, N179, eh179, K160, j160_0, j160_1, j160_2, j160_3, j160_4, j160_5, j160_6, j160_7, j160_8, j160_9, j160_10, j160_11, j160_12, j160_13, j160_14, hwu171, j160_16, j160_17, j160_18, j160_19, j160_20, j160_21, j160_22, j160_23, fun t k => pre180 t k⟩
  have hwj192 : v182 = own_wu v183 := by rw [hv182, hv183]; exact own_wuite _ _ _
  have hwu192 : Fld Z h181 bf31 "java/util/BitSet" "wordsInUse" "I" (.int (own_wu v183)) := by rw [← hwj192]; exact j181_15
  have pre193 : ∀ t, own_K p e below m T181 173 #[lv p1, .second, iv p2, iv p3, iv p4, iv p5, iv p6, iv xz, iv xk, lv q0, .second, iv xf, lv qk, .second, rv b11, .unset, .unset, .unset, .unset, .unset, .unset, .unset] [(.int (p4 &&& (2 : Int32)))] t → G t := by
    intro t k
    refine pre181 t ?_
    show own_K p e below m T181 169 #[lv p1, .second, iv p2, iv p3, iv p4, iv p5, iv p6, iv xz, iv xk, lv q0, .second, iv xf, lv qk, .second, rv b11, .unset, .unset, .unset, .unset, .unset, .unset, .unset] [] _
    refine XS.iload X181.here hx rfl (hb hby at_169) rfl ?_
    show own_K p e below m T181 171 #[lv p1, .second, iv p2, iv p3, iv p4, iv p5, iv p6, iv xz, iv xk, lv q0, .second, iv xf, lv qk, .second, rv b11, .unset, .unset, .unset, .unset, .unset, .unset, .unset] [(.int p4)] _
    refine XS.iconst X181.here hx rfl (hb hby at_171) ?_
    show own_K p e below m T181 172 #[lv p1, .second, iv p2, iv p3, iv p4, iv p5, iv p6, iv xz, iv xk, lv q0, .second, iv xf, lv qk, .second, rv b11, .unset, .unset, .unset, .unset, .unset, .unset, .unset] [(.int (2 : Int32)), (.int p4)] _
    refine XS.iand X181.here hx rfl (hb hby at_172) rfl ?_
    exact k
  obtain ⟨v203, hv203⟩ : ∃ z : Int32, z = (if (p4 &&& (2 : Int32)) = (0 : Int32) then (own_wu v183) else (if 1 < kN then (own_wu (v183 ||| (own_m (q0 + (1 : Int64)) xz))) else (own_wu v183))) := ⟨_, rfl⟩
  obtain ⟨v204, hv204⟩ : ∃ z : Int64, z = (if (p4 &&& (2 : Int32)) = (0 : Int32) then v183 else (if 1 < kN then (v183 ||| (own_m (q0 + (1 : Int64)) xz)) else v183)) := ⟨_, rfl⟩
  obtain ⟨T202, h202, lo202, X202, N202, e202, K202, j202_0, j202_1, j202_2, j202_3, j202_4, j202_5, j202_6, j202_7, j202_8, j202_9, j202_10, j202_11, j202_12, j202_13, j202_14, j202_15, j202_16, j202_17, j202_18, j202_19, j202_20, j202_21, j202_22, j202_23, pre202⟩ : ∃ (T' : State) (h' : Heap) (l' : List Loc), Stand p l e room_1 s m #[(.long p1), (.int p2), (.int p3), (.int p4), (.int p5), (.int p6)] below meth c T' l' 8 32 ∧ Fr n0 l' ∧ T'.heap = h' ∧ Keep h0 h' [] ∧ Old Z n0 h' ∧ Exa Z h' b11 "evenkeel/client/Window" ∧ Fld Z h' b11 "evenkeel/client/Window" "committedAhead" "Ljava/util/List;" (.ref el) ∧ Fld Z h' b11 "evenkeel/client/Window" "finished" "Ljava/util/BitSet;" (.ref bf31) ∧ Fld Z h' b11 "evenkeel/client/Window" "restart" "J" (.long v136) ∧ Fld Z h' b11 "evenkeel/client/Window" "left" "Ljava/util/BitSet;" (.ref bl31) ∧ Fld Z h' b11 "evenkeel/client/Window" "size" "I" (.int xz) ∧ Fld Z h' b11 "evenkeel/client/Window" "committed" "J" (.long v137) ∧ Fld Z h' b11 "evenkeel/client/Window" "unfinished" "J" (.long v137) ∧ Fld Z h' b11 "evenkeel/client/Window" "next" "J" (.long v138) ∧ Fld Z h' b11 "evenkeel/client/Window" "consumed" "Ljava/util/List;" (.ref el) ∧ Fld Z h' b11 "evenkeel/client/Window" "committedFailures" "Ljava/util/List;" (.ref el) ∧ Fld Z h' b11 "evenkeel/client/Window" "consumedAt" "I" (.int (0 : Int32)) ∧ Fld Z h' b11 "evenkeel/client/Window" "failing" "Ljava/util/TreeMap;" .null ∧ Exa Z h' bf31 "java/util/BitSet" ∧ Fld Z h' bf31 "java/util/BitSet" "wordsInUse" "I" (.int v203) ∧ Fld Z h' bf31 "java/util/BitSet" "sizeIsSticky" "Z" (.int (0 : Int32)) ∧ Fld Z h' bf31 "java/util/BitSet" "words" "[J" (.ref wf31) ∧ Arv Z h' wf31 kf31 .long (1 : Int32) [(.long v204)] (.long (0 : Int64)) ∧ Exa Z h' bl31 "java/util/BitSet" ∧ Fld Z h' bl31 "java/util/BitSet" "wordsInUse" "I" (.int (own_wu (0 : Int64))) ∧ Fld Z h' bl31 "java/util/BitSet" "sizeIsSticky" "Z" (.int (0 : Int32)) ∧ Fld Z h' bl31 "java/util/BitSet" "words" "[J" (.ref wl31) ∧ Arv Z h' wl31 kl31 .long (1 : Int32) [(.long (0 : Int64))] (.long (0 : Int64)) ∧ ∀ t, own_K p e below m T' 186 #[lv p1, .second, iv p2, iv p3, iv p4, iv p5, iv p6, iv xz, iv xk, lv q0, .second, iv xf, lv qk, .second, rv b11, .unset, .unset, .unset, .unset, .unset, .unset, .unset] [] t → G t := by
    by_cases hc173_194 : (p4 &&& (2 : Int32)) = (0 : Int32)
    · have pre195 : ∀ t, own_K p e below m T181 186 #[lv p1, .second, iv p2, iv p3, iv p4, iv p5, iv p6, iv xz, iv xk, lv q0, .second, iv xf, lv qk, .second, rv b11, .unset, .unset, .unset, .unset, .unset, .unset, .unset] [] t → G t := by
        intro t k
        refine pre193 t ?_
        show own_K p e below m T181 173 #[lv p1, .second, iv p2, iv p3, iv p4, iv p5, iv p6, iv xz, iv xk, lv q0, .second, iv xf, lv qk, .second, rv b11, .unset, .unset, .unset, .unset, .unset, .unset, .unset] [(.int (p4 &&& (2 : Int32)))] _
        refine XS.ifYes X181.here hx rfl (pc0 := 173) (pc' := 186) rfl (hb hby at_173) rfl ((if0 _ _).trans (teq hc173_194).1) (by decide) (by decide) ?_
        exact k
      have hq := True.intro
      obtain rfl : (own_wu v183) = v203 := by simp only [hv203, if_pos hc173_194]
      obtain rfl : v183 = v204 := by simp only [hv204, if_pos hc173_194]
      exact ⟨_, _, _, X181, N181, e181, K181, j181_0, j181_1, j181_2, j181_3, j181_4, j181_5, j181_6, j181_7, j181_8, j181_9, j181_10, j181_11, j181_12, j181_13, j181_14, hwu192, j181_16, j181_17, j181_18, j181_19, j181_20, j181_21, j181_22, j181_23, fun t k => pre195 t k⟩
    · have pre197 : ∀ t, own_K p e below m T181 182 #[lv p1, .second, iv p2, iv p3, iv p4, iv p5, iv p6, iv xz, iv xk, lv q0, .second, iv xf, lv qk, .second, rv b11, .unset, .unset, .unset, .unset, .unset, .unset, .unset] [(.long (q0 + (1 : Int64))), (.ref b11)] t → G t := by
        intro t k
        refine pre193 t ?_
        show own_K p e below m T181 173 #[lv p1, .second, iv p2, iv p3, iv p4, iv p5, iv p6, iv xz, iv xk, lv q0, .second, iv xf, lv qk, .second, rv b11, .unset, .unset, .unset, .unset, .unset, .unset, .unset] [(.int (p4 &&& (2 : Int32)))] _
        refine XS.ifNo X181.here hx rfl (hb hby at_173) rfl ((if0 _ _).trans (feq hc173_194).1) ?_
        show own_K p e below m T181 176 #[lv p1, .second, iv p2, iv p3, iv p4, iv p5, iv p6, iv xz, iv xk, lv q0, .second, iv xf, lv qk, .second, rv b11, .unset, .unset, .unset, .unset, .unset, .unset, .unset] [] _
        refine XS.aload X181.here hx rfl (hb hby at_176) rfl rfl ?_
        show own_K p e below m T181 178 #[lv p1, .second, iv p2, iv p3, iv p4, iv p5, iv p6, iv xz, iv xk, lv q0, .second, iv xf, lv qk, .second, rv b11, .unset, .unset, .unset, .unset, .unset, .unset, .unset] [(.ref b11)] _
        refine XS.lload X181.here hx rfl (hb hby at_178) rfl ?_
        show own_K p e below m T181 180 #[lv p1, .second, iv p2, iv p3, iv p4, iv p5, iv p6, iv xz, iv xk, lv q0, .second, iv xf, lv qk, .second, rv b11, .unset, .unset, .unset, .unset, .unset, .unset, .unset] [(.long q0), (.ref b11)] _
        refine XS.lconst X181.here hx rfl (hb hby at_180) ?_
        show own_K p e below m T181 181 #[lv p1, .second, iv p2, iv p3, iv p4, iv p5, iv p6, iv xz, iv xk, lv q0, .second, iv xf, lv qk, .second, rv b11, .unset, .unset, .unset, .unset, .unset, .unset, .unset] [(.long (1 : Int64)), (.long q0), (.ref b11)] _
        refine XS.ladd X181.here hx rfl (hb hby at_181) rfl ?_
        exact k
      by_cases hb182_196 : 1 < kN
      · obtain ⟨cq198, kq198, q198a, q198b, q198c⟩ := isOf hZ e181 j181_1
        obtain ⟨_, _, ⟨T198, L198, k198, n198⟩, -, X198, ⟨Lc198, hQ198, l198, y198, z198⟩, st198⟩ := X181.virtualBack hx (y := (⟨"evenkeel/client/Window", "finish", "(J)Z"⟩ : MethodName)) (z := (⟨"evenkeel/client/Window", "finish", "(J)Z"⟩ : MethodName)) hown (mvT hZ (tw hw (i := 197) rfl)) (mvT hZ (tw hw (i := 198) rfl)) (notFace_of_selects (args := #[]) (mvT hZ (tw hw (i := 200) rfl))) (mvT hZ (tw hw (i := 200) rfl)) (mvT hZ (tw hw (i := 199) rfl)) (by decide) (backOf (W := 0) (rm24b l Z a0 hw [] b11 (q0 + (1 : Int64)) v137 v138 v136 xz v183 bf31 wf31 kf31 bl31 wl31 kl31 el ea kE (.long v137) (.ref el) (.ref el) (.int (0 : Int32)) (.ref el) (.int (0 : Int32)) h181 n0 (Nat.le_trans Z0 K181.1) j181_1 j181_8 j181_9 j181_4 j181_13 j181_6 j181_3 j181_14 hwu192 j181_17 j181_18 j181_5 j181_19 j181_20 j181_22 j181_23 hzb (own_q1 hq62) (own_in1 hS hnx hq62 hb182_196).1 (own_in1 hS hnx hq62 hb182_196).2.1 (own_in1 hS hnx hq62 hb182_196).2.2.1 (own_nb1 hkb hzb hkz hq62 hnx hb182_196 hv162 hv183) (own_in1 hS hnx hq62 hb182_196).2.2.2 ne_b11_bf31 ne_b11_wf31 nbfwf_31 ne_b11_bl31 ne_b11_wl31 nbfbl_31 nbfwl_31 nwfbl_31 nwfwl_31 ge_b11 ge_bf31 ge_wf31 j181_0 P_ j181_7 j181_2 j181_10 j181_12 j181_11 j181_16) hZ (tw hw (i := 201) rfl) (tw hw (i := 4) rfl) (by decide) (by decide)) q198a q198c (g := (mkF m 182 #[lv p1, .second, iv p2, iv p3, iv p4, iv p5, iv p6, iv xz, iv xk, lv q0, .second, iv xf, lv qk, .second, rv b11, .unset, .unset, .unset, .unset, .unset, .unset, .unset] [(.long (q0 + (1 : Int64))), (.ref b11)])) rfl (by rw [hml]; rfl) (Steps.refl _) (argsL := [(.long (q0 + (1 : Int64)))]) (rest := []) (lenOf pd_14 rfl) rfl (by show 2 * 0 + _ ≤ _; exact Nat.le_of_eq rfl) (hb hby at_182) (fun _ _ => ⟨rfl, e181, (by decide : 8 + 0 ≤ _), (by decide : 32 + 0 ≤ _)⟩)
        dsimp only [Pt.U, Pt.locs, Pt.cells, Pt.slots] at X198 l198 y198 z198 st198 hQ198
        subst l198 y198 z198
        obtain ⟨rfl, Nq198, Kc198, Fw2_198, Fx2_198, Vx2_198, P_oa_size_198, P_oa_committed_198, P_oa_committedAhead_198, P_oa_unfinished_198, P_oa_next_198, P_oa_finished_198, P_oa_restart_198, P_oa_consumed_198, P_oa_consumedAt_198, P_oa_left_198, P_oa_failing_198, P_oa_committedFailures_198, P_bf_sizeIsSticky_198⟩ := hQ198
        have N198 := Fr.app N181 Nq198
        have K198 : Keep h0 T198.heap [] := K181.trans Kc198 (allS (Or.inr sz_b11) (allS (Or.inr sz_bf31) (allS (Or.inr sz_wf31) all0)))
        have sz198 : n0 ≤ T198.heap.size := Nat.le_trans (Nat.le_trans Z0 K181.1) Kc198.1
        have pre199 : ∀ t, own_K p e below m T198 186 #[lv p1, .second, iv p2, iv p3, iv p4, iv p5, iv p6, iv xz, iv xk, lv q0, .second, iv xf, lv qk, .second, rv b11, .unset, .unset, .unset, .unset, .unset, .unset, .unset] [] t → G t := by
          intro t k
          refine pre197 t ?_
          show own_K p e below m T181 182 #[lv p1, .second, iv p2, iv p3, iv p4, iv p5, iv p6, iv xz, iv xk, lv q0, .second, iv xf, lv qk, .second, rv b11, .unset, .unset, .unset, .unset, .unset, .unset, .unset] [(.long (q0 + (1 : Int64))), (.ref b11)] _
          refine st198.trans ?_
          show own_K p e below m T198 185 #[lv p1, .second, iv p2, iv p3, iv p4, iv p5, iv p6, iv xz, iv xk, lv q0, .second, iv xf, lv qk, .second, rv b11, .unset, .unset, .unset, .unset, .unset, .unset, .unset] [(.int (1 : Int32))] _
          refine XS.pop X198.here hx rfl (hb hby at_185) rfl rfl ?_
          exact k
        have f205 : Old Z n0 T198.heap := (j181_0.keep Kc198 (allS ge_b11 (allS ge_bf31 (allS ge_wf31 all0))))
        have f206 : Exa Z T198.heap b11 "evenkeel/client/Window" := (j181_1.keep Kc198)
        have f207 : Exa Z T198.heap bf31 "java/util/BitSet" := (j181_14.keep Kc198)
        have f208 : Exa Z T198.heap bl31 "java/util/BitSet" := (j181_19.keep Kc198)
        have f209 : Fld Z T198.heap bl31 "java/util/BitSet" "wordsInUse" "I" (.int (own_wu (0 : Int64))) := (j181_20.keep Kc198 (ninS (Ne.symm ne_b11_bl31) (ninS (Ne.symm nbfbl_31) (ninS (Ne.symm nwfbl_31) nin0))))
        have f210 : Fld Z T198.heap bl31 "java/util/BitSet" "sizeIsSticky" "Z" (.int (0 : Int32)) := (j181_21.keep Kc198 (ninS (Ne.symm ne_b11_bl31) (ninS (Ne.symm nbfbl_31) (ninS (Ne.symm nwfbl_31) nin0))))
        have f211 : Fld Z T198.heap bl31 "java/util/BitSet" "words" "[J" (.ref wl31) := (j181_22.keep Kc198 (ninS (Ne.symm ne_b11_bl31) (ninS (Ne.symm nbfbl_31) (ninS (Ne.symm nwfbl_31) nin0))))
        have f212 : Arv Z T198.heap wl31 kl31 .long (1 : Int32) [(.long (0 : Int64))] (.long (0 : Int64)) := (j181_23.keep Kc198 (ninS (Ne.symm ne_b11_wl31) (ninS (Ne.symm nbfwl_31) (ninS (Ne.symm nwfwl_31) nin0))))
        have hq := True.intro
        obtain rfl : (own_wu (v183 ||| (own_m (q0 + (1 : Int64)) xz))) = v203 := by simp only [hv203, if_neg hc173_194, if_pos hb182_196]
        obtain rfl : (v183 ||| (own_m (q0 + (1 : Int64)) xz)) = v204 := by simp only [hv204, if_neg hc173_194, if_pos hb182_196]
        exact ⟨_, _, _, X198, N198, rfl, K198, f205, f206, P_oa_committedAhead_198, P_oa_finished_198, P_oa_restart_198, P_oa_left_198, P_oa_size_198, P_oa_committed_198, P_oa_unfinished_198, P_oa_next_198, P_oa_consumed_198, P_oa_committedFailures_198, P_oa_consumedAt_198, P_oa_failing_198, f207, Fw2_198, P_bf_sizeIsSticky_198, Fx2_198, Vx2_198, f208, f209, f210, f211, f212, fun t k => pre199 t k⟩
      · obtain ⟨cq200, kq200, q200a, q200b, q200c⟩ := isOf hZ e181 j181_1
        obtain ⟨_, _, ⟨T200, L200, k200, n200⟩, -, X200, ⟨Lc200, hQ200, l200, y200, z200⟩, st200⟩ := X181.virtualBack hx (y := (⟨"evenkeel/client/Window", "finish", "(J)Z"⟩ : MethodName)) (z := (⟨"evenkeel/client/Window", "finish", "(J)Z"⟩ : MethodName)) hown (mvT hZ (tw hw (i := 197) rfl)) (mvT hZ (tw hw (i := 198) rfl)) (notFace_of_selects (args := #[]) (mvT hZ (tw hw (i := 200) rfl))) (mvT hZ (tw hw (i := 200) rfl)) (mvT hZ (tw hw (i := 199) rfl)) (by decide) (backOf (W := 0) (rm24a l Z a0 hw [] b11 (q0 + (1 : Int64)) v137 v138 h181 n0 (Nat.le_trans Z0 K181.1) j181_1 j181_8 j181_9 (own_out1 hS hnx hq62 hb182_196)) hZ (tw hw (i := 201) rfl) (tw hw (i := 4) rfl) (by decide) (by decide)) q200a q200c (g := (mkF m 182 #[lv p1, .second, iv p2, iv p3, iv p4, iv p5, iv p6, iv xz, iv xk, lv q0, .second, iv xf, lv qk, .second, rv b11, .unset, .unset, .unset, .unset, .unset, .unset, .unset] [(.long (q0 + (1 : Int64))), (.ref b11)])) rfl (by rw [hml]; rfl) (Steps.refl _) (argsL := [(.long (q0 + (1 : Int64)))]) (rest := []) (lenOf pd_14 rfl) rfl (by show 2 * 0 + _ ≤ _; exact Nat.le_of_eq rfl) (hb hby at_182) (fun _ _ => ⟨rfl, e181, (by decide : 8 + 0 ≤ _), (by decide : 32 + 0 ≤ _)⟩)
        dsimp only [Pt.U, Pt.locs, Pt.cells, Pt.slots] at X200 l200 y200 z200 st200 hQ200
        subst l200 y200 z200
        obtain ⟨rfl, Nq200, eh200⟩ := hQ200
        have N200 := Fr.app N181 Nq200
        have pre201 : ∀ t, own_K p e below m T200 186 #[lv p1, .second, iv p2, iv p3, iv p4, iv p5, iv p6, iv xz, iv xk, lv q0, .second, iv xf, lv qk, .second, rv b11, .unset, .unset, .unset, .unset, .unset, .unset, .unset] [] t → G t := by
          intro t k
          refine pre197 t ?_
          show own_K p e below m T181 182 #[lv p1, .second, iv p2, iv p3, iv p4, iv p5, iv p6, iv xz, iv xk, lv q0, .second, iv xf, lv qk, .second, rv b11, .unset, .unset, .unset, .unset, .unset, .unset, .unset] [(.long (q0 + (1 : Int64))), (.ref b11)] _
          refine st200.trans ?_
          show own_K p e below m T200 185 #[lv p1, .second, iv p2, iv p3, iv p4, iv p5, iv p6, iv xz, iv xk, lv q0, .second, iv xf, lv qk, .second, rv b11, .unset, .unset, .unset, .unset, .unset, .unset, .unset] [(.int (0 : Int32))] _
          refine XS.pop X200.here hx rfl (hb hby at_185) rfl rfl ?_
          exact k
        have hq := True.intro
        obtain rfl : (own_wu v183) = v203 := by simp only [hv203, if_neg hc173_194, if_neg hb182_196]
        obtain rfl : v183 = v204 := by simp only [hv204, if_neg hc173_194, if_neg hb182_196]
        exact ⟨_, _, _, X200, N200, eh200, K181, j181_0, j181_1, j181_2, j181_3, j181_4, j181_5, j181_6, j181_7, j181_8, j181_9, j181_10, j181_11, j181_12, j181_13, j181_14, hwu192, j181_16, j181_17, j181_18, j181_19, j181_20, j181_21, j181_22, j181_23, fun t k => pre201 t k⟩
  have hwj213 : v203 = own_wu v204 := by rw [hv203, hv204]; exact own_wuite _ _ _
  have hwu213 : Fld Z h202 bf31 "java/util/BitSet" "wordsInUse" "I" (.int (own_wu v204)) := by rw [← hwj213]; exact j202_15
  have pre214 : ∀ t, own_K p e below m T202 190 #[lv p1, .second, iv p2, iv p3, iv p4, iv p5, iv p6, iv xz, iv xk, lv q0, .second, iv xf, lv qk, .second, rv b11, .unset, .unset, .unset, .unset, .unset, .unset, .unset] [(.int (p4 &&& (1 : Int32)))] t → G t := by
    intro t k
    refine pre202 t ?_
    show own_K p e below m T202 186 #[lv p1, .second, iv p2, iv p3, iv p4, iv p5, iv p6, iv xz, iv xk, lv q0, .second, iv xf, lv qk, .second, rv b11, .unset, .unset, .unset, .unset, .unset, .unset, .unset] [] _
    refine XS.iload X202.here hx rfl (hb hby at_186) rfl ?_
    show own_K p e below m T202 188 #[lv p1, .second, iv p2, iv p3, iv p4, iv p5, iv p6, iv xz, iv xk, lv q0, .second, iv xf, lv qk, .second, rv b11, .unset, .unset, .unset, .unset, .unset, .unset, .unset] [(.int p4)] _
    refine XS.iconst X202.here hx rfl (hb hby at_188) ?_
    show own_K p e below m T202 189 #[lv p1, .second, iv p2, iv p3, iv p4, iv p5, iv p6, iv xz, iv xk, lv q0, .second, iv xf, lv qk, .second, rv b11, .unset, .unset, .unset, .unset, .unset, .unset, .unset] [(.int (1 : Int32)), (.int p4)] _
    refine XS.iand X202.here hx rfl (hb hby at_189) rfl ?_
    exact k
  obtain ⟨v225, hv225⟩ : ∃ z : Int64, z = (if (p4 &&& (1 : Int32)) = (0 : Int32) then v136 else (if 0 < kN then (if v136 < (0 : Int64) then v136 else (if (own_run q0 v138 v204 xz) = v138 then (-1 : Int64) else (if v136 < v136 then v136 else v136))) else v136)) := ⟨_, rfl⟩
  obtain ⟨v226, hv226⟩ : ∃ z : Int64, z = (if (p4 &&& (1 : Int32)) = (0 : Int32) then v137 else (if 0 < kN then (if v136 < (0 : Int64) then v137 else (if (own_run q0 v138 v204 xz) = v138 then v136 else v137)) else v137)) := ⟨_, rfl⟩
  obtain ⟨v227, hv227⟩ : ∃ z : Int64, z = (if (p4 &&& (1 : Int32)) = (0 : Int32) then v137 else (if 0 < kN then (if v136 < (0 : Int64) then (own_run q0 v138 v204 xz) else (if (own_run q0 v138 v204 xz) = v138 then v136 else (own_run q0 v138 v204 xz))) else v137)) := ⟨_, rfl⟩
  obtain ⟨v228, hv228⟩ : ∃ z : Int64, z = (if (p4 &&& (1 : Int32)) = (0 : Int32) then v138 else (if 0 < kN then (if v136 < (0 : Int64) then v138 else (if (own_run q0 v138 v204 xz) = v138 then v136 else v138)) else v138)) := ⟨_, rfl⟩
  obtain ⟨T224, h224, lo224, X224, N224, e224, K224, j224_0, j224_1, j224_2, j224_3, j224_4, j224_5, j224_6, j224_7, j224_8, j224_9, j224_10, j224_11, j224_12, j224_13, pre224⟩ : ∃ (T' : State) (h' : Heap) (l' : List Loc), Stand p l e room_1 s m #[(.long p1), (.int p2), (.int p3), (.int p4), (.int p5), (.int p6)] below meth c T' l' 8 32 ∧ Fr n0 l' ∧ T'.heap = h' ∧ Keep h0 h' [] ∧ Old Z n0 h' ∧ Exa Z h' b11 "evenkeel/client/Window" ∧ Fld Z h' b11 "evenkeel/client/Window" "committedAhead" "Ljava/util/List;" (.ref el) ∧ Fld Z h' b11 "evenkeel/client/Window" "finished" "Ljava/util/BitSet;" (.ref bf31) ∧ Fld Z h' b11 "evenkeel/client/Window" "restart" "J" (.long v225) ∧ Fld Z h' b11 "evenkeel/client/Window" "left" "Ljava/util/BitSet;" (.ref bl31) ∧ Fld Z h' b11 "evenkeel/client/Window" "size" "I" (.int xz) ∧ Fld Z h' b11 "evenkeel/client/Window" "committed" "J" (.long v226) ∧ Fld Z h' b11 "evenkeel/client/Window" "unfinished" "J" (.long v227) ∧ Fld Z h' b11 "evenkeel/client/Window" "next" "J" (.long v228) ∧ Fld Z h' b11 "evenkeel/client/Window" "consumed" "Ljava/util/List;" (.ref el) ∧ Fld Z h' b11 "evenkeel/client/Window" "committedFailures" "Ljava/util/List;" (.ref el) ∧ Fld Z h' b11 "evenkeel/client/Window" "consumedAt" "I" (.int (0 : Int32)) ∧ Fld Z h' b11 "evenkeel/client/Window" "failing" "Ljava/util/TreeMap;" .null ∧ ∀ t, own_K p e below m T' 201 #[lv p1, .second, iv p2, iv p3, iv p4, iv p5, iv p6, iv xz, iv xk, lv q0, .second, iv xf, lv qk, .second, rv b11, .unset, .unset, .unset, .unset, .unset, .unset, .unset] [] t → G t := by
    by_cases hc190_215 : (p4 &&& (1 : Int32)) = (0 : Int32)
    · have pre216 : ∀ t, own_K p e below m T202 201 #[lv p1, .second, iv p2, iv p3, iv p4, iv p5, iv p6, iv xz, iv xk, lv q0, .second, iv xf, lv qk, .second, rv b11, .unset, .unset, .unset, .unset, .unset, .unset, .unset] [] t → G t := by
        intro t k
        refine pre214 t ?_
        show own_K p e below m T202 190 #[lv p1, .second, iv p2, iv p3, iv p4, iv p5, iv p6, iv xz, iv xk, lv q0, .second, iv xf, lv qk, .second, rv b11, .unset, .unset, .unset, .unset, .unset, .unset, .unset] [(.int (p4 &&& (1 : Int32)))] _
        refine XS.ifYes X202.here hx rfl (pc0 := 190) (pc' := 201) rfl (hb hby at_190) rfl ((if0 _ _).trans (teq hc190_215).1) (by decide) (by decide) ?_
        exact k
      have hq := True.intro
      obtain rfl : v136 = v225 := by simp only [hv225, if_pos hc190_215]
      obtain rfl : v137 = v226 := by simp only [hv226, if_pos hc190_215]
      obtain rfl : v137 = v227 := by simp only [hv227, if_pos hc190_215]
      obtain rfl : v138 = v228 := by simp only [hv228, if_pos hc190_215]
      exact ⟨_, _, _, X202, N202, e202, K202, j202_0, j202_1, j202_2, j202_3, j202_4, j202_5, j202_6, j202_7, j202_8, j202_9, j202_10, j202_11, j202_12, j202_13, fun t k => pre216 t k⟩
    · have pre218 : ∀ t, own_K p e below m T202 197 #[lv p1, .second, iv p2, iv p3, iv p4, iv p5, iv p6, iv xz, iv xk, lv q0, .second, iv xf, lv qk, .second, rv b11, .unset, .unset, .unset, .unset, .unset, .unset, .unset] [(.long q0), (.ref b11)] t → G t := by
        intro t k
        refine pre214 t ?_
        show own_K p e below m T202 190 #[lv p1, .second, iv p2, iv p3, iv p4, iv p5, iv p6, iv xz, iv xk, lv q0, .second, iv xf, lv qk, .second, rv b11, .unset, .unset, .unset, .unset, .unset, .unset, .unset] [(.int (p4 &&& (1 : Int32)))] _
        refine XS.ifNo X202.here hx rfl (hb hby at_190) rfl ((if0 _ _).trans (feq hc190_215).1) ?_
        show own_K p e below m T202 193 #[lv p1, .second, iv p2, iv p3, iv p4, iv p5, iv p6, iv xz, iv xk, lv q0, .second, iv xf, lv qk, .second, rv b11, .unset, .unset, .unset, .unset, .unset, .unset, .unset] [] _
        refine XS.aload X202.here hx rfl (hb hby at_193) rfl rfl ?_
        show own_K p e below m T202 195 #[lv p1, .second, iv p2, iv p3, iv p4, iv p5, iv p6, iv xz, iv xk, lv q0, .second, iv xf, lv qk, .second, rv b11, .unset, .unset, .unset, .unset, .unset, .unset, .unset] [(.ref b11)] _
        refine XS.lload X202.here hx rfl (hb hby at_195) rfl ?_
        exact k
      by_cases hb197_217 : 0 < kN
      · have hun219 : Fld Z h202 b11 "evenkeel/client/Window" "unfinished" "J" (.long q0) := by rw [← (hS.1 hb197_217).1]; exact j202_8
        obtain ⟨cq220, kq220, q220a, q220b, q220c⟩ := isOf hZ e202 j202_1
        obtain ⟨_, _, ⟨T220, L220, k220, n220⟩, -, X220, ⟨Lc220, hQ220, l220, y220, z220⟩, st220⟩ := X202.virtualBack hx (y := (⟨"evenkeel/client/Window", "finish", "(J)Z"⟩ : MethodName)) (z := (⟨"evenkeel/client/Window", "finish", "(J)Z"⟩ : MethodName)) hown (mvT hZ (tw hw (i := 197) rfl)) (mvT hZ (tw hw (i := 198) rfl)) (notFace_of_selects (args := #[]) (mvT hZ (tw hw (i := 200) rfl))) (mvT hZ (tw hw (i := 200) rfl)) (mvT hZ (tw hw (i := 199) rfl)) (by decide) (backOf (W := 0) (rm24c l Z a0 hw [] b11 q0 v138 v136 v137 xz (.int (0 : Int32)) v204 bf31 wf31 kf31 bl31 wl31 kl31 el ea kE (.ref el) (.ref el) (.int (0 : Int32)) (.ref el) h202 n0 (Nat.le_trans Z0 K202.1) j202_1 hun219 j202_9 j202_4 j202_7 j202_13 j202_6 j202_3 j202_14 hwu213 j202_17 j202_18 j202_16 j202_5 j202_19 j202_20 j202_22 j202_23 hzb hq62.1 (own_in0 hS hnx hq62 hb197_217) hq62.2 (own_n4 hS hnx hkb hb197_217) ne_b11_bf31 ne_b11_wf31 nbfwf_31 ne_b11_bl31 ne_b11_wl31 nbfbl_31 nbfwl_31 nwfbl_31 nwfwl_31 ge_b11 ge_bf31 ge_wf31 j202_0 P_ j202_2 j202_10 j202_12 j202_11) hZ (tw hw (i := 201) rfl) (tw hw (i := 4) rfl) (by decide) (by decide)) q220a q220c (g := (mkF m 197 #[lv p1, .second, iv p2, iv p3, iv p4, iv p5, iv p6, iv xz, iv xk, lv q0, .second, iv xf, lv qk, .second, rv b11, .unset, .unset, .unset, .unset, .unset, .unset, .unset] [(.long q0), (.ref b11)])) rfl (by rw [hml]; rfl) (Steps.refl _) (argsL := [(.long q0)]) (rest := []) (lenOf pd_14 rfl) rfl (by show 2 * 0 + _ ≤ _; exact Nat.le_of_eq rfl) (hb hby at_197) (fun _ _ => ⟨rfl, e202, (by decide : 8 + 0 ≤ _), (by decide : 32 + 0 ≤ _)⟩)
        dsimp only [Pt.U, Pt.locs, Pt.cells, Pt.slots] at X220 l220 y220 z220 st220 hQ220
        subst l220 y220 z220
        obtain ⟨rfl, Nq220, Kc220, Fu2_220, Fn2_220, Fr2_220, Fc2_220, P_oa_size_220, P_oa_committedAhead_220, P_oa_finished_220, P_oa_consumed_220, P_oa_consumedAt_220, P_oa_left_220, P_oa_failing_220, P_oa_committedFailures_220⟩ := hQ220
        have N220 := Fr.app N202 Nq220
        have K220 : Keep h0 T220.heap [] := K202.trans Kc220 (allS (Or.inr sz_b11) (allS (Or.inr sz_bf31) (allS (Or.inr sz_wf31) all0)))
        have sz220 : n0 ≤ T220.heap.size := Nat.le_trans (Nat.le_trans Z0 K202.1) Kc220.1
        have pre221 : ∀ t, own_K p e below m T220 201 #[lv p1, .second, iv p2, iv p3, iv p4, iv p5, iv p6, iv xz, iv xk, lv q0, .second, iv xf, lv qk, .second, rv b11, .unset, .unset, .unset, .unset, .unset, .unset, .unset] [] t → G t := by
          intro t k
          refine pre218 t ?_
          show own_K p e below m T202 197 #[lv p1, .second, iv p2, iv p3, iv p4, iv p5, iv p6, iv xz, iv xk, lv q0, .second, iv xf, lv qk, .second, rv b11, .unset, .unset, .unset, .unset, .unset, .unset, .unset] [(.long q0), (.ref b11)] _
          refine st220.trans ?_
          show own_K p e below m T220 200 #[lv p1, .second, iv p2, iv p3, iv p4, iv p5, iv p6, iv xz, iv xk, lv q0, .second, iv xf, lv qk, .second, rv b11, .unset, .unset, .unset, .unset, .unset, .unset, .unset] [(.int (1 : Int32))] _
          refine XS.pop X220.here hx rfl (hb hby at_200) rfl rfl ?_
          exact k
        have f229 : Old Z n0 T220.heap := (j202_0.keep Kc220 (allS ge_b11 (allS ge_bf31 (allS ge_wf31 all0))))
        have f230 : Exa Z T220.heap b11 "evenkeel/client/Window" := (j202_1.keep Kc220)
        have hq := True.intro
        obtain rfl : (if v136 < (0 : Int64) then v136 else (if (own_run q0 v138 v204 xz) = v138 then (-1 : Int64) else (if v136 < v136 then v136 else v136))) = v225 := by simp only [hv225, if_neg hc190_215, if_pos hb197_217]
        obtain rfl : (if v136 < (0 : Int64) then v137 else (if (own_run q0 v138 v204 xz) = v138 then v136 else v137)) = v226 := by simp only [hv226, if_neg hc190_215, if_pos hb197_217]
        obtain rfl : (if v136 < (0 : Int64) then (own_run q0 v138 v204 xz) else (if (own_run q0 v138 v204 xz) = v138 then v136 else (own_run q0 v138 v204 xz))) = v227 := by simp only [hv227, if_neg hc190_215, if_pos hb197_217]
        obtain rfl : (if v136 < (0 : Int64) then v138 else (if (own_run q0 v138 v204 xz) = v138 then v136 else v138)) = v228 := by simp only [hv228, if_neg hc190_215, if_pos hb197_217]
        exact ⟨_, _, _, X220, N220, rfl, K220, f229, f230, P_oa_committedAhead_220, P_oa_finished_220, Fr2_220, P_oa_left_220, P_oa_size_220, Fc2_220, Fu2_220, Fn2_220, P_oa_consumed_220, P_oa_committedFailures_220, P_oa_consumedAt_220, P_oa_failing_220, fun t k => pre221 t k⟩
      · obtain ⟨cq222, kq222, q222a, q222b, q222c⟩ := isOf hZ e202 j202_1
        obtain ⟨_, _, ⟨T222, L222, k222, n222⟩, -, X222, ⟨Lc222, hQ222, l222, y222, z222⟩, st222⟩ := X202.virtualBack hx (y := (⟨"evenkeel/client/Window", "finish", "(J)Z"⟩ : MethodName)) (z := (⟨"evenkeel/client/Window", "finish", "(J)Z"⟩ : MethodName)) hown (mvT hZ (tw hw (i := 197) rfl)) (mvT hZ (tw hw (i := 198) rfl)) (notFace_of_selects (args := #[]) (mvT hZ (tw hw (i := 200) rfl))) (mvT hZ (tw hw (i := 200) rfl)) (mvT hZ (tw hw (i := 199) rfl)) (by decide) (backOf (W := 0) (rm24a l Z a0 hw [] b11 q0 v137 v138 h202 n0 (Nat.le_trans Z0 K202.1) j202_1 j202_8 j202_9 (own_out0 hS hnx hq62 hb197_217)) hZ (tw hw (i := 201) rfl) (tw hw (i := 4) rfl) (by decide) (by decide)) q222a q222c (g := (mkF m 197 #[lv p1, .second, iv p2, iv p3, iv p4, iv p5, iv p6, iv xz, iv xk, lv q0, .second, iv xf, lv qk, .second, rv b11, .unset, .unset, .unset, .unset, .unset, .unset, .unset] [(.long q0), (.ref b11)])) rfl (by rw [hml]; rfl) (Steps.refl _) (argsL := [(.long q0)]) (rest := []) (lenOf pd_14 rfl) rfl (by show 2 * 0 + _ ≤ _; exact Nat.le_of_eq rfl) (hb hby at_197) (fun _ _ => ⟨rfl, e202, (by decide : 8 + 0 ≤ _), (by decide : 32 + 0 ≤ _)⟩)
        dsimp only [Pt.U, Pt.locs, Pt.cells, Pt.slots] at X222 l222 y222 z222 st222 hQ222
        subst l222 y222 z222
        obtain ⟨rfl, Nq222, eh222⟩ := hQ222
        have N222 := Fr.app N202 Nq222
        have pre223 : ∀ t, own_K p e below m T222 201 #[lv p1, .second, iv p2, iv p3, iv p4, iv p5, iv p6, iv xz, iv xk, lv q0, .second, iv xf, lv qk, .second, rv b11, .unset, .unset, .unset, .unset, .unset, .unset, .unset] [] t → G t := by
          intro t k
          refine pre218 t ?_
          show own_K p e below m T202 197 #[lv p1, .second, iv p2, iv p3, iv p4, iv p5, iv p6, iv xz, iv xk, lv q0, .second, iv xf, lv qk, .second, rv b11, .unset, .unset, .unset, .unset, .unset, .unset, .unset] [(.long q0), (.ref b11)] _
          refine st222.trans ?_
          show own_K p e below m T222 200 #[lv p1, .second, iv p2, iv p3, iv p4, iv p5, iv p6, iv xz, iv xk, lv q0, .second, iv xf, lv qk, .second, rv b11, .unset, .unset, .unset, .unset, .unset, .unset, .unset] [(.int (0 : Int32))] _
          refine XS.pop X222.here hx rfl (hb hby at_200) rfl rfl ?_
          exact k
        have hq := True.intro
        obtain rfl : v136 = v225 := by simp only [hv225, if_neg hc190_215, if_neg hb197_217]
        obtain rfl : v137 = v226 := by simp only [hv226, if_neg hc190_215, if_neg hb197_217]
        obtain rfl : v137 = v227 := by simp only [hv227, if_neg hc190_215, if_neg hb197_217]
        obtain rfl : v138 = v228 := by simp only [hv228, if_neg hc190_215, if_neg hb197_217]
        exact ⟨_, _, _, X222, N222, eh222, K202, j202_0, j202_1, j202_2, j202_3, j202_4, j202_5, j202_6, j202_7, j202_8, j202_9, j202_10, j202_11, j202_12, j202_13, fun t k => pre223 t k⟩
  have pre231 : ∀ t, own_K p e below m T224 204 #[lv p1, .second, iv p2, iv p3, iv p4, iv p5, iv p6, iv xz, iv xk, lv q0, .second, iv xf, lv qk, .second, rv b11, .unset, .unset, .unset, .unset, .unset, .unset, .unset] [(.int (2 : Int32)), (.int xf)] t → G t := by
    intro t k
    refine pre224 t ?_
    show own_K p e below m T224 201 #[lv p1, .second, iv p2, iv p3, iv p4, iv p5, iv p6, iv xz, iv xk, lv q0, .second, iv xf, lv qk, .second, rv b11, .unset, .unset, .unset, .unset, .unset, .unset, .unset] [] _
    refine XS.iload X224.here hx rfl (hb hby at_201) rfl ?_
    show own_K p e below m T224 203 #[lv p1, .second, iv p2, iv p3, iv p4, iv p5, iv p6, iv xz, iv xk, lv q0, .second, iv xf, lv qk, .second, rv b11, .unset, .unset, .unset, .unset, .unset, .unset, .unset] [(.int xf)] _
    refine XS.iconst X224.here hx rfl (hb hby at_203) ?_
    exact k
  obtain ⟨v237, hv237⟩ : ∃ z : Int64, z = (if xf = (2 : Int32) then (if v227 = v228 then (-1 : Int64) else (if v225 < qk then qk else v225)) else v225) := ⟨_, rfl⟩
  obtain ⟨v238, hv238⟩ : ∃ z : Int64, z = (if xf = (2 : Int32) then (if v227 = v228 then qk else v226) else v226) := ⟨_, rfl⟩
  obtain ⟨v239, hv239⟩ : ∃ z : Int64, z = (if xf = (2 : Int32) then (if v227 = v228 then qk else v227) else v227) := ⟨_, rfl⟩
  obtain ⟨v240, hv240⟩ : ∃ z : Int64, z = (if xf = (2 : Int32) then (if v227 = v228 then qk else v228) else v228) := ⟨_, rfl⟩
  obtain ⟨T236, h236, lo236, X236, N236, e236, K236, j236_0, j236_1, j236_2, j236_3, j236_4, j236_5, j236_6, j236_7, j236_8, j236_9, j236_10, j236_11, j236_12, j236_13, pre236⟩ : ∃ (T' : State) (h' : Heap) (l' : List Loc), Stand p l e room_1 s m #[(.long p1), (.int p2), (.int p3), (.int p4), (.int p5), (.int p6)] below meth c T' l' 8 32 ∧ Fr n0 l' ∧ T'.heap = h' ∧ Keep h0 h' [] ∧ Old Z n0 h' ∧ Exa Z h' b11 "evenkeel/client/Window" ∧ Fld Z h' b11 "evenkeel/client/Window" "committedAhead" "Ljava/util/List;" (.ref el) ∧ Fld Z h' b11 "evenkeel/client/Window" "finished" "Ljava/util/BitSet;" (.ref bf31) ∧ Fld Z h' b11 "evenkeel/client/Window" "restart" "J" (.long v237) ∧ Fld Z h' b11 "evenkeel/client/Window" "left" "Ljava/util/BitSet;" (.ref bl31) ∧ Fld Z h' b11 "evenkeel/client/Window" "size" "I" (.int xz) ∧ Fld Z h' b11 "evenkeel/client/Window" "committed" "J" (.long v238) ∧ Fld Z h' b11 "evenkeel/client/Window" "unfinished" "J" (.long v239) ∧ Fld Z h' b11 "evenkeel/client/Window" "next" "J" (.long v240) ∧ Fld Z h' b11 "evenkeel/client/Window" "consumed" "Ljava/util/List;" (.ref el) ∧ Fld Z h' b11 "evenkeel/client/Window" "committedFailures" "Ljava/util/List;" (.ref el) ∧ Fld Z h' b11 "evenkeel/client/Window" "consumedAt" "I" (.int (0 : Int32)) ∧ Fld Z h' b11 "evenkeel/client/Window" "failing" "Ljava/util/TreeMap;" .null ∧ ∀ t, own_K p e below m T' 215 #[lv p1, .second, iv p2, iv p3, iv p4, iv p5, iv p6, iv xz, iv xk, lv q0, .second, iv xf, lv qk, .second, rv b11, .unset, .unset, .unset, .unset, .unset, .unset, .unset] [] t → G t := by
    by_cases hc204_232 : xf = (2 : Int32)
    · obtain ⟨cq233, kq233, q233a, q233b, q233c⟩ := isOf hZ e224 j224_1
      obtain ⟨_, _, ⟨T233, L233, k233, n233⟩, -, X233, ⟨Lc233, hQ233, l233, y233, z233⟩, st233⟩ := X224.virtualBack hx (y := (⟨"evenkeel/client/Window", "skip", "(J)Z"⟩ : MethodName)) (z := (⟨"evenkeel/client/Window", "skip", "(J)Z"⟩ : MethodName)) hown (mvT hZ (tw hw (i := 186) rfl)) (mvT hZ (tw hw (i := 187) rfl)) (notFace_of_selects (args := #[]) (mvT hZ (tw hw (i := 189) rfl))) (mvT hZ (tw hw (i := 189) rfl)) (mvT hZ (tw hw (i := 188) rfl)) (by decide) (backOf (W := 0) (rm22 l Z a0 hw [] b11 qk v226 v227 v228 v225 (.int xz) (.ref el) (.ref bf31) (.ref el) (.int (0 : Int32)) (.ref bl31) (.ref el) h224 n0 (Nat.le_trans Z0 K224.1) j224_1 j224_7 j224_8 j224_9 j224_4 j224_13 ge_b11 j224_6 j224_2 j224_3 j224_10 j224_12 j224_5 j224_11) hZ (tw hw (i := 190) rfl) (tw hw (i := 4) rfl) (by decide) (by decide)) q233a q233c (g := (mkF m 211 #[lv p1, .second, iv p2, iv p3, iv p4, iv p5, iv p6, iv xz, iv xk, lv q0, .second, iv xf, lv qk, .second, rv b11, .unset, .unset, .unset, .unset, .unset, .unset, .unset] [(.long qk), (.ref b11)])) rfl (by rw [hml]; rfl) (Steps.refl _) (argsL := [(.long qk)]) (rest := []) (lenOf pd_14 rfl) rfl (by show 2 * 0 + _ ≤ _; exact Nat.le_of_eq rfl) (hb hby at_211) (fun _ _ => ⟨rfl, e224, (by decide : 8 + 0 ≤ _), (by decide : 32 + 0 ≤ _)⟩)
      dsimp only [Pt.U, Pt.locs, Pt.cells, Pt.slots] at X233 l233 y233 z233 st233 hQ233
      subst l233 y233 z233
      obtain ⟨rfl, Nq233, Kc233, Fc2_233, Fu2_233, Fn2_233, Fr2_233, Ff2_233, P_oa_size_233, P_oa_committedAhead_233, P_oa_finished_233, P_oa_consumed_233, P_oa_consumedAt_233, P_oa_left_233, P_oa_committedFailures_233⟩ := hQ233
      have N233 := Fr.app N224 Nq233
      have K233 : Keep h0 T233.heap [] := K224.trans Kc233 (allS (Or.inr sz_b11) all0)
      have sz233 : n0 ≤ T233.heap.size := Nat.le_trans (Nat.le_trans Z0 K224.1) Kc233.1
      have pre234 : ∀ t, own_K p e below m T233 215 #[lv p1, .second, iv p2, iv p3, iv p4, iv p5, iv p6, iv xz, iv xk, lv q0, .second, iv xf, lv qk, .second, rv b11, .unset, .unset, .unset, .unset, .unset, .unset, .unset] [] t → G t := by
        intro t k
        refine pre231 t ?_
        show own_K p e below m T224 204 #[lv p1, .second, iv p2, iv p3, iv p4, iv p5, iv p6, iv xz, iv xk, lv q0, .second, iv xf, lv qk, .second, rv b11, .unset, .unset, .unset, .unset, .unset, .unset, .unset] [(.int (2 : Int32)), (.int xf)] _
        refine XS.icmpNo X224.here hx rfl (hb hby at_204) rfl (teq hc204_232).2 ?_
        show own_K p e below m T224 207 #[lv p1, .second, iv p2, iv p3, iv p4, iv p5, iv p6, iv xz, iv xk, lv q0, .second, iv xf, lv qk, .second, rv b11, .unset, .unset, .unset, .unset, .unset, .unset, .unset] [] _
        refine XS.aload X224.here hx rfl (hb hby at_207) rfl rfl ?_
        show own_K p e below m T224 209 #[lv p1, .second, iv p2, iv p3, iv p4, iv p5, iv p6, iv xz, iv xk, lv q0, .second, iv xf, lv qk, .second, rv b11, .unset, .unset, .unset, .unset, .unset, .unset, .unset] [(.ref b11)] _
        refine XS.lload X224.here hx rfl (hb hby at_209) rfl ?_
        show own_K p e below m T224 211 #[lv p1, .second, iv p2, iv p3, iv p4, iv p5, iv p6, iv xz, iv xk, lv q0, .second, iv xf, lv qk, .second, rv b11, .unset, .unset, .unset, .unset, .unset, .unset, .unset] [(.long qk), (.ref b11)] _
        refine st233.trans ?_
        show own_K p e below m T233 214 #[lv p1, .second, iv p2, iv p3, iv p4, iv p5, iv p6, iv xz, iv xk, lv q0, .second, iv xf, lv qk, .second, rv b11, .unset, .unset, .unset, .unset, .unset, .unset, .unset] [(.int (if v227 = v228 then (1 : Int32) else (0 : Int32)))] _
        refine XS.pop X233.here hx rfl (hb hby at_214) rfl rfl ?_
        exact k
      have f241 : Old Z n0 T233.heap := (j224_0.keep Kc233 (allS ge_b11 all0))
      have f242 : Exa Z T233.heap b11 "evenkeel/client/Window" := (j224_1.keep Kc233)
      have hq := True.intro
      obtain rfl : (if v227 = v228 then (-1 : Int64) else (if v225 < qk then qk else v225)) = v237 := by simp only [hv237, if_pos hc204_232]
      obtain rfl : (if v227 = v228 then qk else v226) = v238 := by simp only [hv238, if_pos hc204_232]
      obtain rfl : (if v227 = v228 then qk else v227) = v239 := by simp only [hv239, if_pos hc204_232]
      obtain rfl : (if v227 = v228 then qk else v228) = v240 := by simp only [hv240, if_pos hc204_232]
      exact ⟨_, _, _, X233, N233, rfl, K233, f241, f242, P_oa_committedAhead_233, P_oa_finished_233, Fr2_233, P_oa_left_233, P_oa_size_233, Fc2_233, Fu2_233, Fn2_233, P_oa_consumed_233, P_oa_committedFailures_233, P_oa_consumedAt_233, Ff2_233, fun t k => pre234 t k⟩
    · have pre235 : ∀ t, own_K p e below m T224 215 #[lv p1, .second, iv p2, iv p3, iv p4, iv p5, iv p6, iv xz, iv xk, lv q0, .second, iv xf, lv qk, .second, rv b11, .unset, .unset, .unset, .unset, .unset, .unset, .unset] [] t → G t := by
        intro t k
        refine pre231 t ?_
        show own_K p e below m T224 204 #[lv p1, .second, iv p2, iv p3, iv p4, iv p5, iv p6, iv xz, iv xk, lv q0, .second, iv xf, lv qk, .second, rv b11, .unset, .unset, .unset, .unset, .unset, .unset, .unset] [(.int (2 : Int32)), (.int xf)] _
        refine XS.icmpYes X224.here hx rfl (pc0 := 204) (pc' := 215) rfl (hb hby at_204) rfl (feq hc204_232).2 (by decide) (by decide) ?_
        exact k
      have hq := True.intro
      obtain rfl : v225 = v237 := by simp only [hv237, if_neg hc204_232]
      obtain rfl : v226 = v238 := by simp only [hv238, if_neg hc204_232]
      obtain rfl : v227 = v239 := by simp only [hv239, if_neg hc204_232]
      obtain rfl : v228 = v240 := by simp only [hv240, if_neg hc204_232]
      exact ⟨_, _, _, X224, N224, e224, K224, j224_0, j224_1, j224_2, j224_3, j224_4, j224_5, j224_6, j224_7, j224_8, j224_9, j224_10, j224_11, j224_12, j224_13, fun t k => pre235 t k⟩
  obtain ⟨cq243, kq243, q243a, q243b, q243c⟩ := isOf hZ e236 j236_1
  obtain ⟨_, _, ⟨T243, L243, k243, n243⟩, -, X243, ⟨Lc243, hQ243, l243, y243, z243⟩, st243⟩ := X236.virtualBack hx (y := (⟨"evenkeel/client/Window", "roomOnceCommitted", "()I"⟩ : MethodName)) (z := (⟨"evenkeel/client/Window", "roomOnceCommitted", "()I"⟩ : MethodName)) hown (mvT hZ (tw hw (i := 181) rfl)) (mvT hZ (tw hw (i := 182) rfl)) (notFace_of_selects (args := #[]) (mvT hZ (tw hw (i := 184) rfl))) (mvT hZ (tw hw (i := 184) rfl)) (mvT hZ (tw hw (i := 183) rfl)) (by decide) (backOf (W := 0) (rm21 l Z a0 hw [] b11 v237 xz v240 v239 h236 n0 (Nat.le_trans Z0 K236.1) j236_4 j236_6 j236_8 j236_9) hZ (tw hw (i := 185) rfl) (tw hw (i := 4) rfl) (by decide) (by decide)) q243a q243c (g := (mkF m 217 #[lv p1, .second, iv p2, iv p3, iv p4, iv p5, iv p6, iv xz, iv xk, lv q0, .second, iv xf, lv qk, .second, rv b11, .unset, .unset, .unset, .unset, .unset, .unset, .unset] [(.ref b11)])) rfl (by rw [hml]; rfl) (Steps.refl _) (argsL := []) (rest := []) (lenOf pd_1 rfl) rfl (by show 2 * 0 + _ ≤ _; exact Nat.le_of_eq rfl) (hb hby at_217) (fun _ _ => ⟨rfl, e236, (by decide : 8 + 0 ≤ _), (by decide : 32 + 0 ≤ _)⟩)
  dsimp only [Pt.U, Pt.locs, Pt.cells, Pt.slots] at X243 l243 y243 z243 st243 hQ243
  subst l243 y243 z243
  obtain ⟨rfl, Nq243, eh243⟩ := hQ243
  have N243 := Fr.app N236 Nq243
  have pre244 : ∀ t, own_K p e below m T243 220 #[lv p1, .second, iv p2, iv p3, iv p4, iv p5, iv p6, iv xz, iv xk, lv q0, .second, iv xf, lv qk, .second, rv b11, .unset, .unset, .unset, .unset, .unset, .unset, .unset] [(.int (if v237 < (0 : Int64) then (((xz.toInt64) - (v240 - v239)).toInt32) else (0 : Int32)))] t → G t := by
    intro t k
    refine pre236 t ?_
    show own_K p e below m T236 215 #[lv p1, .second, iv p2, iv p3, iv p4, iv p5, iv p6, iv xz, iv xk, lv q0, .second, iv xf, lv qk, .second, rv b11, .unset, .unset, .unset, .unset, .unset, .unset, .unset] [] _
    refine XS.aload X236.here hx rfl (hb hby at_215) rfl rfl ?_
    show own_K p e below m T236 217 #[lv p1, .second, iv p2, iv p3, iv p4, iv p5, iv p6, iv xz, iv xk, lv q0, .second, iv xf, lv qk, .second, rv b11, .unset, .unset, .unset, .unset, .unset, .unset, .unset] [(.ref b11)] _
    refine st243.trans ?_
    exact k
  obtain ⟨xr, hxr⟩ : ∃ z : Int32, z = (if v237 < (0 : Int64) then (((xz.toInt64) - (v240 - v239)).toInt32) else (0 : Int32)) := ⟨_, rfl⟩
  have pre245 : ∀ t, own_K p e below m T243 220 #[lv p1, .second, iv p2, iv p3, iv p4, iv p5, iv p6, iv xz, iv xk, lv q0, .second, iv xf, lv qk, .second, rv b11, .unset, .unset, .unset, .unset, .unset, .unset, .unset] [(.int xr)] t → G t := fun t k => pre244 t (by rw [hxr] at k; exact k)
  have pre246 : ∀ t, own_K p e below m T243 224 #[lv p1, .second, iv p2, iv p3, iv p4, iv p5, iv p6, iv xz, iv xk, lv q0, .second, iv xf, lv qk, .second, rv b11, iv xr, .unset, .unset, .unset, .unset, .unset, .unset] [(.int xk)] t → G t := by
    intro t k
    refine pre245 t ?_
    show own_K p e below m T243 220 #[lv p1, .second, iv p2, iv p3, iv p4, iv p5, iv p6, iv xz, iv xk, lv q0, .second, iv xf, lv qk, .second, rv b11, .unset, .unset, .unset, .unset, .unset, .unset, .unset] [(.int xr)] _
    refine XS.istore X243.here hx rfl (hb hby at_220) rfl (l' := #[lv p1, .second, iv p2, iv p3, iv p4, iv p5, iv p6, iv xz, iv xk, lv q0, .second, iv xf, lv qk, .second, rv b11, iv xr, .unset, .unset, .unset, .unset, .unset, .unset]) rfl ?_
    show own_K p e below m T243 222 #[lv p1, .second, iv p2, iv p3, iv p4, iv p5, iv p6, iv xz, iv xk, lv q0, .second, iv xf, lv qk, .second, rv b11, iv xr, .unset, .unset, .unset, .unset, .unset, .unset] [] _
    refine XS.iload X243.here hx rfl (hb hby at_222) rfl ?_
    exact k
  obtain ⟨v253, hv253⟩ : ∃ z : Int32, z = (if (0 : Int32) < xk then (if (p4 &&& (1 : Int32)) = (0 : Int32) then (0 : Int32) else (1 : Int32)) else (0 : Int32)) := ⟨_, rfl⟩
  have pre254 : ∀ t, own_K p e below m T243 239 #[lv p1, .second, iv p2, iv p3, iv p4, iv p5, iv p6, iv xz, iv xk, lv q0, .second, iv xf, lv qk, .second, rv b11, iv xr, .unset, .unset, .unset, .unset, .unset, .unset] [(.int v253)] t → G t := by
    by_cases hc224_247 : (0 : Int32) < xk
    · have pre248 : ∀ t, own_K p e below m T243 231 #[lv p1, .second, iv p2, iv p3, iv p4, iv p5, iv p6, iv xz, iv xk, lv q0, .second, iv xf, lv qk, .second, rv b11, iv xr, .unset, .unset, .unset, .unset, .unset, .unset] [(.int (p4 &&& (1 : Int32)))] t → G t := by
        intro t k
        refine pre246 t ?_
        show own_K p e below m T243 224 #[lv p1, .second, iv p2, iv p3, iv p4, iv p5, iv p6, iv xz, iv xk, lv q0, .second, iv xf, lv qk, .second, rv b11, iv xr, .unset, .unset, .unset, .unset, .unset, .unset] [(.int xk)] _
        refine XS.ifNo X243.here hx rfl (hb hby at_224) rfl ((if0 _ _).trans (tlt hc224_247).2.2.2) ?_
        show own_K p e below m T243 227 #[lv p1, .second, iv p2, iv p3, iv p4, iv p5, iv p6, iv xz, iv xk, lv q0, .second, iv xf, lv qk, .second, rv b11, iv xr, .unset, .unset, .unset, .unset, .unset, .unset] [] _
        refine XS.iload X243.here hx rfl (hb hby at_227) rfl ?_
        show own_K p e below m T243 229 #[lv p1, .second, iv p2, iv p3, iv p4, iv p5, iv p6, iv xz, iv xk, lv q0, .second, iv xf, lv qk, .second, rv b11, iv xr, .unset, .unset, .unset, .unset, .unset, .unset] [(.int p4)] _
        refine XS.iconst X243.here hx rfl (hb hby at_229) ?_
        show own_K p e below m T243 230 #[lv p1, .second, iv p2, iv p3, iv p4, iv p5, iv p6, iv xz, iv xk, lv q0, .second, iv xf, lv qk, .second, rv b11, iv xr, .unset, .unset, .unset, .unset, .unset, .unset] [(.int (1 : Int32)), (.int p4)] _
        refine XS.iand X243.here hx rfl (hb hby at_230) rfl ?_
        exact k
      by_cases hc231_249 : (p4 &&& (1 : Int32)) = (0 : Int32)
      · have pre250 : ∀ t, own_K p e below m T243 239 #[lv p1, .second, iv p2, iv p3, iv p4, iv p5, iv p6, iv xz, iv xk, lv q0, .second, iv xf, lv qk, .second, rv b11, iv xr, .unset, .unset, .unset, .unset, .unset, .unset] [(.int (0 : Int32))] t → G t := by
          intro t k
          refine pre248 t ?_
          show own_K p e below m T243 231 #[lv p1, .second, iv p2, iv p3, iv p4, iv p5, iv p6, iv xz, iv xk, lv q0, .second, iv xf, lv qk, .second, rv b11, iv xr, .unset, .unset, .unset, .unset, .unset, .unset] [(.int (p4 &&& (1 : Int32)))] _
          refine XS.ifYes X243.here hx rfl (pc0 := 231) (pc' := 238) rfl (hb hby at_231) rfl ((if0 _ _).trans (teq hc231_249).1) (by decide) (by decide) ?_
          show own_K p e below m T243 238 #[lv p1, .second, iv p2, iv p3, iv p4, iv p5, iv p6, iv xz, iv xk, lv q0, .second, iv xf, lv qk, .second, rv b11, iv xr, .unset, .unset, .unset, .unset, .unset, .unset] [] _
          refine XS.iconst X243.here hx rfl (hb hby at_238) ?_
          exact k
        have hq := True.intro
        obtain rfl : (0 : Int32) = v253 := by simp only [hv253, if_pos hc224_247, if_pos hc231_249]
        exact fun t k => pre250 t k
      · have pre251 : ∀ t, own_K p e below m T243 239 #[lv p1, .second, iv p2, iv p3, iv p4, iv p5, iv p6, iv xz, iv xk, lv q0, .second, iv xf, lv qk, .second, rv b11, iv xr, .unset, .unset, .unset, .unset, .unset, .unset] [(.int (1 : Int32))] t → G t := by
          intro t k
          refine pre248 t ?_
          show own_K p e below m T243 231 #[lv p1, .second, iv p2, iv p3, iv p4, iv p5, iv p6, iv xz, iv xk, lv q0, .second, iv xf, lv qk, .second, rv b11, iv xr, .unset, .unset, .unset, .unset, .unset, .unset] [(.int (p4 &&& (1 : Int32)))] _
          refine XS.ifNo X243.here hx rfl (hb hby at_231) rfl ((if0 _ _).trans (feq hc231_249).1) ?_
          show own_K p e below m T243 234 #[lv p1, .second, iv p2, iv p3, iv p4, iv p5, iv p6, iv xz, iv xk, lv q0, .second, iv xf, lv qk, .second, rv b11, iv xr, .unset, .unset, .unset, .unset, .unset, .unset] [] _
          refine XS.iconst X243.here hx rfl (hb hby at_234) ?_
          show own_K p e below m T243 235 #[lv p1, .second, iv p2, iv p3, iv p4, iv p5, iv p6, iv xz, iv xk, lv q0, .second, iv xf, lv qk, .second, rv b11, iv xr, .unset, .unset, .unset, .unset, .unset, .unset] [(.int (1 : Int32))] _
          refine XS.goto X243.here hx rfl (pc0 := 235) (pc' := 239) rfl (hb hby at_235) (by decide) (by decide) ?_
          exact k
        have hq := True.intro
        obtain rfl : (1 : Int32) = v253 := by simp only [hv253, if_pos hc224_247, if_neg hc231_249]
        exact fun t k => pre251 t k
    · have pre252 : ∀ t, own_K p e below m T243 239 #[lv p1, .second, iv p2, iv p3, iv p4, iv p5, iv p6, iv xz, iv xk, lv q0, .second, iv xf, lv qk, .second, rv b11, iv xr, .unset, .unset, .unset, .unset, .unset, .unset] [(.int (0 : Int32))] t → G t := by
        intro t k
        refine pre246 t ?_
        show own_K p e below m T243 224 #[lv p1, .second, iv p2, iv p3, iv p4, iv p5, iv p6, iv xz, iv xk, lv q0, .second, iv xf, lv qk, .second, rv b11, iv xr, .unset, .unset, .unset, .unset, .unset, .unset] [(.int xk)] _
        refine XS.ifYes X243.here hx rfl (pc0 := 224) (pc' := 238) rfl (hb hby at_224) rfl ((if0 _ _).trans (flt hc224_247).2.2.2) (by decide) (by decide) ?_
        show own_K p e below m T243 238 #[lv p1, .second, iv p2, iv p3, iv p4, iv p5, iv p6, iv xz, iv xk, lv q0, .second, iv xf, lv qk, .second, rv b11, iv xr, .unset, .unset, .unset, .unset, .unset, .unset] [] _
        refine XS.iconst X243.here hx rfl (hb hby at_238) ?_
        exact k
      have hq := True.intro
      obtain rfl : (0 : Int32) = v253 := by simp only [hv253, if_neg hc224_247]
      exact fun t k => pre252 t k
  have pre255 : ∀ t, own_K p e below m T243 244 #[lv p1, .second, iv p2, iv p3, iv p4, iv p5, iv p6, iv xz, iv xk, lv q0, .second, iv xf, lv qk, .second, rv b11, iv xr, iv v253, .unset, .unset, .unset, .unset, .unset] [(.int (1 : Int32)), (.int xk)] t → G t := by
    intro t k
    refine pre254 t ?_
    show own_K p e below m T243 239 #[lv p1, .second, iv p2, iv p3, iv p4, iv p5, iv p6, iv xz, iv xk, lv q0, .second, iv xf, lv qk, .second, rv b11, iv xr, .unset, .unset, .unset, .unset, .unset, .unset] [(.int v253)] _
    refine XS.istore X243.here hx rfl (hb hby at_239) rfl (l' := #[lv p1, .second, iv p2, iv p3, iv p4, iv p5, iv p6, iv xz, iv xk, lv q0, .second, iv xf, lv qk, .second, rv b11, iv xr, iv v253, .unset, .unset, .unset, .unset, .unset]) rfl ?_
    show own_K p e below m T243 241 #[lv p1, .second, iv p2, iv p3, iv p4, iv p5, iv p6, iv xz, iv xk, lv q0, .second, iv xf, lv qk, .second, rv b11, iv xr, iv v253, .unset, .unset, .unset, .unset, .unset] [] _
    refine XS.iload X243.here hx rfl (hb hby at_241) rfl ?_
    show own_K p e below m T243 243 #[lv p1, .second, iv p2, iv p3, iv p4, iv p5, iv p6, iv xz, iv xk, lv q0, .second, iv xf, lv qk, .second, rv b11, iv xr, iv v253, .unset, .unset, .unset, .unset, .unset] [(.int xk)] _
    refine XS.iconst X243.here hx rfl (hb hby at_243) ?_
    exact k
  obtain ⟨v262, hv262⟩ : ∃ z : Int32, z = (if (1 : Int32) < xk then (if (p4 &&& (2 : Int32)) = (0 : Int32) then (0 : Int32) else (1 : Int32)) else (0 : Int32)) := ⟨_, rfl⟩
  have pre263 : ∀ t, own_K p e below m T243 259 #[lv p1, .second, iv p2, iv p3, iv p4, iv p5, iv p6, iv xz, iv xk, lv q0, .second, iv xf, lv qk, .second, rv b11, iv xr, iv v253, .unset, .unset, .unset, .unset, .unset] [(.int v262)] t → G t := by
    by_cases hc244_256 : (1 : Int32) < xk
    · have pre257 : ∀ t, own_K p e below m T243 251 #[lv p1, .second, iv p2, iv p3, iv p4, iv p5, iv p6, iv xz, iv xk, lv q0, .second, iv xf, lv qk, .second, rv b11, iv xr, iv v253, .unset, .unset, .unset, .unset, .unset] [(.int (p4 &&& (2 : Int32)))] t → G t := by
        intro t k
        refine pre255 t ?_
        show own_K p e below m T243 244 #[lv p1, .second, iv p2, iv p3, iv p4, iv p5, iv p6, iv xz, iv xk, lv q0, .second, iv xf, lv qk, .second, rv b11, iv xr, iv v253, .unset, .unset, .unset, .unset, .unset] [(.int (1 : Int32)), (.int xk)] _
        refine XS.icmpNo X243.here hx rfl (hb hby at_244) rfl (tlt hc244_256).2.2.2 ?_
        show own_K p e below m T243 247 #[lv p1, .second, iv p2, iv p3, iv p4, iv p5, iv p6, iv xz, iv xk, lv q0, .second, iv xf, lv qk, .second, rv b11, iv xr, iv v253, .unset, .unset, .unset, .unset, .unset] [] _
        refine XS.iload X243.here hx rfl (hb hby at_247) rfl ?_
        show own_K p e below m T243 249 #[lv p1, .second, iv p2, iv p3, iv p4, iv p5, iv p6, iv xz, iv xk, lv q0, .second, iv xf, lv qk, .second, rv b11, iv xr, iv v253, .unset, .unset, .unset, .unset, .unset] [(.int p4)] _
        refine XS.iconst X243.here hx rfl (hb hby at_249) ?_
        show own_K p e below m T243 250 #[lv p1, .second, iv p2, iv p3, iv p4, iv p5, iv p6, iv xz, iv xk, lv q0, .second, iv xf, lv qk, .second, rv b11, iv xr, iv v253, .unset, .unset, .unset, .unset, .unset] [(.int (2 : Int32)), (.int p4)] _
        refine XS.iand X243.here hx rfl (hb hby at_250) rfl ?_
        exact k
      by_cases hc251_258 : (p4 &&& (2 : Int32)) = (0 : Int32)
      · have pre259 : ∀ t, own_K p e below m T243 259 #[lv p1, .second, iv p2, iv p3, iv p4, iv p5, iv p6, iv xz, iv xk, lv q0, .second, iv xf, lv qk, .second, rv b11, iv xr, iv v253, .unset, .unset, .unset, .unset, .unset] [(.int (0 : Int32))] t → G t := by
          intro t k
          refine pre257 t ?_
          show own_K p e below m T243 251 #[lv p1, .second, iv p2, iv p3, iv p4, iv p5, iv p6, iv xz, iv xk, lv q0, .second, iv xf, lv qk, .second, rv b11, iv xr, iv v253, .unset, .unset, .unset, .unset, .unset] [(.int (p4 &&& (2 : Int32)))] _
          refine XS.ifYes X243.here hx rfl (pc0 := 251) (pc' := 258) rfl (hb hby at_251) rfl ((if0 _ _).trans (teq hc251_258).1) (by decide) (by decide) ?_
          show own_K p e below m T243 258 #[lv p1, .second, iv p2, iv p3, iv p4, iv p5, iv p6, iv xz, iv xk, lv q0, .second, iv xf, lv qk, .second, rv b11, iv xr, iv v253, .unset, .unset, .unset, .unset, .unset] [] _
          refine XS.iconst X243.here hx rfl (hb hby at_258) ?_
          exact k
        have hq := True.intro
        obtain rfl : (0 : Int32) = v262 := by simp only [hv262, if_pos hc244_256, if_pos hc251_258]
        exact fun t k => pre259 t k
      · have pre260 : ∀ t, own_K p e below m T243 259 #[lv p1, .second, iv p2, iv p3, iv p4, iv p5, iv p6, iv xz, iv xk, lv q0, .second, iv xf, lv qk, .second, rv b11, iv xr, iv v253, .unset, .unset, .unset, .unset, .unset] [(.int (1 : Int32))] t → G t := by
          intro t k
          refine pre257 t ?_
          show own_K p e below m T243 251 #[lv p1, .second, iv p2, iv p3, iv p4, iv p5, iv p6, iv xz, iv xk, lv q0, .second, iv xf, lv qk, .second, rv b11, iv xr, iv v253, .unset, .unset, .unset, .unset, .unset] [(.int (p4 &&& (2 : Int32)))] _
          refine XS.ifNo X243.here hx rfl (hb hby at_251) rfl ((if0 _ _).trans (feq hc251_258).1) ?_
          show own_K p e below m T243 254 #[lv p1, .second, iv p2, iv p3, iv p4, iv p5, iv p6, iv xz, iv xk, lv q0, .second, iv xf, lv qk, .second, rv b11, iv xr, iv v253, .unset, .unset, .unset, .unset, .unset] [] _
          refine XS.iconst X243.here hx rfl (hb hby at_254) ?_
          show own_K p e below m T243 255 #[lv p1, .second, iv p2, iv p3, iv p4, iv p5, iv p6, iv xz, iv xk, lv q0, .second, iv xf, lv qk, .second, rv b11, iv xr, iv v253, .unset, .unset, .unset, .unset, .unset] [(.int (1 : Int32))] _
          refine XS.goto X243.here hx rfl (pc0 := 255) (pc' := 259) rfl (hb hby at_255) (by decide) (by decide) ?_
          exact k
        have hq := True.intro
        obtain rfl : (1 : Int32) = v262 := by simp only [hv262, if_pos hc244_256, if_neg hc251_258]
        exact fun t k => pre260 t k
    · have pre261 : ∀ t, own_K p e below m T243 259 #[lv p1, .second, iv p2, iv p3, iv p4, iv p5, iv p6, iv xz, iv xk, lv q0, .second, iv xf, lv qk, .second, rv b11, iv xr, iv v253, .unset, .unset, .unset, .unset, .unset] [(.int (0 : Int32))] t → G t := by
        intro t k
        refine pre255 t ?_
        show own_K p e below m T243 244 #[lv p1, .second, iv p2, iv p3, iv p4, iv p5, iv p6, iv xz, iv xk, lv q0, .second, iv xf, lv qk, .second, rv b11, iv xr, iv v253, .unset, .unset, .unset, .unset, .unset] [(.int (1 : Int32)), (.int xk)] _
        refine XS.icmpYes X243.here hx rfl (pc0 := 244) (pc' := 258) rfl (hb hby at_244) rfl (flt hc244_256).2.2.2 (by decide) (by decide) ?_
        show own_K p e below m T243 258 #[lv p1, .second, iv p2, iv p3, iv p4, iv p5, iv p6, iv xz, iv xk, lv q0, .second, iv xf, lv qk, .second, rv b11, iv xr, iv v253, .unset, .unset, .unset, .unset, .unset] [] _
        refine XS.iconst X243.here hx rfl (hb hby at_258) ?_
        exact k
      have hq := True.intro
      obtain rfl : (0 : Int32) = v262 := by simp only [hv262, if_neg hc244_256]
      exact fun t k => pre261 t k
  have pre264 : ∀ t, own_K p e below m T243 264 #[lv p1, .second, iv p2, iv p3, iv p4, iv p5, iv p6, iv xz, iv xk, lv q0, .second, iv xf, lv qk, .second, rv b11, iv xr, iv v253, iv v262, .unset, .unset, .unset, .unset] [(.int (2 : Int32)), (.int xk)] t → G t := by
    intro t k
    refine pre263 t ?_
    show own_K p e below m T243 259 #[lv p1, .second, iv p2, iv p3, iv p4, iv p5, iv p6, iv xz, iv xk, lv q0, .second, iv xf, lv qk, .second, rv b11, iv xr, iv v253, .unset, .unset, .unset, .unset, .unset] [(.int v262)] _
    refine XS.istore X243.here hx rfl (hb hby at_259) rfl (l' := #[lv p1, .second, iv p2, iv p3, iv p4, iv p5, iv p6, iv xz, iv xk, lv q0, .second, iv xf, lv qk, .second, rv b11, iv xr, iv v253, iv v262, .unset, .unset, .unset, .unset]) rfl ?_
    show own_K p e below m T243 261 #[lv p1, .second, iv p2, iv p3, iv p4, iv p5, iv p6, iv xz, iv xk, lv q0, .second, iv xf, lv qk, .second, rv b11, iv xr, iv v253, iv v262, .unset, .unset, .unset, .unset] [] _
    refine XS.iload X243.here hx rfl (hb hby at_261) rfl ?_
    show own_K p e below m T243 263 #[lv p1, .second, iv p2, iv p3, iv p4, iv p5, iv p6, iv xz, iv xk, lv q0, .second, iv xf, lv qk, .second, rv b11, iv xr, iv v253, iv v262, .unset, .unset, .unset, .unset] [(.int xk)] _
    refine XS.iconst X243.here hx rfl (hb hby at_263) ?_
    exact k
  obtain ⟨v271, hv271⟩ : ∃ z : Int32, z = (if (2 : Int32) < xk then (if (p4 &&& (4 : Int32)) = (0 : Int32) then (0 : Int32) else (1 : Int32)) else (0 : Int32)) := ⟨_, rfl⟩
  have pre272 : ∀ t, own_K p e below m T243 279 #[lv p1, .second, iv p2, iv p3, iv p4, iv p5, iv p6, iv xz, iv xk, lv q0, .second, iv xf, lv qk, .second, rv b11, iv xr, iv v253, iv v262, .unset, .unset, .unset, .unset] [(.int v271)] t → G t := by
    by_cases hc264_265 : (2 : Int32) < xk
    · have pre266 : ∀ t, own_K p e below m T243 271 #[lv p1, .second, iv p2, iv p3, iv p4, iv p5, iv p6, iv xz, iv xk, lv q0, .second, iv xf, lv qk, .second, rv b11, iv xr, iv v253, iv v262, .unset, .unset, .unset, .unset] [(.int (p4 &&& (4 : Int32)))] t → G t := by
        intro t k
        refine pre264 t ?_
        show own_K p e below m T243 264 #[lv p1, .second, iv p2, iv p3, iv p4, iv p5, iv p6, iv xz, iv xk, lv q0, .second, iv xf, lv qk, .second, rv b11, iv xr, iv v253, iv v262, .unset, .unset, .unset, .unset] [(.int (2 : Int32)), (.int xk)] _
        refine XS.icmpNo X243.here hx rfl (hb hby at_264) rfl (tlt hc264_265).2.2.2 ?_
        show own_K p e below m T243 267 #[lv p1, .second, iv p2, iv p3, iv p4, iv p5, iv p6, iv xz, iv xk, lv q0, .second, iv xf, lv qk, .second, rv b11, iv xr, iv v253, iv v262, .unset, .unset, .unset, .unset] [] _
        refine XS.iload X243.here hx rfl (hb hby at_267) rfl ?_
        show own_K p e below m T243 269 #[lv p1, .second, iv p2, iv p3, iv p4, iv p5, iv p6, iv xz, iv xk, lv q0, .second, iv xf, lv qk, .second, rv b11, iv xr, iv v253, iv v262, .unset, .unset, .unset, .unset] [(.int p4)] _
        refine XS.iconst X243.here hx rfl (hb hby at_269) ?_
        show own_K p e below m T243 270 #[lv p1, .second, iv p2, iv p3, iv p4, iv p5, iv p6, iv xz, iv xk, lv q0, .second, iv xf, lv qk, .second, rv b11, iv xr, iv v253, iv v262, .unset, .unset, .unset, .unset] [(.int (4 : Int32)), (.int p4)] _
        refine XS.iand X243.here hx rfl (hb hby at_270) rfl ?_
        exact k
      by_cases hc271_267 : (p4 &&& (4 : Int32)) = (0 : Int32)
      · have pre268 : ∀ t, own_K p e below m T243 279 #[lv p1, .second, iv p2, iv p3, iv p4, iv p5, iv p6, iv xz, iv xk, lv q0, .second, iv xf, lv qk, .second, rv b11, iv xr, iv v253, iv v262, .unset, .unset, .unset, .unset] [(.int (0 : Int32))] t → G t := by
          intro t k
          refine pre266 t ?_
          show own_K p e below m T243 271 #[lv p1, .second, iv p2, iv p3, iv p4, iv p5, iv p6, iv xz, iv xk, lv q0, .second, iv xf, lv qk, .second, rv b11, iv xr, iv v253, iv v262, .unset, .unset, .unset, .unset] [(.int (p4 &&& (4 : Int32)))] _
          refine XS.ifYes X243.here hx rfl (pc0 := 271) (pc' := 278) rfl (hb hby at_271) rfl ((if0 _ _).trans (teq hc271_267).1) (by decide) (by decide) ?_
          show own_K p e below m T243 278 #[lv p1, .second, iv p2, iv p3, iv p4, iv p5, iv p6, iv xz, iv xk, lv q0, .second, iv xf, lv qk, .second, rv b11, iv xr, iv v253, iv v262, .unset, .unset, .unset, .unset] [] _
          refine XS.iconst X243.here hx rfl (hb hby at_278) ?_
          exact k
        have hq := True.intro
        obtain rfl : (0 : Int32) = v271 := by simp only [hv271, if_pos hc264_265, if_pos hc271_267]
        exact fun t k => pre268 t k
      · have pre269 : ∀ t, own_K p e below m T243 279 #[lv p1, .second, iv p2, iv p3, iv p4, iv p5, iv p6, iv xz, iv xk, lv q0, .second, iv xf, lv qk, .second, rv b11, iv xr, iv v253, iv v262, .unset, .unset, .unset, .unset] [(.int (1 : Int32))] t → G t := by
          intro t k
          refine pre266 t ?_
          show own_K p e below m T243 271 #[lv p1, .second, iv p2, iv p3, iv p4, iv p5, iv p6, iv xz, iv xk, lv q0, .second, iv xf, lv qk, .second, rv b11, iv xr, iv v253, iv v262, .unset, .unset, .unset, .unset] [(.int (p4 &&& (4 : Int32)))] _
          refine XS.ifNo X243.here hx rfl (hb hby at_271) rfl ((if0 _ _).trans (feq hc271_267).1) ?_
          show own_K p e below m T243 274 #[lv p1, .second, iv p2, iv p3, iv p4, iv p5, iv p6, iv xz, iv xk, lv q0, .second, iv xf, lv qk, .second, rv b11, iv xr, iv v253, iv v262, .unset, .unset, .unset, .unset] [] _
          refine XS.iconst X243.here hx rfl (hb hby at_274) ?_
          show own_K p e below m T243 275 #[lv p1, .second, iv p2, iv p3, iv p4, iv p5, iv p6, iv xz, iv xk, lv q0, .second, iv xf, lv qk, .second, rv b11, iv xr, iv v253, iv v262, .unset, .unset, .unset, .unset] [(.int (1 : Int32))] _
          refine XS.goto X243.here hx rfl (pc0 := 275) (pc' := 279) rfl (hb hby at_275) (by decide) (by decide) ?_
          exact k
        have hq := True.intro
        obtain rfl : (1 : Int32) = v271 := by simp only [hv271, if_pos hc264_265, if_neg hc271_267]
        exact fun t k => pre269 t k
    · have pre270 : ∀ t, own_K p e below m T243 279 #[lv p1, .second, iv p2, iv p3, iv p4, iv p5, iv p6, iv xz, iv xk, lv q0, .second, iv xf, lv qk, .second, rv b11, iv xr, iv v253, iv v262, .unset, .unset, .unset, .unset] [(.int (0 : Int32))] t → G t := by
        intro t k
        refine pre264 t ?_
        show own_K p e below m T243 264 #[lv p1, .second, iv p2, iv p3, iv p4, iv p5, iv p6, iv xz, iv xk, lv q0, .second, iv xf, lv qk, .second, rv b11, iv xr, iv v253, iv v262, .unset, .unset, .unset, .unset] [(.int (2 : Int32)), (.int xk)] _
        refine XS.icmpYes X243.here hx rfl (pc0 := 264) (pc' := 278) rfl (hb hby at_264) rfl (flt hc264_265).2.2.2 (by decide) (by decide) ?_
        show own_K p e below m T243 278 #[lv p1, .second, iv p2, iv p3, iv p4, iv p5, iv p6, iv xz, iv xk, lv q0, .second, iv xf, lv qk, .second, rv b11, iv xr, iv v253, iv v262, .unset, .unset, .unset, .unset] [] _
        refine XS.iconst X243.here hx rfl (hb hby at_278) ?_
        exact k
      have hq := True.intro
      obtain rfl : (0 : Int32) = v271 := by simp only [hv271, if_neg hc264_265]
      exact fun t k => pre270 t k
  have pre273 : ∀ t, own_K p e below m T243 284 #[lv p1, .second, iv p2, iv p3, iv p4, iv p5, iv p6, iv xz, iv xk, lv q0, .second, iv xf, lv qk, .second, rv b11, iv xr, iv v253, iv v262, iv v271, .unset, .unset, .unset] [(.int (3 : Int32)), (.int xk)] t → G t := by
    intro t k
    refine pre272 t ?_
    show own_K p e below m T243 279 #[lv p1, .second, iv p2, iv p3, iv p4, iv p5, iv p6, iv xz, iv xk, lv q0, .second, iv xf, lv qk, .second, rv b11, iv xr, iv v253, iv v262, .unset, .unset, .unset, .unset] [(.int v271)] _
    refine XS.istore X243.here hx rfl (hb hby at_279) rfl (l' := #[lv p1, .second, iv p2, iv p3, iv p4, iv p5, iv p6, iv xz, iv xk, lv q0, .second, iv xf, lv qk, .second, rv b11, iv xr, iv v253, iv v262, iv v271, .unset, .unset, .unset]) rfl ?_
    show own_K p e below m T243 281 #[lv p1, .second, iv p2, iv p3, iv p4, iv p5, iv p6, iv xz, iv xk, lv q0, .second, iv xf, lv qk, .second, rv b11, iv xr, iv v253, iv v262, iv v271, .unset, .unset, .unset] [] _
    refine XS.iload X243.here hx rfl (hb hby at_281) rfl ?_
    show own_K p e below m T243 283 #[lv p1, .second, iv p2, iv p3, iv p4, iv p5, iv p6, iv xz, iv xk, lv q0, .second, iv xf, lv qk, .second, rv b11, iv xr, iv v253, iv v262, iv v271, .unset, .unset, .unset] [(.int xk)] _
    refine XS.iconst X243.here hx rfl (hb hby at_283) ?_
    exact k
  obtain ⟨v280, hv280⟩ : ∃ z : Int32, z = (if (3 : Int32) < xk then (if (p4 &&& (8 : Int32)) = (0 : Int32) then (0 : Int32) else (1 : Int32)) else (0 : Int32)) := ⟨_, rfl⟩
  have pre281 : ∀ t, own_K p e below m T243 300 #[lv p1, .second, iv p2, iv p3, iv p4, iv p5, iv p6, iv xz, iv xk, lv q0, .second, iv xf, lv qk, .second, rv b11, iv xr, iv v253, iv v262, iv v271, .unset, .unset, .unset] [(.int v280)] t → G t := by
    by_cases hc284_274 : (3 : Int32) < xk
    · have pre275 : ∀ t, own_K p e below m T243 292 #[lv p1, .second, iv p2, iv p3, iv p4, iv p5, iv p6, iv xz, iv xk, lv q0, .second, iv xf, lv qk, .second, rv b11, iv xr, iv v253, iv v262, iv v271, .unset, .unset, .unset] [(.int (p4 &&& (8 : Int32)))] t → G t := by
        intro t k
        refine pre273 t ?_
        show own_K p e below m T243 284 #[lv p1, .second, iv p2, iv p3, iv p4, iv p5, iv p6, iv xz, iv xk, lv q0, .second, iv xf, lv qk, .second, rv b11, iv xr, iv v253, iv v262, iv v271, .unset, .unset, .unset] [(.int (3 : Int32)), (.int xk)] _
        refine XS.icmpNo X243.here hx rfl (hb hby at_284) rfl (tlt hc284_274).2.2.2 ?_
        show own_K p e below m T243 287 #[lv p1, .second, iv p2, iv p3, iv p4, iv p5, iv p6, iv xz, iv xk, lv q0, .second, iv xf, lv qk, .second, rv b11, iv xr, iv v253, iv v262, iv v271, .unset, .unset, .unset] [] _
        refine XS.iload X243.here hx rfl (hb hby at_287) rfl ?_
        show own_K p e below m T243 289 #[lv p1, .second, iv p2, iv p3, iv p4, iv p5, iv p6, iv xz, iv xk, lv q0, .second, iv xf, lv qk, .second, rv b11, iv xr, iv v253, iv v262, iv v271, .unset, .unset, .unset] [(.int p4)] _
        refine XS.bipush X243.here hx rfl (hb hby at_289) ?_
        show own_K p e below m T243 291 #[lv p1, .second, iv p2, iv p3, iv p4, iv p5, iv p6, iv xz, iv xk, lv q0, .second, iv xf, lv qk, .second, rv b11, iv xr, iv v253, iv v262, iv v271, .unset, .unset, .unset] [(.int (8 : Int32)), (.int p4)] _
        refine XS.iand X243.here hx rfl (hb hby at_291) rfl ?_
        exact k
      by_cases hc292_276 : (p4 &&& (8 : Int32)) = (0 : Int32)
      · have pre277 : ∀ t, own_K p e below m T243 300 #[lv p1, .second, iv p2, iv p3, iv p4, iv p5, iv p6, iv xz, iv xk, lv q0, .second, iv xf, lv qk, .second, rv b11, iv xr, iv v253, iv v262, iv v271, .unset, .unset, .unset] [(.int (0 : Int32))] t → G t := by
          intro t k
          refine pre275 t ?_
          show own_K p e below m T243 292 #[lv p1, .second, iv p2, iv p3, iv p4, iv p5, iv p6, iv xz, iv xk, lv q0, .second, iv xf, lv qk, .second, rv b11, iv xr, iv v253, iv v262, iv v271, .unset, .unset, .unset] [(.int (p4 &&& (8 : Int32)))] _
          refine XS.ifYes X243.here hx rfl (pc0 := 292) (pc' := 299) rfl (hb hby at_292) rfl ((if0 _ _).trans (teq hc292_276).1) (by decide) (by decide) ?_
          show own_K p e below m T243 299 #[lv p1, .second, iv p2, iv p3, iv p4, iv p5, iv p6, iv xz, iv xk, lv q0, .second, iv xf, lv qk, .second, rv b11, iv xr, iv v253, iv v262, iv v271, .unset, .unset, .unset] [] _
          refine XS.iconst X243.here hx rfl (hb hby at_299) ?_
          exact k
        have hq := True.intro
        obtain rfl : (0 : Int32) = v280 := by simp only [hv280, if_pos hc284_274, if_pos hc292_276]
        exact fun t k => pre277 t k
      · have pre278 : ∀ t, own_K p e below m T243 300 #[lv p1, .second, iv p2, iv p3, iv p4, iv p5, iv p6, iv xz, iv xk, lv q0, .second, iv xf, lv qk, .second, rv b11, iv xr, iv v253, iv v262, iv v271, .unset, .unset, .unset] [(.int (1 : Int32))] t → G t := by
          intro t k
          refine pre275 t ?_
          show own_K p e below m T243 292 #[lv p1, .second, iv p2, iv p3, iv p4, iv p5, iv p6, iv xz, iv xk, lv q0, .second, iv xf, lv qk, .second, rv b11, iv xr, iv v253, iv v262, iv v271, .unset, .unset, .unset] [(.int (p4 &&& (8 : Int32)))] _
          refine XS.ifNo X243.here hx rfl (hb hby at_292) rfl ((if0 _ _).trans (feq hc292_276).1) ?_
          show own_K p e below m T243 295 #[lv p1, .second, iv p2, iv p3, iv p4, iv p5, iv p6, iv xz, iv xk, lv q0, .second, iv xf, lv qk, .second, rv b11, iv xr, iv v253, iv v262, iv v271, .unset, .unset, .unset] [] _
          refine XS.iconst X243.here hx rfl (hb hby at_295) ?_
          show own_K p e below m T243 296 #[lv p1, .second, iv p2, iv p3, iv p4, iv p5, iv p6, iv xz, iv xk, lv q0, .second, iv xf, lv qk, .second, rv b11, iv xr, iv v253, iv v262, iv v271, .unset, .unset, .unset] [(.int (1 : Int32))] _
          refine XS.goto X243.here hx rfl (pc0 := 296) (pc' := 300) rfl (hb hby at_296) (by decide) (by decide) ?_
          exact k
        have hq := True.intro
        obtain rfl : (1 : Int32) = v280 := by simp only [hv280, if_pos hc284_274, if_neg hc292_276]
        exact fun t k => pre278 t k
    · have pre279 : ∀ t, own_K p e below m T243 300 #[lv p1, .second, iv p2, iv p3, iv p4, iv p5, iv p6, iv xz, iv xk, lv q0, .second, iv xf, lv qk, .second, rv b11, iv xr, iv v253, iv v262, iv v271, .unset, .unset, .unset] [(.int (0 : Int32))] t → G t := by
        intro t k
        refine pre273 t ?_
        show own_K p e below m T243 284 #[lv p1, .second, iv p2, iv p3, iv p4, iv p5, iv p6, iv xz, iv xk, lv q0, .second, iv xf, lv qk, .second, rv b11, iv xr, iv v253, iv v262, iv v271, .unset, .unset, .unset] [(.int (3 : Int32)), (.int xk)] _
        refine XS.icmpYes X243.here hx rfl (pc0 := 284) (pc' := 299) rfl (hb hby at_284) rfl (flt hc284_274).2.2.2 (by decide) (by decide) ?_
        show own_K p e below m T243 299 #[lv p1, .second, iv p2, iv p3, iv p4, iv p5, iv p6, iv xz, iv xk, lv q0, .second, iv xf, lv qk, .second, rv b11, iv xr, iv v253, iv v262, iv v271, .unset, .unset, .unset] [] _
        refine XS.iconst X243.here hx rfl (hb hby at_299) ?_
        exact k
      have hq := True.intro
      obtain rfl : (0 : Int32) = v280 := by simp only [hv280, if_neg hc284_274]
      exact fun t k => pre279 t k
  have pre282 : ∀ t, own_K p e below m T243 304 #[lv p1, .second, iv p2, iv p3, iv p4, iv p5, iv p6, iv xz, iv xk, lv q0, .second, iv xf, lv qk, .second, rv b11, iv xr, iv v253, iv v262, iv v271, iv v280, .unset, .unset] [(.int v253)] t → G t := by
    intro t k
    refine pre281 t ?_
    show own_K p e below m T243 300 #[lv p1, .second, iv p2, iv p3, iv p4, iv p5, iv p6, iv xz, iv xk, lv q0, .second, iv xf, lv qk, .second, rv b11, iv xr, iv v253, iv v262, iv v271, .unset, .unset, .unset] [(.int v280)] _
    refine XS.istore X243.here hx rfl (hb hby at_300) rfl (l' := #[lv p1, .second, iv p2, iv p3, iv p4, iv p5, iv p6, iv xz, iv xk, lv q0, .second, iv xf, lv qk, .second, rv b11, iv xr, iv v253, iv v262, iv v271, iv v280, .unset, .unset]) rfl ?_
    show own_K p e below m T243 302 #[lv p1, .second, iv p2, iv p3, iv p4, iv p5, iv p6, iv xz, iv xk, lv q0, .second, iv xf, lv qk, .second, rv b11, iv xr, iv v253, iv v262, iv v271, iv v280, .unset, .unset] [] _
    refine XS.iload X243.here hx rfl (hb hby at_302) rfl ?_
    exact k
  obtain ⟨v295, hv295⟩ : ∃ z : Int32, z = (if v253 = (0 : Int32) then (0 : Int32) else (if v262 = (0 : Int32) then (1 : Int32) else (if v271 = (0 : Int32) then (2 : Int32) else (if v280 = (0 : Int32) then (3 : Int32) else (4 : Int32))))) := ⟨_, rfl⟩
  have pre296 : ∀ t, own_K p e below m T243 339 #[lv p1, .second, iv p2, iv p3, iv p4, iv p5, iv p6, iv xz, iv xk, lv q0, .second, iv xf, lv qk, .second, rv b11, iv xr, iv v253, iv v262, iv v271, iv v280, .unset, .unset] [(.int v295)] t → G t := by
    by_cases hc304_283 : v253 = (0 : Int32)
    · have pre284 : ∀ t, own_K p e below m T243 339 #[lv p1, .second, iv p2, iv p3, iv p4, iv p5, iv p6, iv xz, iv xk, lv q0, .second, iv xf, lv qk, .second, rv b11, iv xr, iv v253, iv v262, iv v271, iv v280, .unset, .unset] [(.int (0 : Int32))] t → G t := by
        intro t k
        refine pre282 t ?_
        show own_K p e below m T243 304 #[lv p1, .second, iv p2, iv p3, iv p4, iv p5, iv p6, iv xz, iv xk, lv q0, .second, iv xf, lv qk, .second, rv b11, iv xr, iv v253, iv v262, iv v271, iv v280, .unset, .unset] [(.int v253)] _
        refine XS.ifYes X243.here hx rfl (pc0 := 304) (pc' := 338) rfl (hb hby at_304) rfl ((if0 _ _).trans (teq hc304_283).1) (by decide) (by decide) ?_
        show own_K p e below m T243 338 #[lv p1, .second, iv p2, iv p3, iv p4, iv p5, iv p6, iv xz, iv xk, lv q0, .second, iv xf, lv qk, .second, rv b11, iv xr, iv v253, iv v262, iv v271, iv v280, .unset, .unset] [] _
        refine XS.iconst X243.here hx rfl (hb hby at_338) ?_
        exact k
      have hq := True.intro
      obtain rfl : (0 : Int32) = v295 := by simp only [hv295, if_pos hc304_283]
      exact fun t k => pre284 t k
    · have pre285 : ∀ t, own_K p e below m T243 309 #[lv p1, .second, iv p2, iv p3, iv p4, iv p5, iv p6, iv xz, iv xk, lv q0, .second, iv xf, lv qk, .second, rv b11, iv xr, iv v253, iv v262, iv v271, iv v280, .unset, .unset] [(.int v262)] t → G t := by
        intro t k
        refine pre282 t ?_
        show own_K p e below m T243 304 #[lv p1, .second, iv p2, iv p3, iv p4, iv p5, iv p6, iv xz, iv xk, lv q0, .second, iv xf, lv qk, .second, rv b11, iv xr, iv v253, iv v262, iv v271, iv v280, .unset, .unset] [(.int v253)] _
        refine XS.ifNo X243.here hx rfl (hb hby at_304) rfl ((if0 _ _).trans (feq hc304_283).1) ?_
        show own_K p e below m T243 307 #[lv p1, .second, iv p2, iv p3, iv p4, iv p5, iv p6, iv xz, iv xk, lv q0, .second, iv xf, lv qk, .second, rv b11, iv xr, iv v253, iv v262, iv v271, iv v280, .unset, .unset] [] _
        refine XS.iload X243.here hx rfl (hb hby at_307) rfl ?_
        exact k
      by_cases hc309_286 : v262 = (0 : Int32)
      · have pre287 : ∀ t, own_K p e below m T243 339 #[lv p1, .second, iv p2, iv p3, iv p4, iv p5, iv p6, iv xz, iv xk, lv q0, .second, iv xf, lv qk, .second, rv b11, iv xr, iv v253, iv v262, iv v271, iv v280, .unset, .unset] [(.int (1 : Int32))] t → G t := by
          intro t k
          refine pre285 t ?_
          show own_K p e below m T243 309 #[lv p1, .second, iv p2, iv p3, iv p4, iv p5, iv p6, iv xz, iv xk, lv q0, .second, iv xf, lv qk, .second, rv b11, iv xr, iv v253, iv v262, iv v271, iv v280, .unset, .unset] [(.int v262)] _
          refine XS.ifYes X243.here hx rfl (pc0 := 309) (pc' := 334) rfl (hb hby at_309) rfl ((if0 _ _).trans (teq hc309_286).1) (by decide) (by decide) ?_
          show own_K p e below m T243 334 #[lv p1, .second, iv p2, iv p3, iv p4, iv p5, iv p6, iv xz, iv xk, lv q0, .second, iv xf, lv qk, .second, rv b11, iv xr, iv v253, iv v262, iv v271, iv v280, .unset, .unset] [] _
          refine XS.iconst X243.here hx rfl (hb hby at_334) ?_
          show own_K p e below m T243 335 #[lv p1, .second, iv p2, iv p3, iv p4, iv p5, iv p6, iv xz, iv xk, lv q0, .second, iv xf, lv qk, .second, rv b11, iv xr, iv v253, iv v262, iv v271, iv v280, .unset, .unset] [(.int (1 : Int32))] _
          refine XS.goto X243.here hx rfl (pc0 := 335) (pc' := 339) rfl (hb hby at_335) (by decide) (by decide) ?_
          exact k
        have hq := True.intro
        obtain rfl : (1 : Int32) = v295 := by simp only [hv295, if_neg hc304_283, if_pos hc309_286]
        exact fun t k => pre287 t k
      · have pre288 : ∀ t, own_K p e below m T243 314 #[lv p1, .second, iv p2, iv p3, iv p4, iv p5, iv p6, iv xz, iv xk, lv q0, .second, iv xf, lv qk, .second, rv b11, iv xr, iv v253, iv v262, iv v271, iv v280, .unset, .unset] [(.int v271)] t → G t := by
          intro t k
          refine pre285 t ?_
          show own_K p e below m T243 309 #[lv p1, .second, iv p2, iv p3, iv p4, iv p5, iv p6, iv xz, iv xk, lv q0, .second, iv xf, lv qk, .second, rv b11, iv xr, iv v253, iv v262, iv v271, iv v280, .unset, .unset] [(.int v262)] _
          refine XS.ifNo X243.here hx rfl (hb hby at_309) rfl ((if0 _ _).trans (feq hc309_286).1) ?_
          show own_K p e below m T243 312 #[lv p1, .second, iv p2, iv p3, iv p4, iv p5, iv p6, iv xz, iv xk, lv q0, .second, iv xf, lv qk, .second, rv b11, iv xr, iv v253, iv v262, iv v271, iv v280, .unset, .unset] [] _
          refine XS.iload X243.here hx rfl (hb hby at_312) rfl ?_
          exact k
        by_cases hc314_289 : v271 = (0 : Int32)
        · have pre290 : ∀ t, own_K p e below m T243 339 #[lv p1, .second, iv p2, iv p3, iv p4, iv p5, iv p6, iv xz, iv xk, lv q0, .second, iv xf, lv qk, .second, rv b11, iv xr, iv v253, iv v262, iv v271, iv v280, .unset, .unset] [(.int (2 : Int32))] t → G t := by
            intro t k
            refine pre288 t ?_
            show own_K p e below m T243 314 #[lv p1, .second, iv p2, iv p3, iv p4, iv p5, iv p6, iv xz, iv xk, lv q0, .second, iv xf, lv qk, .second, rv b11, iv xr, iv v253, iv v262, iv v271, iv v280, .unset, .unset] [(.int v271)] _
            refine XS.ifYes X243.here hx rfl (pc0 := 314) (pc' := 330) rfl (hb hby at_314) rfl ((if0 _ _).trans (teq hc314_289).1) (by decide) (by decide) ?_
            show own_K p e below m T243 330 #[lv p1, .second, iv p2, iv p3, iv p4, iv p5, iv p6, iv xz, iv xk, lv q0, .second, iv xf, lv qk, .second, rv b11, iv xr, iv v253, iv v262, iv v271, iv v280, .unset, .unset] [] _
            refine XS.iconst X243.here hx rfl (hb hby at_330) ?_
            show own_K p e below m T243 331 #[lv p1, .second, iv p2, iv p3, iv p4, iv p5, iv p6, iv xz, iv xk, lv q0, .second, iv xf, lv qk, .second, rv b11, iv xr, iv v253, iv v262, iv v271, iv v280, .unset, .unset] [(.int (2 : Int32))] _
            refine XS.goto X243.here hx rfl (pc0 := 331) (pc' := 339) rfl (hb hby at_331) (by decide) (by decide) ?_
            exact k
          have hq := True.intro
          obtain rfl : (2 : Int32) = v295 := by simp only [hv295, if_neg hc304_283, if_neg hc309_286, if_pos hc314_289]
          exact fun t k => pre290 t k
        · have pre291 : ∀ t, own_K p e below m T243 319 #[lv p1, .second, iv p2, iv p3, iv p4, iv p5, iv p6, iv xz, iv xk, lv q0, .second, iv xf, lv qk, .second, rv b11, iv xr, iv v253, iv v262, iv v271, iv v280, .unset, .unset] [(.int v280)] t → G t := by
            intro t k
            refine pre288 t ?_
            show own_K p e below m T243 314 #[lv p1, .second, iv p2, iv p3, iv p4, iv p5, iv p6, iv xz, iv xk, lv q0, .second, iv xf, lv qk, .second, rv b11, iv xr, iv v253, iv v262, iv v271, iv v280, .unset, .unset] [(.int v271)] _
            refine XS.ifNo X243.here hx rfl (hb hby at_314) rfl ((if0 _ _).trans (feq hc314_289).1) ?_
            show own_K p e below m T243 317 #[lv p1, .second, iv p2, iv p3, iv p4, iv p5, iv p6, iv xz, iv xk, lv q0, .second, iv xf, lv qk, .second, rv b11, iv xr, iv v253, iv v262, iv v271, iv v280, .unset, .unset] [] _
            refine XS.iload X243.here hx rfl (hb hby at_317) rfl ?_
            exact k
          by_cases hc319_292 : v280 = (0 : Int32)
          · have pre293 : ∀ t, own_K p e below m T243 339 #[lv p1, .second, iv p2, iv p3, iv p4, iv p5, iv p6, iv xz, iv xk, lv q0, .second, iv xf, lv qk, .second, rv b11, iv xr, iv v253, iv v262, iv v271, iv v280, .unset, .unset] [(.int (3 : Int32))] t → G t := by
              intro t k
              refine pre291 t ?_
              show own_K p e below m T243 319 #[lv p1, .second, iv p2, iv p3, iv p4, iv p5, iv p6, iv xz, iv xk, lv q0, .second, iv xf, lv qk, .second, rv b11, iv xr, iv v253, iv v262, iv v271, iv v280, .unset, .unset] [(.int v280)] _
              refine XS.ifYes X243.here hx rfl (pc0 := 319) (pc' := 326) rfl (hb hby at_319) rfl ((if0 _ _).trans (teq hc319_292).1) (by decide) (by decide) ?_
              show own_K p e below m T243 326 #[lv p1, .second, iv p2, iv p3, iv p4, iv p5, iv p6, iv xz, iv xk, lv q0, .second, iv xf, lv qk, .second, rv b11, iv xr, iv v253, iv v262, iv v271, iv v280, .unset, .unset] [] _
              refine XS.iconst X243.here hx rfl (hb hby at_326) ?_
              show own_K p e below m T243 327 #[lv p1, .second, iv p2, iv p3, iv p4, iv p5, iv p6, iv xz, iv xk, lv q0, .second, iv xf, lv qk, .second, rv b11, iv xr, iv v253, iv v262, iv v271, iv v280, .unset, .unset] [(.int (3 : Int32))] _
              refine XS.goto X243.here hx rfl (pc0 := 327) (pc' := 339) rfl (hb hby at_327) (by decide) (by decide) ?_
              exact k
            have hq := True.intro
            obtain rfl : (3 : Int32) = v295 := by simp only [hv295, if_neg hc304_283, if_neg hc309_286, if_neg hc314_289, if_pos hc319_292]
            exact fun t k => pre293 t k
          · have pre294 : ∀ t, own_K p e below m T243 339 #[lv p1, .second, iv p2, iv p3, iv p4, iv p5, iv p6, iv xz, iv xk, lv q0, .second, iv xf, lv qk, .second, rv b11, iv xr, iv v253, iv v262, iv v271, iv v280, .unset, .unset] [(.int (4 : Int32))] t → G t := by
              intro t k
              refine pre291 t ?_
              show own_K p e below m T243 319 #[lv p1, .second, iv p2, iv p3, iv p4, iv p5, iv p6, iv xz, iv xk, lv q0, .second, iv xf, lv qk, .second, rv b11, iv xr, iv v253, iv v262, iv v271, iv v280, .unset, .unset] [(.int v280)] _
              refine XS.ifNo X243.here hx rfl (hb hby at_319) rfl ((if0 _ _).trans (feq hc319_292).1) ?_
              show own_K p e below m T243 322 #[lv p1, .second, iv p2, iv p3, iv p4, iv p5, iv p6, iv xz, iv xk, lv q0, .second, iv xf, lv qk, .second, rv b11, iv xr, iv v253, iv v262, iv v271, iv v280, .unset, .unset] [] _
              refine XS.iconst X243.here hx rfl (hb hby at_322) ?_
              show own_K p e below m T243 323 #[lv p1, .second, iv p2, iv p3, iv p4, iv p5, iv p6, iv xz, iv xk, lv q0, .second, iv xf, lv qk, .second, rv b11, iv xr, iv v253, iv v262, iv v271, iv v280, .unset, .unset] [(.int (4 : Int32))] _
              refine XS.goto X243.here hx rfl (pc0 := 323) (pc' := 339) rfl (hb hby at_323) (by decide) (by decide) ?_
              exact k
            have hq := True.intro
            obtain rfl : (4 : Int32) = v295 := by simp only [hv295, if_neg hc304_283, if_neg hc309_286, if_neg hc314_289, if_neg hc319_292]
            exact fun t k => pre294 t k
  have pre297 : ∀ t, own_K p e below m T243 344 #[lv p1, .second, iv p2, iv p3, iv p4, iv p5, iv p6, iv xz, iv xk, lv q0, .second, iv xf, lv qk, .second, rv b11, iv xr, iv v253, iv v262, iv v271, iv v280, iv v295, .unset] [(.int (1 : Int32)), (.int xf)] t → G t := by
    intro t k
    refine pre296 t ?_
    show own_K p e below m T243 339 #[lv p1, .second, iv p2, iv p3, iv p4, iv p5, iv p6, iv xz, iv xk, lv q0, .second, iv xf, lv qk, .second, rv b11, iv xr, iv v253, iv v262, iv v271, iv v280, .unset, .unset] [(.int v295)] _
    refine XS.istore X243.here hx rfl (hb hby at_339) rfl (l' := #[lv p1, .second, iv p2, iv p3, iv p4, iv p5, iv p6, iv xz, iv xk, lv q0, .second, iv xf, lv qk, .second, rv b11, iv xr, iv v253, iv v262, iv v271, iv v280, iv v295, .unset]) rfl ?_
    show own_K p e below m T243 341 #[lv p1, .second, iv p2, iv p3, iv p4, iv p5, iv p6, iv xz, iv xk, lv q0, .second, iv xf, lv qk, .second, rv b11, iv xr, iv v253, iv v262, iv v271, iv v280, iv v295, .unset] [] _
    refine XS.iload X243.here hx rfl (hb hby at_341) rfl ?_
    show own_K p e below m T243 343 #[lv p1, .second, iv p2, iv p3, iv p4, iv p5, iv p6, iv xz, iv xk, lv q0, .second, iv xf, lv qk, .second, rv b11, iv xr, iv v253, iv v262, iv v271, iv v280, iv v295, .unset] [(.int xf)] _
    refine XS.iconst X243.here hx rfl (hb hby at_343) ?_
    exact k
  obtain ⟨v310, hv310⟩ : ∃ z : Int32, z = (if xf = (1 : Int32) then (if v295 = xk then xz else (0 : Int32)) else (if xf = (2 : Int32) then (if v295 = xk then xz else (0 : Int32)) else (xz - (xk - v295)))) := ⟨_, rfl⟩
  have pre311 : ∀ t, own_K p e below m T243 381 #[lv p1, .second, iv p2, iv p3, iv p4, iv p5, iv p6, iv xz, iv xk, lv q0, .second, iv xf, lv qk, .second, rv b11, iv xr, iv v253, iv v262, iv v271, iv v280, iv v295, iv v310] [] t → G t := by
    by_cases hc344_298 : xf = (1 : Int32)
    · have pre299 : ∀ t, own_K p e below m T243 357 #[lv p1, .second, iv p2, iv p3, iv p4, iv p5, iv p6, iv xz, iv xk, lv q0, .second, iv xf, lv qk, .second, rv b11, iv xr, iv v253, iv v262, iv v271, iv v280, iv v295, .unset] [(.int xk), (.int v295)] t → G t := by
        intro t k
        refine pre297 t ?_
        show own_K p e below m T243 344 #[lv p1, .second, iv p2, iv p3, iv p4, iv p5, iv p6, iv xz, iv xk, lv q0, .second, iv xf, lv qk, .second, rv b11, iv xr, iv v253, iv v262, iv v271, iv v280, iv v295, .unset] [(.int (1 : Int32)), (.int xf)] _
        refine XS.icmpYes X243.here hx rfl (pc0 := 344) (pc' := 353) rfl (hb hby at_344) rfl (teq hc344_298).1 (by decide) (by decide) ?_
        show own_K p e below m T243 353 #[lv p1, .second, iv p2, iv p3, iv p4, iv p5, iv p6, iv xz, iv xk, lv q0, .second, iv xf, lv qk, .second, rv b11, iv xr, iv v253, iv v262, iv v271, iv v280, iv v295, .unset] [] _
        refine XS.iload X243.here hx rfl (hb hby at_353) rfl ?_
        show own_K p e below m T243 355 #[lv p1, .second, iv p2, iv p3, iv p4, iv p5, iv p6, iv xz, iv xk, lv q0, .second, iv xf, lv qk, .second, rv b11, iv xr, iv v253, iv v262, iv v271, iv v280, iv v295, .unset] [(.int v295)] _
        refine XS.iload X243.here hx rfl (hb hby at_355) rfl ?_
        exact k
      by_cases hc357_300 : v295 = xk
      · have pre301 : ∀ t, own_K p e below m T243 381 #[lv p1, .second, iv p2, iv p3, iv p4, iv p5, iv p6, iv xz, iv xk, lv q0, .second, iv xf, lv qk, .second, rv b11, iv xr, iv v253, iv v262, iv v271, iv v280, iv v295, iv xz] [] t → G t := by
          intro t k
          refine pre299 t ?_
          show own_K p e below m T243 357 #[lv p1, .second, iv p2, iv p3, iv p4, iv p5, iv p6, iv xz, iv xk, lv q0, .second, iv xf, lv qk, .second, rv b11, iv xr, iv v253, iv v262, iv v271, iv v280, iv v295, .unset] [(.int xk), (.int v295)] _
          refine XS.icmpNo X243.here hx rfl (hb hby at_357) rfl (teq hc357_300).2 ?_
          show own_K p e below m T243 360 #[lv p1, .second, iv p2, iv p3, iv p4, iv p5, iv p6, iv xz, iv xk, lv q0, .second, iv xf, lv qk, .second, rv b11, iv xr, iv v253, iv v262, iv v271, iv v280, iv v295, .unset] [] _
          refine XS.iload X243.here hx rfl (hb hby at_360) rfl ?_
          show own_K p e below m T243 362 #[lv p1, .second, iv p2, iv p3, iv p4, iv p5, iv p6, iv xz, iv xk, lv q0, .second, iv xf, lv qk, .second, rv b11, iv xr, iv v253, iv v262, iv v271, iv v280, iv v295, .unset] [(.int xz)] _
          refine XS.goto X243.here hx rfl (pc0 := 362) (pc' := 366) rfl (hb hby at_362) (by decide) (by decide) ?_
          show own_K p e below m T243 366 #[lv p1, .second, iv p2, iv p3, iv p4, iv p5, iv p6, iv xz, iv xk, lv q0, .second, iv xf, lv qk, .second, rv b11, iv xr, iv v253, iv v262, iv v271, iv v280, iv v295, .unset] [(.int xz)] _
          refine XS.istore X243.here hx rfl (hb hby at_366) rfl (l' := #[lv p1, .second, iv p2, iv p3, iv p4, iv p5, iv p6, iv xz, iv xk, lv q0, .second, iv xf, lv qk, .second, rv b11, iv xr, iv v253, iv v262, iv v271, iv v280, iv v295, iv xz]) rfl ?_
          show own_K p e below m T243 368 #[lv p1, .second, iv p2, iv p3, iv p4, iv p5, iv p6, iv xz, iv xk, lv q0, .second, iv xf, lv qk, .second, rv b11, iv xr, iv v253, iv v262, iv v271, iv v280, iv v295, iv xz] [] _
          refine XS.goto X243.here hx rfl (pc0 := 368) (pc' := 381) rfl (hb hby at_368) (by decide) (by decide) ?_
          exact k
        have hq := True.intro
        obtain rfl : xz = v310 := by simp only [hv310, if_pos hc344_298, if_pos hc357_300]
        exact fun t k => pre301 t k
      · have pre302 : ∀ t, own_K p e below m T243 381 #[lv p1, .second, iv p2, iv p3, iv p4, iv p5, iv p6, iv xz, iv xk, lv q0, .second, iv xf, lv qk, .second, rv b11, iv xr, iv v253, iv v262, iv v271, iv v280, iv v295, iv (0 : Int32)] [] t → G t := by
          intro t k
          refine pre299 t ?_
          show own_K p e below m T243 357 #[lv p1, .second, iv p2, iv p3, iv p4, iv p5, iv p6, iv xz, iv xk, lv q0, .second, iv xf, lv qk, .second, rv b11, iv xr, iv v253, iv v262, iv v271, iv v280, iv v295, .unset] [(.int xk), (.int v295)] _
          refine XS.icmpYes X243.here hx rfl (pc0 := 357) (pc' := 365) rfl (hb hby at_357) rfl (feq hc357_300).2 (by decide) (by decide) ?_
          show own_K p e below m T243 365 #[lv p1, .second, iv p2, iv p3, iv p4, iv p5, iv p6, iv xz, iv xk, lv q0, .second, iv xf, lv qk, .second, rv b11, iv xr, iv v253, iv v262, iv v271, iv v280, iv v295, .unset] [] _
          refine XS.iconst X243.here hx rfl (hb hby at_365) ?_
          show own_K p e below m T243 366 #[lv p1, .second, iv p2, iv p3, iv p4, iv p5, iv p6, iv xz, iv xk, lv q0, .second, iv xf, lv qk, .second, rv b11, iv xr, iv v253, iv v262, iv v271, iv v280, iv v295, .unset] [(.int (0 : Int32))] _
          refine XS.istore X243.here hx rfl (hb hby at_366) rfl (l' := #[lv p1, .second, iv p2, iv p3, iv p4, iv p5, iv p6, iv xz, iv xk, lv q0, .second, iv xf, lv qk, .second, rv b11, iv xr, iv v253, iv v262, iv v271, iv v280, iv v295, iv (0 : Int32)]) rfl ?_
          show own_K p e below m T243 368 #[lv p1, .second, iv p2, iv p3, iv p4, iv p5, iv p6, iv xz, iv xk, lv q0, .second, iv xf, lv qk, .second, rv b11, iv xr, iv v253, iv v262, iv v271, iv v280, iv v295, iv (0 : Int32)] [] _
          refine XS.goto X243.here hx rfl (pc0 := 368) (pc' := 381) rfl (hb hby at_368) (by decide) (by decide) ?_
          exact k
        have hq := True.intro
        obtain rfl : (0 : Int32) = v310 := by simp only [hv310, if_pos hc344_298, if_neg hc357_300]
        exact fun t k => pre302 t k
    · have pre303 : ∀ t, own_K p e below m T243 350 #[lv p1, .second, iv p2, iv p3, iv p4, iv p5, iv p6, iv xz, iv xk, lv q0, .second, iv xf, lv qk, .second, rv b11, iv xr, iv v253, iv v262, iv v271, iv v280, iv v295, .unset] [(.int (2 : Int32)), (.int xf)] t → G t := by
        intro t k
        refine pre297 t ?_
        show own_K p e below m T243 344 #[lv p1, .second, iv p2, iv p3, iv p4, iv p5, iv p6, iv xz, iv xk, lv q0, .second, iv xf, lv qk, .second, rv b11, iv xr, iv v253, iv v262, iv v271, iv v280, iv v295, .unset] [(.int (1 : Int32)), (.int xf)] _
        refine XS.icmpNo X243.here hx rfl (hb hby at_344) rfl (feq hc344_298).1 ?_
        show own_K p e below m T243 347 #[lv p1, .second, iv p2, iv p3, iv p4, iv p5, iv p6, iv xz, iv xk, lv q0, .second, iv xf, lv qk, .second, rv b11, iv xr, iv v253, iv v262, iv v271, iv v280, iv v295, .unset] [] _
        refine XS.iload X243.here hx rfl (hb hby at_347) rfl ?_
        show own_K p e below m T243 349 #[lv p1, .second, iv p2, iv p3, iv p4, iv p5, iv p6, iv xz, iv xk, lv q0, .second, iv xf, lv qk, .second, rv b11, iv xr, iv v253, iv v262, iv v271, iv v280, iv v295, .unset] [(.int xf)] _
        refine XS.iconst X243.here hx rfl (hb hby at_349) ?_
        exact k
      by_cases hc350_304 : xf = (2 : Int32)
      · have pre305 : ∀ t, own_K p e below m T243 357 #[lv p1, .second, iv p2, iv p3, iv p4, iv p5, iv p6, iv xz, iv xk, lv q0, .second, iv xf, lv qk, .second, rv b11, iv xr, iv v253, iv v262, iv v271, iv v280, iv v295, .unset] [(.int xk), (.int v295)] t → G t := by
          intro t k
          refine pre303 t ?_
          show own_K p e below m T243 350 #[lv p1, .second, iv p2, iv p3, iv p4, iv p5, iv p6, iv xz, iv xk, lv q0, .second, iv xf, lv qk, .second, rv b11, iv xr, iv v253, iv v262, iv v271, iv v280, iv v295, .unset] [(.int (2 : Int32)), (.int xf)] _
          refine XS.icmpNo X243.here hx rfl (hb hby at_350) rfl (teq hc350_304).2 ?_
          show own_K p e below m T243 353 #[lv p1, .second, iv p2, iv p3, iv p4, iv p5, iv p6, iv xz, iv xk, lv q0, .second, iv xf, lv qk, .second, rv b11, iv xr, iv v253, iv v262, iv v271, iv v280, iv v295, .unset] [] _
          refine XS.iload X243.here hx rfl (hb hby at_353) rfl ?_
          show own_K p e below m T243 355 #[lv p1, .second, iv p2, iv p3, iv p4, iv p5, iv p6, iv xz, iv xk, lv q0, .second, iv xf, lv qk, .second, rv b11, iv xr, iv v253, iv v262, iv v271, iv v280, iv v295, .unset] [(.int v295)] _
          refine XS.iload X243.here hx rfl (hb hby at_355) rfl ?_
          exact k
        by_cases hc357_306 : v295 = xk
        · have pre307 : ∀ t, own_K p e below m T243 381 #[lv p1, .second, iv p2, iv p3, iv p4, iv p5, iv p6, iv xz, iv xk, lv q0, .second, iv xf, lv qk, .second, rv b11, iv xr, iv v253, iv v262, iv v271, iv v280, iv v295, iv xz] [] t → G t := by
            intro t k
            refine pre305 t ?_
            show own_K p e below m T243 357 #[lv p1, .second, iv p2, iv p3, iv p4, iv p5, iv p6, iv xz, iv xk, lv q0, .second, iv xf, lv qk, .second, rv b11, iv xr, iv v253, iv v262, iv v271, iv v280, iv v295, .unset] [(.int xk), (.int v295)] _
            refine XS.icmpNo X243.here hx rfl (hb hby at_357) rfl (teq hc357_306).2 ?_
            show own_K p e below m T243 360 #[lv p1, .second, iv p2, iv p3, iv p4, iv p5, iv p6, iv xz, iv xk, lv q0, .second, iv xf, lv qk, .second, rv b11, iv xr, iv v253, iv v262, iv v271, iv v280, iv v295, .unset] [] _
            refine XS.iload X243.here hx rfl (hb hby at_360) rfl ?_
            show own_K p e below m T243 362 #[lv p1, .second, iv p2, iv p3, iv p4, iv p5, iv p6, iv xz, iv xk, lv q0, .second, iv xf, lv qk, .second, rv b11, iv xr, iv v253, iv v262, iv v271, iv v280, iv v295, .unset] [(.int xz)] _
            refine XS.goto X243.here hx rfl (pc0 := 362) (pc' := 366) rfl (hb hby at_362) (by decide) (by decide) ?_
            show own_K p e below m T243 366 #[lv p1, .second, iv p2, iv p3, iv p4, iv p5, iv p6, iv xz, iv xk, lv q0, .second, iv xf, lv qk, .second, rv b11, iv xr, iv v253, iv v262, iv v271, iv v280, iv v295, .unset] [(.int xz)] _
            refine XS.istore X243.here hx rfl (hb hby at_366) rfl (l' := #[lv p1, .second, iv p2, iv p3, iv p4, iv p5, iv p6, iv xz, iv xk, lv q0, .second, iv xf, lv qk, .second, rv b11, iv xr, iv v253, iv v262, iv v271, iv v280, iv v295, iv xz]) rfl ?_
            show own_K p e below m T243 368 #[lv p1, .second, iv p2, iv p3, iv p4, iv p5, iv p6, iv xz, iv xk, lv q0, .second, iv xf, lv qk, .second, rv b11, iv xr, iv v253, iv v262, iv v271, iv v280, iv v295, iv xz] [] _
            refine XS.goto X243.here hx rfl (pc0 := 368) (pc' := 381) rfl (hb hby at_368) (by decide) (by decide) ?_
            exact k
          have hq := True.intro
          obtain rfl : xz = v310 := by simp only [hv310, if_neg hc344_298, if_pos hc350_304, if_pos hc357_306]
          exact fun t k => pre307 t k
        · have pre308 : ∀ t, own_K p e below m T243 381 #[lv p1, .second, iv p2, iv p3, iv p4, iv p5, iv p6, iv xz, iv xk, lv q0, .second, iv xf, lv qk, .second, rv b11, iv xr, iv v253, iv v262, iv v271, iv v280, iv v295, iv (0 : Int32)] [] t → G t := by
            intro t k
            refine pre305 t ?_
            show own_K p e below m T243 357 #[lv p1, .second, iv p2, iv p3, iv p4, iv p5, iv p6, iv xz, iv xk, lv q0, .second, iv xf, lv qk, .second, rv b11, iv xr, iv v253, iv v262, iv v271, iv v280, iv v295, .unset] [(.int xk), (.int v295)] _
            refine XS.icmpYes X243.here hx rfl (pc0 := 357) (pc' := 365) rfl (hb hby at_357) rfl (feq hc357_306).2 (by decide) (by decide) ?_
            show own_K p e below m T243 365 #[lv p1, .second, iv p2, iv p3, iv p4, iv p5, iv p6, iv xz, iv xk, lv q0, .second, iv xf, lv qk, .second, rv b11, iv xr, iv v253, iv v262, iv v271, iv v280, iv v295, .unset] [] _
            refine XS.iconst X243.here hx rfl (hb hby at_365) ?_
            show own_K p e below m T243 366 #[lv p1, .second, iv p2, iv p3, iv p4, iv p5, iv p6, iv xz, iv xk, lv q0, .second, iv xf, lv qk, .second, rv b11, iv xr, iv v253, iv v262, iv v271, iv v280, iv v295, .unset] [(.int (0 : Int32))] _
            refine XS.istore X243.here hx rfl (hb hby at_366) rfl (l' := #[lv p1, .second, iv p2, iv p3, iv p4, iv p5, iv p6, iv xz, iv xk, lv q0, .second, iv xf, lv qk, .second, rv b11, iv xr, iv v253, iv v262, iv v271, iv v280, iv v295, iv (0 : Int32)]) rfl ?_
            show own_K p e below m T243 368 #[lv p1, .second, iv p2, iv p3, iv p4, iv p5, iv p6, iv xz, iv xk, lv q0, .second, iv xf, lv qk, .second, rv b11, iv xr, iv v253, iv v262, iv v271, iv v280, iv v295, iv (0 : Int32)] [] _
            refine XS.goto X243.here hx rfl (pc0 := 368) (pc' := 381) rfl (hb hby at_368) (by decide) (by decide) ?_
            exact k
          have hq := True.intro
          obtain rfl : (0 : Int32) = v310 := by simp only [hv310, if_neg hc344_298, if_pos hc350_304, if_neg hc357_306]
          exact fun t k => pre308 t k
      · have pre309 : ∀ t, own_K p e below m T243 381 #[lv p1, .second, iv p2, iv p3, iv p4, iv p5, iv p6, iv xz, iv xk, lv q0, .second, iv xf, lv qk, .second, rv b11, iv xr, iv v253, iv v262, iv v271, iv v280, iv v295, iv (xz - (xk - v295))] [] t → G t := by
          intro t k
          refine pre303 t ?_
          show own_K p e below m T243 350 #[lv p1, .second, iv p2, iv p3, iv p4, iv p5, iv p6, iv xz, iv xk, lv q0, .second, iv xf, lv qk, .second, rv b11, iv xr, iv v253, iv v262, iv v271, iv v280, iv v295, .unset] [(.int (2 : Int32)), (.int xf)] _
          refine XS.icmpYes X243.here hx rfl (pc0 := 350) (pc' := 371) rfl (hb hby at_350) rfl (feq hc350_304).2 (by decide) (by decide) ?_
          show own_K p e below m T243 371 #[lv p1, .second, iv p2, iv p3, iv p4, iv p5, iv p6, iv xz, iv xk, lv q0, .second, iv xf, lv qk, .second, rv b11, iv xr, iv v253, iv v262, iv v271, iv v280, iv v295, .unset] [] _
          refine XS.iload X243.here hx rfl (hb hby at_371) rfl ?_
          show own_K p e below m T243 373 #[lv p1, .second, iv p2, iv p3, iv p4, iv p5, iv p6, iv xz, iv xk, lv q0, .second, iv xf, lv qk, .second, rv b11, iv xr, iv v253, iv v262, iv v271, iv v280, iv v295, .unset] [(.int xz)] _
          refine XS.iload X243.here hx rfl (hb hby at_373) rfl ?_
          show own_K p e below m T243 375 #[lv p1, .second, iv p2, iv p3, iv p4, iv p5, iv p6, iv xz, iv xk, lv q0, .second, iv xf, lv qk, .second, rv b11, iv xr, iv v253, iv v262, iv v271, iv v280, iv v295, .unset] [(.int xk), (.int xz)] _
          refine XS.iload X243.here hx rfl (hb hby at_375) rfl ?_
          show own_K p e below m T243 377 #[lv p1, .second, iv p2, iv p3, iv p4, iv p5, iv p6, iv xz, iv xk, lv q0, .second, iv xf, lv qk, .second, rv b11, iv xr, iv v253, iv v262, iv v271, iv v280, iv v295, .unset] [(.int v295), (.int xk), (.int xz)] _
          refine XS.isub X243.here hx rfl (hb hby at_377) rfl ?_
          show own_K p e below m T243 378 #[lv p1, .second, iv p2, iv p3, iv p4, iv p5, iv p6, iv xz, iv xk, lv q0, .second, iv xf, lv qk, .second, rv b11, iv xr, iv v253, iv v262, iv v271, iv v280, iv v295, .unset] [(.int (xk - v295)), (.int xz)] _
          refine XS.isub X243.here hx rfl (hb hby at_378) rfl ?_
          show own_K p e below m T243 379 #[lv p1, .second, iv p2, iv p3, iv p4, iv p5, iv p6, iv xz, iv xk, lv q0, .second, iv xf, lv qk, .second, rv b11, iv xr, iv v253, iv v262, iv v271, iv v280, iv v295, .unset] [(.int (xz - (xk - v295)))] _
          refine XS.istore X243.here hx rfl (hb hby at_379) rfl (l' := #[lv p1, .second, iv p2, iv p3, iv p4, iv p5, iv p6, iv xz, iv xk, lv q0, .second, iv xf, lv qk, .second, rv b11, iv xr, iv v253, iv v262, iv v271, iv v280, iv v295, iv (xz - (xk - v295))]) rfl ?_
          exact k
        have hq := True.intro
        obtain rfl : (xz - (xk - v295)) = v310 := by simp only [hv310, if_neg hc344_298, if_neg hc350_304]
        exact fun t k => pre309 t k
  have pre312 : ∀ t, own_K p e below m T243 393 #[lv p1, .second, iv p2, iv p3, iv p4, iv p5, iv p6, iv xz, iv xk, lv q0, .second, iv xf, lv qk, .second, rv b11, iv xr, iv v253, iv v262, iv v271, iv v280, iv v295, iv v310] [(.int (1 : Int32))] t → G t := by
    intro t k
    refine pre311 t ?_
    show own_K p e below m T243 381 #[lv p1, .second, iv p2, iv p3, iv p4, iv p5, iv p6, iv xz, iv xk, lv q0, .second, iv xf, lv qk, .second, rv b11, iv xr, iv v253, iv v262, iv v271, iv v280, iv v295, iv v310] [] _
    refine XS.iload X243.here hx rfl (hb hby at_381) rfl ?_
    show own_K p e below m T243 383 #[lv p1, .second, iv p2, iv p3, iv p4, iv p5, iv p6, iv xz, iv xk, lv q0, .second, iv xf, lv qk, .second, rv b11, iv xr, iv v253, iv v262, iv v271, iv v280, iv v295, iv v310] [(.int xr)] _
    refine XS.iload X243.here hx rfl (hb hby at_383) rfl ?_
    show own_K p e below m T243 385 #[lv p1, .second, iv p2, iv p3, iv p4, iv p5, iv p6, iv xz, iv xk, lv q0, .second, iv xf, lv qk, .second, rv b11, iv xr, iv v253, iv v262, iv v271, iv v280, iv v295, iv v310] [(.int v310), (.int xr)] _
    refine XS.icmpNo X243.here hx rfl (hb hby at_385) rfl (teq (own_main hkN hkb hzb hkz hq62 hnx hS hsk hv162 hv183 hv204 hv225 hv227 hv228 hv237 hv239 hv240 hv253 hv262 hv271 hv280 hv295 hv310 hxr)).2 ?_
    show own_K p e below m T243 388 #[lv p1, .second, iv p2, iv p3, iv p4, iv p5, iv p6, iv xz, iv xk, lv q0, .second, iv xf, lv qk, .second, rv b11, iv xr, iv v253, iv v262, iv v271, iv v280, iv v295, iv v310] [] _
    refine XS.iconst X243.here hx rfl (hb hby at_388) ?_
    show own_K p e below m T243 389 #[lv p1, .second, iv p2, iv p3, iv p4, iv p5, iv p6, iv xz, iv xk, lv q0, .second, iv xf, lv qk, .second, rv b11, iv xr, iv v253, iv v262, iv v271, iv v280, iv v295, iv v310] [(.int (1 : Int32))] _
    refine XS.goto X243.here hx rfl (pc0 := 389) (pc' := 393) rfl (hb hby at_389) (by decide) (by decide) ?_
    exact k
  obtain ⟨fs, hr, hrun, hended, hW, hsame⟩ := X243.leave (v := some (.int (1 : Int32))) (fun h => by rw [Bd.returns] at h; cases h)
  refine ⟨_, _, hG _ (pre312 _ ?_), hrun, hended, _, _, rfl, ?_, ⟨_, rfl⟩, hW, hsame.mono (by decide) (by decide)⟩
  · show own_K p e below m T243 393 #[lv p1, .second, iv p2, iv p3, iv p4, iv p5, iv p6, iv xz, iv xk, lv q0, .second, iv xf, lv qk, .second, rv b11, iv xr, iv v253, iv v262, iv v271, iv v280, iv v295, iv v310] [(.int (1 : Int32))] _
    exact retN X243 hx (t := .boolean) Bd.returns (by simp) (hb hby at_393) hr
  · show Q0 Z p1 p2 p3 p4 p5 p6 el ea kE h0 n0 _ T243.heap _
    rw [eh243]
    exact ⟨rfl, N243, K236⟩
set_option maxRecDepth 65536 in
set_option maxHeartbeats 40000000 in
theorem comes_1 {Post : Tables → Env → Array Value → State → Outcome → State → Prop} (hpost : ∀ tb e args s v u, (limb_1_1.after args s (.returned v) u = true ∧ limb_1_2.after args s (.returned v) u = true ∧ True) → FrameEnd s (.returned v) u (Jvm.fieldLocs frame_1_writes args s ++ Jvm.arrayLocs frame_1_arrays args s ++ Jvm.staticLocs frame_1_statics s) 24 128 → Post tb e args s (.returned v) u) :
    ArmFor flags0 classFile x code maxLocals ret World_1 tables_1 room_1 Calls_1 rest_1 Pre_1 Post := by
  intro l hfl _ _ p e ha hc hk s m args below hf hA hF happ hP
  obtain ⟨hcalls, hrest, hpre⟩ := hP
  obtain ⟨-, -, -, hnamed, -, -, -, hat⟩ := (Spec.applies_iff hf).mp happ
  obtain ⟨hg, hn⟩ := and_e (Cond.before_iff.mp (show (Jvm.Cond.and given_1 narrow_1).before args s = true from hpre))
  obtain ⟨ga1, gb1⟩ := and_e hg
  obtain ⟨ga2, gb2⟩ := and_e gb1
  obtain ⟨ga3, gb3⟩ := and_e gb2
  obtain ⟨ga4, gb4⟩ := and_e gb3
  obtain ⟨ga5, gb5⟩ := and_e gb4
  obtain ⟨ga6, gb6⟩ := and_e gb5
  obtain ⟨w0, w1, w2, w3, w4, w5, rfl⟩ : ∃ w0 w1 w2 w3 w4 w5 : Value, args = #[w0, w1, w2, w3, w4, w5] := by
    have hs : args.size = 6 := by simpa [Cond.value, given_1] using ga1
    obtain ⟨L⟩ := args
    match L, hs with
    | [w0, w1, w2, w3, w4, w5], _ => exact ⟨w0, w1, w2, w3, w4, w5, rfl⟩
  have hw := fun d (hd : d ∈ tables_1) => atoms_spec (ws := Jvm.Cond.code x code maxLocals ret :: tables_1) hat d (List.mem_cons_of_mem _ hd)
  have hfit : Fit s := fun {y c} hc i hi => by
    obtain ⟨ha, rfl⟩ := Array.getElem?_eq_some_iff.mp hc
    have q := List.all_eq_true.mp ((Array.all_eq_true_iff_forall_mem.mp hF) _ (Array.getElem_mem ha)) i (List.mem_range.mpr hi)
    simpa [Array.getElem?_eq_getElem hi] using q
  obtain ⟨hsets, hown0⟩ := atoms_of _ (rest_1_c_eq ▸ (show rest_1_c.before _ s = true from hrest))
  have hr0 := Cond.before_iff.mp hown0
  obtain ⟨i0, ei0⟩ := isL_v ga2
  obtain rfl : w0 = (.long i0) := Option.some.inj ei0
  obtain ⟨i1, ei1⟩ := is_v ga3
  obtain rfl : w1 = (.int i1) := Option.some.inj ei1
  obtain ⟨i2, ei2⟩ := is_v ga4
  obtain rfl : w2 = (.int i2) := Option.some.inj ei2
  obtain ⟨i3, ei3⟩ := is_v ga5
  obtain rfl : w3 = (.int i3) := Option.some.inj ei3
  obtain ⟨i4, ei4⟩ := is_v ga6
  obtain rfl : w4 = (.int i4) := Option.some.inj ei4
  obtain ⟨i5, ei5⟩ := is_v gb6
  obtain rfl : w5 = (.int i5) := Option.some.inj ei5
  have bs : ∀ {d : Jvm.Cond}, d.before #[(.long i0), (.int i1), (.int i2), (.int i3), (.int i4), (.int i5)] s = true → d.value #[(.long i0), (.int i1), (.int i2), (.int i3), (.int i4), (.int i5)] s none s [] = some true := fun h => Cond.before_iff.mp h
  have q2 := bs (hsets _ (List.mem_of_getElem? (i := 2) rfl))
  obtain ⟨el, kel⟩ := exa_v q2
  have SL := Sta.start kel (Or.inl (hsets _ (List.mem_of_getElem? (i := 1) rfl)))
  have EL := Exa.start kel q2
  have q3 := bs (hsets _ (List.mem_of_getElem? (i := 3) rfl))
  obtain ⟨ea, kea⟩ := arr_v q3
  have FE := Fld.start ((fld_at kel).symm.trans kea)
  obtain ⟨cle, Ae⟩ := Arr.start kea q3
  have ql := own_len0 (N := 0) kea Ae (bs (hsets _ (List.mem_of_getElem? (i := 5) rfl))) (by decide)
  have VE : Arv s s.heap ea cle.cls (.object "java/lang/Object") (0 : Int32) [] .null := ⟨cle, Ae, rfl, ql, by decide, fun k hk => absurd hk (by rw [ql]; omega), fun i hi => absurd hi (by rw [ql]; omega)⟩
  have FA := Fld.start ((fld_at kel).symm.trans (eqv_i (Term.int_eval (0 : Int32)) (bs (hsets _ (List.mem_of_getElem? (i := 6) rfl)))))
  have kB := eqv_i (Term.int_eval (1 : Int32)) (bs (hsets _ (List.mem_of_getElem? (i := 9) rfl)))
  have SB := Sta.start kB (Or.inl (hsets _ (List.mem_of_getElem? (i := 8) rfl)))
  have P_ : own_P s el ea cle.cls := ⟨SL, EL, FE, VE, FA, SB⟩
  obtain ⟨n, o, h1, h2, h3, _, L, rfl, ⟨rfl, N, _⟩, hq⟩ := rm0 l s _ hw tables_1 i0 i1 i2 i3 i4 i5 el ea cle.cls s.heap s.heap.size (Nat.le_refl _) (Old.start s) P_ p e ha hc hk s m _ below hf ((Spec.applies_iff_loose hf).mp happ).1 ⟨rfl, State.Warmed39.refl s, rfl⟩ trivial
  refine ⟨n, _, h1, h2, h3, hpost _ _ _ _ _ _ ⟨Cond.after_iff.mpr rfl, Cond.after_iff.mpr (eq_i res_at (Term.int_eval (1)) rfl), trivial⟩ ⟨hq.1, hq.2.1, (hq.2.2.sift fun y hy => Or.inr (N y hy)).mono (by decide) (by decide)⟩⟩
theorem main_1_1 : Claimed_1_1 := comes_1 fun _ _ _ _ _ _ h hF => ⟨h.1, hF⟩
theorem main_1_2 : Claimed_1_2 := comes_1 fun _ _ _ _ _ _ h hF => ⟨h.2.1, hF⟩
end Jvm.Pilot.@@N@@
namespace Jvm.Pilot.@@N@@
open Jvm Jvm.ClassFile Sem Op Lib Jvm.Free Jvm.Stand Jvm.Pilot.@@N@@.Jvm.D
/-! MADE BY PROGRAM (witnessworld.py) out of the Statement's table words and the real class files: 30 classes; the members and pool entries that the words name. The judged class is class 1, her method 1. -/
namespace start1
open Jvm.ClassFile
def u (s : String) : CpInfo := .utf8 (stringToUtf16 s)
/-- a pool by its gaps: so many unusable entries, then the entry; so many at the end -/
def gap : Nat → List CpInfo → List CpInfo
  | 0, r => r
  | n + 1, r => .unusable :: gap n r
def poolList (es : List (Nat × CpInfo)) (last : Nat) : List CpInfo := es.foldr (fun e r => gap e.1 (e.2 :: r)) (gap last [])
def pool (es : List (Nat × CpInfo)) (last : Nat) : Array CpInfo := ⟨poolList es last⟩
def fileOf (pool : Array CpInfo) (this : Nat) (attrs : Array Attribute := #[]) (ms : Array MethodInfo := #[]) (fl : Nat := 33) (sup : Nat := 0) (ifs : Array Nat := #[]) (fds : Array FieldInfo := #[]) : ClassFile where
  minorVersion := 0
  majorVersion := 65
  constantPool := pool
  accessFlags := fl
  thisClass := this
  superClass := sup
  interfaces := ifs
  fields := fds
  methods := ms
  attributes := attrs
def plain (name : String) (sup : Option ClassId) : Class where
  name := name
  kind := .ordinary
  loader := none
  accessFlags := 33
  super := sup
  interfaces := #[]
  cf := none
  fields := #[]
  methods := #[]
  instanceTypes := #[]
  staticTypes := #[]
  resolved := #[]
  callSites := []
  init := .initialized
  statics := none
  mirror := none

def pool0 : Array CpInfo := pool [(5, u "<init>"), (0, u "()V"), (1, .class_ 10), (1, u "java/lang/Object")] 113

def k0c0 : Code := { maxStack := 0, maxLocals := 1, code := object_method_1_code, exceptionTable := #[], attributes := #[] }
def k0m0 : Method := { name := "<init>", desc := "()V", sig := { parameters := [], returnType := none }, accessFlags := 1, code := some k0c0 }
/-- java/lang/Object -/
def k0 : Class := { plain "java/lang/Object" none with
  accessFlags := 33
  interfaces := #[]
  cf := some (fileOf pool0 8 #[] #[{ accessFlags := 1, nameIndex := 5, descriptorIndex := 6, attributes := #[] }] 33 0 #[] #[])
  fields := #[]
  methods := #[k0m0]
  instanceTypes := #[]
  staticTypes := #[]
  resolved := Array.replicate 124 none
  statics := none }

def pool1 : Array CpInfo := pool [(2, .class_ 4), (1, u "java/lang/Object"), (0, u "<init>"), (0, u "()V"), (0, .long 4611686018427387903), (1, .integer 65535), (0, .class_ 11), (0, u "evenkeel/client/Window"), (0, .class_ 13), (0, u "evenkeel/model/CommittedOffset"), (0, .methodref 12 15), (0, .nameAndType 5 16), (0, u "(Levenkeel/model/TopicQueue;J)V"), (0, .methodref 10 18), (0, .nameAndType 5 19), (0, u "(ILevenkeel/model/CommittedOffset;)V"), (0, .methodref 10 21), (0, .nameAndType 22 23), (0, u "take"), (0, u "()Z"), (0, .methodref 10 25), (0, .nameAndType 26 27), (0, u "skip"), (0, u "(J)Z"), (0, .long 3), (1, .methodref 10 31), (0, .nameAndType 32 27), (0, u "finish"), (0, .long 2), (1, .methodref 10 36), (0, .nameAndType 37 38), (0, u "roomOnceCommitted"), (0, u "()I"), (0, .class_ 40), (0, u "evenkeel/client/WindowRoomOnceCommittedPinLaw"), (2, u "law"), (0, u "(JIIIII)Z")] 3

def k1m0 : Method := { name := "<init>", desc := "()V", sig := { parameters := [], returnType := none }, accessFlags := 2, code := none }
def k1c1 : Code := { maxStack := 8, maxLocals := 22, code := code, exceptionTable := #[], attributes := #[] }
def k1m1 : Method := { name := "law", desc := "(JIIIII)Z", sig := { parameters := [.long, .int, .int, .int, .int, .int], returnType := some .boolean }, accessFlags := 9, code := some k1c1 }
/-- evenkeel/client/WindowRoomOnceCommittedPinLaw -/
def k1 : Class := { plain "evenkeel/client/WindowRoomOnceCommittedPinLaw" (some 0) with
  accessFlags := 49
  interfaces := #[]
  cf := some (fileOf pool1 39 #[] #[{ accessFlags := 2, nameIndex := 5, descriptorIndex := 6, attributes := #[] }, { accessFlags := 9, nameIndex := 43, descriptorIndex := 44, attributes := #[] }] 49 2 #[] #[])
  fields := #[]
  methods := #[k1m0, k1m1]
  instanceTypes := #[]
  staticTypes := #[]
  resolved := Array.replicate 48 none
  statics := none }

def pool2 : Array CpInfo := pool [(1, .methodref 2 3), (0, .class_ 4), (0, .nameAndType 5 6), (0, u "java/lang/Object"), (0, u "<init>"), (0, u "()V"), (0, .interfaceMethodref 8 9), (0, .class_ 10), (0, .nameAndType 11 12), (0, u "java/util/List"), (0, u "of"), (0, u "()Ljava/util/List;"), (0, .fieldref 14 15), (0, .class_ 16), (0, .nameAndType 17 18), (0, u "evenkeel/client/Window"), (0, u "committedAhead"), (0, u "Ljava/util/List;"), (0, .class_ 20), (0, u "java/util/BitSet"), (0, .methodref 19 3), (0, .fieldref 14 23), (0, .nameAndType 24 25), (0, u "finished"), (0, u "Ljava/util/BitSet;"), (0, .long 18446744073709551615), (1, .fieldref 14 29), (0, .nameAndType 30 31), (0, u "restart"), (0, u "J"), (0, .fieldref 14 33), (0, .nameAndType 34 25), (0, u "left"), (0, .fieldref 14 36), (0, .nameAndType 37 38), (0, u "size"), (0, u "I"), (0, .methodref 40 41), (0, .class_ 42), (0, .nameAndType 43 44), (0, u "evenkeel/model/CommittedOffset"), (0, u "next"), (0, u "()J"), (0, .fieldref 14 46), (0, .nameAndType 47 31), (0, u "committed"), (0, .fieldref 14 49), (0, .nameAndType 50 31), (0, u "unfinished"), (0, .fieldref 14 52), (0, .nameAndType 43 31), (0, .methodref 40 54), (0, .nameAndType 55 12), (0, u "ahead"), (0, .fieldref 14 57), (0, .nameAndType 58 18), (0, u "consumed"), (0, .methodref 40 60), (0, .nameAndType 61 12), (0, u "failed"), (0, .fieldref 14 63), (0, .nameAndType 64 18), (0, u "committedFailures"), (0, .interfaceMethodref 8 66), (0, .nameAndType 67 68), (0, u "isEmpty"), (0, u "()Z"), (3, .fieldref 14 73), (0, .nameAndType 74 75), (0, u "failing"), (0, u "Ljava/util/TreeMap;"), (4, .interfaceMethodref 81 82), (0, .class_ 83), (0, .nameAndType 84 68), (0, u "java/util/Iterator"), (0, u "hasNext"), (17, u "()I"), (9, .methodref 14 113), (0, .nameAndType 114 68), (0, u "allFinished"), (8, u "clear"), (0, .methodref 125 126), (0, .class_ 127), (0, .nameAndType 128 129), (0, u "java/lang/Math"), (0, u "max"), (0, u "(JJ)J"), (0, .fieldref 14 131), (0, .nameAndType 132 38), (0, u "consumedAt"), (0, .interfaceMethodref 8 134), (0, .nameAndType 37 102), (2, u "get"), (9, .methodref 14 148), (0, .nameAndType 149 150), (0, u "finish"), (0, u "(J)Z"), (0, .methodref 14 152), (0, .nameAndType 153 150), (0, u "inHand"), (0, .methodref 14 155), (0, .nameAndType 156 157), (0, u "bit"), (0, u "(J)I"), (0, .methodref 19 159), (0, .nameAndType 160 161), (0, u "set"), (0, u "(I)V"), (6, .methodref 19 66), (0, .methodref 19 170), (0, .nameAndType 137 171), (0, u "(I)Z"), (0, .methodref 19 173), (0, .nameAndType 123 161), (5, .methodref 14 180), (0, .nameAndType 181 150), (0, u "skip"), (51, u "(ILevenkeel/model/CommittedOffset;)V"), (4, u "roomOnceCommitted"), (0, u "take")] 17

def k2c0 : Code := { maxStack := 3, maxLocals := 5, code := prog_141_method_1_code, exceptionTable := #[], attributes := #[] }
def k2m0 : Method := { name := "<init>", desc := "(ILevenkeel/model/CommittedOffset;)V", sig := { parameters := [.int, (.object "evenkeel/model/CommittedOffset")], returnType := none }, accessFlags := 0, code := some k2c0 }
def k2c1 : Code := { maxStack := 6, maxLocals := 1, code := prog_141_method_4_code, exceptionTable := #[], attributes := #[] }
def k2m1 : Method := { name := "roomOnceCommitted", desc := "()I", sig := { parameters := [], returnType := some .int }, accessFlags := 0, code := some k2c1 }
def k2c2 : Code := { maxStack := 5, maxLocals := 3, code := prog_141_method_5_code, exceptionTable := #[], attributes := #[] }
def k2m2 : Method := { name := "skip", desc := "(J)Z", sig := { parameters := [.long], returnType := some .boolean }, accessFlags := 0, code := some k2c2 }
def k2c3 : Code := { maxStack := 7, maxLocals := 4, code := prog_141_method_6_code, exceptionTable := #[], attributes := #[] }
def k2m3 : Method := { name := "take", desc := "()Z", sig := { parameters := [], returnType := some .boolean }, accessFlags := 0, code := some k2c3 }
def k2c4 : Code := { maxStack := 5, maxLocals := 3, code := prog_141_method_11_code, exceptionTable := #[], attributes := #[] }
def k2m4 : Method := { name := "finish", desc := "(J)Z", sig := { parameters := [.long], returnType := some .boolean }, accessFlags := 0, code := some k2c4 }
def k2c5 : Code := { maxStack := 4, maxLocals := 3, code := prog_141_method_12_code, exceptionTable := #[], attributes := #[] }
def k2m5 : Method := { name := "inHand", desc := "(J)Z", sig := { parameters := [.long], returnType := some .boolean }, accessFlags := 2, code := some k2c5 }
def k2c6 : Code := { maxStack := 4, maxLocals := 1, code := prog_141_method_20_code, exceptionTable := #[], attributes := #[] }
def k2m6 : Method := { name := "allFinished", desc := "()Z", sig := { parameters := [], returnType := some .boolean }, accessFlags := 2, code := some k2c6 }
def k2c7 : Code := { maxStack := 4, maxLocals := 3, code := prog_141_method_23_code, exceptionTable := #[], attributes := #[] }
def k2m7 : Method := { name := "bit", desc := "(J)I", sig := { parameters := [.long], returnType := some .int }, accessFlags := 2, code := some k2c7 }
/-- evenkeel/client/Window -/
def k2 : Class := { plain "evenkeel/client/Window" (some 0) with
  accessFlags := 48
  interfaces := #[]
  cf := some (fileOf pool2 14 #[] #[{ accessFlags := 0, nameIndex := 5, descriptorIndex := 233, attributes := #[] }, { accessFlags := 0, nameIndex := 238, descriptorIndex := 102, attributes := #[] }, { accessFlags := 0, nameIndex := 181, descriptorIndex := 150, attributes := #[] }, { accessFlags := 0, nameIndex := 239, descriptorIndex := 68, attributes := #[] }, { accessFlags := 0, nameIndex := 149, descriptorIndex := 150, attributes := #[] }, { accessFlags := 2, nameIndex := 153, descriptorIndex := 150, attributes := #[] }, { accessFlags := 2, nameIndex := 114, descriptorIndex := 68, attributes := #[] }, { accessFlags := 2, nameIndex := 156, descriptorIndex := 157, attributes := #[] }] 48 2 #[] #[{ accessFlags := 18, nameIndex := 37, descriptorIndex := 38, attributes := #[] }, { accessFlags := 2, nameIndex := 47, descriptorIndex := 31, attributes := #[] }, { accessFlags := 2, nameIndex := 17, descriptorIndex := 18, attributes := #[] }, { accessFlags := 2, nameIndex := 50, descriptorIndex := 31, attributes := #[] }, { accessFlags := 2, nameIndex := 43, descriptorIndex := 31, attributes := #[] }, { accessFlags := 18, nameIndex := 24, descriptorIndex := 25, attributes := #[] }, { accessFlags := 2, nameIndex := 30, descriptorIndex := 31, attributes := #[] }, { accessFlags := 18, nameIndex := 58, descriptorIndex := 18, attributes := #[] }, { accessFlags := 2, nameIndex := 132, descriptorIndex := 38, attributes := #[] }, { accessFlags := 18, nameIndex := 34, descriptorIndex := 25, attributes := #[] }, { accessFlags := 2, nameIndex := 74, descriptorIndex := 75, attributes := #[] }, { accessFlags := 2, nameIndex := 64, descriptorIndex := 18, attributes := #[] }])
  fields := #[{ name := "size", type := .int, accessFlags := 18, slot := 0, constantValue := 0 }, { name := "committed", type := .long, accessFlags := 2, slot := 1, constantValue := 0 }, { name := "committedAhead", type := (.object "java/util/List"), accessFlags := 2, slot := 2, constantValue := 0 }, { name := "unfinished", type := .long, accessFlags := 2, slot := 3, constantValue := 0 }, { name := "next", type := .long, accessFlags := 2, slot := 4, constantValue := 0 }, { name := "finished", type := (.object "java/util/BitSet"), accessFlags := 18, slot := 5, constantValue := 0 }, { name := "restart", type := .long, accessFlags := 2, slot := 6, constantValue := 0 }, { name := "consumed", type := (.object "java/util/List"), accessFlags := 18, slot := 7, constantValue := 0 }, { name := "consumedAt", type := .int, accessFlags := 2, slot := 8, constantValue := 0 }, { name := "left", type := (.object "java/util/BitSet"), accessFlags := 18, slot := 9, constantValue := 0 }, { name := "failing", type := (.object "java/util/TreeMap"), accessFlags := 2, slot := 10, constantValue := 0 }, { name := "committedFailures", type := (.object "java/util/List"), accessFlags := 2, slot := 11, constantValue := 0 }]
  methods := #[k2m0, k2m1, k2m2, k2m3, k2m4, k2m5, k2m6, k2m7]
  instanceTypes := #[.int, .long, (.object "java/util/List"), .long, .long, (.object "java/util/BitSet"), .long, (.object "java/util/List"), .int, (.object "java/util/BitSet"), (.object "java/util/TreeMap"), (.object "java/util/List")]
  staticTypes := #[]
  resolved := Array.replicate 257 none
  statics := none }

def pool3 : Array CpInfo := pool [(1, .methodref 2 3), (0, .class_ 4), (0, .nameAndType 5 6), (0, u "java/lang/Object"), (0, u "<init>"), (0, u "()V"), (0, .class_ 8), (0, u "java/lang/Record")] 13

def k3c0 : Code := { maxStack := 1, maxLocals := 1, code := jdk_30_method_1_code, exceptionTable := #[], attributes := #[] }
def k3m0 : Method := { name := "<init>", desc := "()V", sig := { parameters := [], returnType := none }, accessFlags := 4, code := some k3c0 }
/-- java/lang/Record -/
def k3 : Class := { plain "java/lang/Record" (some 0) with
  accessFlags := 1057
  interfaces := #[]
  cf := some (fileOf pool3 7 #[] #[{ accessFlags := 4, nameIndex := 5, descriptorIndex := 6, attributes := #[] }] 1057 2 #[] #[])
  fields := #[]
  methods := #[k3m0]
  instanceTypes := #[]
  staticTypes := #[]
  resolved := Array.replicate 22 none
  statics := none }

def pool4 : Array CpInfo := pool [(1, .methodref 2 3), (0, .class_ 4), (0, .nameAndType 5 6), (0, u "java/lang/Record"), (0, u "<init>"), (0, u "()V"), (0, .interfaceMethodref 8 9), (0, .class_ 10), (0, .nameAndType 11 12), (0, u "java/util/List"), (0, u "copyOf"), (0, u "(Ljava/util/Collection;)Ljava/util/List;"), (0, .interfaceMethodref 8 14), (0, .nameAndType 15 16), (0, u "iterator"), (0, u "()Ljava/util/Iterator;"), (0, .interfaceMethodref 18 19), (0, .class_ 20), (0, .nameAndType 21 22), (0, u "java/util/Iterator"), (0, u "hasNext"), (0, u "()Z"), (2, u "next"), (1, .class_ 28), (0, u "evenkeel/model/CommittedOffset$Span"), (1, .class_ 32), (1, u "evenkeel/model/CommittedOffset"), (2, .class_ 36), (0, u "evenkeel/model/CommittedOffset$Failed"), (4, .fieldref 30 42), (0, .nameAndType 43 44), (0, u "queue"), (0, u "Levenkeel/model/TopicQueue;"), (0, .fieldref 30 46), (0, .nameAndType 25 47), (0, u "J"), (0, .fieldref 30 49), (0, .nameAndType 50 51), (0, u "ahead"), (0, u "Ljava/util/List;"), (0, .fieldref 30 53), (0, .nameAndType 54 51), (0, u "failed"), (3, u "()J"), (34, .interfaceMethodref 8 94), (0, .nameAndType 95 96), (0, u "of"), (0, u "()Ljava/util/List;"), (0, .methodref 30 98), (0, .nameAndType 5 99), (0, u "(Levenkeel/model/TopicQueue;JLjava/util/List;Ljava/util/List;)V"), (97, u "(Levenkeel/model/TopicQueue;J)V")] 67

def k4c0 : Code := { maxStack := 6, maxLocals := 12, code := prog_145_method_1_code, exceptionTable := #[], attributes := #[] }
def k4m0 : Method := { name := "<init>", desc := "(Levenkeel/model/TopicQueue;JLjava/util/List;Ljava/util/List;)V", sig := { parameters := [(.object "evenkeel/model/TopicQueue"), .long, (.object "java/util/List"), (.object "java/util/List")], returnType := none }, accessFlags := 1, code := some k4c0 }
def k4c1 : Code := { maxStack := 6, maxLocals := 4, code := prog_145_method_2_code, exceptionTable := #[], attributes := #[] }
def k4m1 : Method := { name := "<init>", desc := "(Levenkeel/model/TopicQueue;J)V", sig := { parameters := [(.object "evenkeel/model/TopicQueue"), .long], returnType := none }, accessFlags := 1, code := some k4c1 }
def k4c2 : Code := { maxStack := 2, maxLocals := 1, code := prog_145_method_17_code, exceptionTable := #[], attributes := #[] }
def k4m2 : Method := { name := "next", desc := "()J", sig := { parameters := [], returnType := some .long }, accessFlags := 1, code := some k4c2 }
def k4c3 : Code := { maxStack := 1, maxLocals := 1, code := prog_145_method_18_code, exceptionTable := #[], attributes := #[] }
def k4m3 : Method := { name := "ahead", desc := "()Ljava/util/List;", sig := { parameters := [], returnType := some (.object "java/util/List") }, accessFlags := 1, code := some k4c3 }
def k4c4 : Code := { maxStack := 1, maxLocals := 1, code := prog_145_method_19_code, exceptionTable := #[], attributes := #[] }
def k4m4 : Method := { name := "failed", desc := "()Ljava/util/List;", sig := { parameters := [], returnType := some (.object "java/util/List") }, accessFlags := 1, code := some k4c4 }
/-- evenkeel/model/CommittedOffset -/
def k4 : Class := { plain "evenkeel/model/CommittedOffset" (some 3) with
  accessFlags := 49
  interfaces := #[]
  cf := some (fileOf pool4 30 #[.nestMembers #[35, 27]] #[{ accessFlags := 1, nameIndex := 5, descriptorIndex := 99, attributes := #[] }, { accessFlags := 1, nameIndex := 5, descriptorIndex := 197, attributes := #[] }, { accessFlags := 1, nameIndex := 25, descriptorIndex := 58, attributes := #[] }, { accessFlags := 1, nameIndex := 50, descriptorIndex := 96, attributes := #[] }, { accessFlags := 1, nameIndex := 54, descriptorIndex := 96, attributes := #[] }] 49 2 #[] #[{ accessFlags := 18, nameIndex := 43, descriptorIndex := 44, attributes := #[] }, { accessFlags := 18, nameIndex := 25, descriptorIndex := 47, attributes := #[] }, { accessFlags := 18, nameIndex := 50, descriptorIndex := 51, attributes := #[] }, { accessFlags := 18, nameIndex := 54, descriptorIndex := 51, attributes := #[] }])
  fields := #[{ name := "queue", type := (.object "evenkeel/model/TopicQueue"), accessFlags := 18, slot := 0, constantValue := 0 }, { name := "next", type := .long, accessFlags := 18, slot := 1, constantValue := 0 }, { name := "ahead", type := (.object "java/util/List"), accessFlags := 18, slot := 2, constantValue := 0 }, { name := "failed", type := (.object "java/util/List"), accessFlags := 18, slot := 3, constantValue := 0 }]
  methods := #[k4m0, k4m1, k4m2, k4m3, k4m4]
  instanceTypes := #[(.object "evenkeel/model/TopicQueue"), .long, (.object "java/util/List"), (.object "java/util/List")]
  staticTypes := #[]
  resolved := Array.replicate 265 none
  statics := none }

def pool5 : Array CpInfo := pool [(8, .class_ 10), (1, u "java/lang/Iterable"), (24, .class_ 36), (0, u "java/lang/Object")] 25

/-- java/lang/Iterable -/
def k5 : Class := { plain "java/lang/Iterable" (some 0) with
  accessFlags := 1537
  interfaces := #[]
  cf := some (fileOf pool5 8 #[] #[] 1537 35 #[] #[])
  fields := #[]
  methods := #[]
  instanceTypes := #[]
  staticTypes := #[]
  resolved := Array.replicate 62 none
  statics := none }

def pool6 : Array CpInfo := pool [(10, .class_ 12), (1, u "java/util/Collection"), (47, .class_ 61), (0, u "java/lang/Object"), (0, .class_ 63), (0, u "java/lang/Iterable")] 51

/-- java/util/Collection -/
def k6 : Class := { plain "java/util/Collection" (some 0) with
  accessFlags := 1537
  interfaces := #[5]
  cf := some (fileOf pool6 10 #[] #[] 1537 60 #[62] #[])
  fields := #[]
  methods := #[]
  instanceTypes := #[]
  staticTypes := #[]
  resolved := Array.replicate 115 none
  statics := none }

def pool7 : Array CpInfo := pool [(8, .class_ 10), (1, u "java/util/SequencedCollection"), (15, .class_ 27), (0, u "java/lang/Object"), (0, .class_ 29), (0, u "java/util/Collection")] 27

/-- java/util/SequencedCollection -/
def k7 : Class := { plain "java/util/SequencedCollection" (some 0) with
  accessFlags := 1537
  interfaces := #[6]
  cf := some (fileOf pool7 8 #[] #[] 1537 26 #[28] #[])
  fields := #[]
  methods := #[]
  instanceTypes := #[]
  staticTypes := #[]
  resolved := Array.replicate 57 none
  statics := none }

def pool8 : Array CpInfo := pool [(8, .class_ 10), (1, u "java/util/List"), (7, u "()Z"), (48, u "isEmpty"), (11, u "size"), (0, u "()I"), (7, u "of"), (1, .fieldref 91 92), (0, .class_ 93), (0, .nameAndType 94 95), (0, u "java/util/ImmutableCollections"), (0, u "EMPTY_LIST"), (0, u "Ljava/util/ImmutableCollections$ListN;"), (7, .class_ 104), (0, u "java/lang/Object"), (7, .methodref 91 113), (0, .nameAndType 114 115), (0, u "listCopy"), (0, u "(Ljava/util/Collection;)Ljava/util/List;"), (3, u "()Ljava/util/List;"), (0, .class_ 121), (0, u "java/util/SequencedCollection"), (1, u "iterator"), (0, u "()Ljava/util/Iterator;"), (109, u "copyOf")] 16

def k8m0 : Method := { name := "size", desc := "()I", sig := { parameters := [], returnType := some .int }, accessFlags := 1025, code := none }
def k8m1 : Method := { name := "isEmpty", desc := "()Z", sig := { parameters := [], returnType := some .boolean }, accessFlags := 1025, code := none }
def k8m2 : Method := { name := "iterator", desc := "()Ljava/util/Iterator;", sig := { parameters := [], returnType := some (.object "java/util/Iterator") }, accessFlags := 1025, code := none }
def k8c3 : Code := { maxStack := 1, maxLocals := 0, code := jdk_40_method_36_code, exceptionTable := #[], attributes := #[] }
def k8m3 : Method := { name := "of", desc := "()Ljava/util/List;", sig := { parameters := [], returnType := some (.object "java/util/List") }, accessFlags := 9, code := some k8c3 }
def k8c4 : Code := { maxStack := 1, maxLocals := 1, code := jdk_40_method_48_code, exceptionTable := #[], attributes := #[] }
def k8m4 : Method := { name := "copyOf", desc := "(Ljava/util/Collection;)Ljava/util/List;", sig := { parameters := [(.object "java/util/Collection")], returnType := some (.object "java/util/List") }, accessFlags := 9, code := some k8c4 }
/-- java/util/List -/
def k8 : Class := { plain "java/util/List" (some 0) with
  accessFlags := 1537
  interfaces := #[7]
  cf := some (fileOf pool8 8 #[] #[{ accessFlags := 1025, nameIndex := 79, descriptorIndex := 80, attributes := #[] }, { accessFlags := 1025, nameIndex := 67, descriptorIndex := 18, attributes := #[] }, { accessFlags := 1025, nameIndex := 123, descriptorIndex := 124, attributes := #[] }, { accessFlags := 9, nameIndex := 88, descriptorIndex := 119, attributes := #[] }, { accessFlags := 9, nameIndex := 234, descriptorIndex := 115, attributes := #[] }] 1537 103 #[120] #[])
  fields := #[]
  methods := #[k8m0, k8m1, k8m2, k8m3, k8m4]
  instanceTypes := #[]
  staticTypes := #[]
  resolved := Array.replicate 251 none
  statics := none }

def pool9 : Array CpInfo := pool [(2, .class_ 4), (1, u "java/lang/Object"), (0, u "<init>"), (0, u "()V"), (3, .class_ 11), (0, u "java/util/ImmutableCollections$List12"), (0, .class_ 13), (0, u "java/util/ImmutableCollections$ListN"), (0, .fieldref 12 15), (0, .nameAndType 16 17), (0, u "allowNulls"), (0, u "Z"), (0, .class_ 19), (0, u "java/util/List"), (27, .class_ 49), (1, u "java/util/ImmutableCollections"), (0, u "$assertionsDisabled"), (5, u "[Ljava/lang/Object;"), (5, u "EMPTY_LIST"), (0, u "Ljava/util/ImmutableCollections$ListN;"), (8, u "EMPTY_LIST_NULLS"), (22, u "SALT32L"), (0, u "J"), (2, u "REVERSE"), (6, u "archivedObjects"), (2, u "EMPTY"), (0, u "Ljava/lang/Object;"), (0, .class_ 112), (0, u "java/util/ImmutableCollections$SetN"), (5, u "EMPTY_SET"), (0, u "Ljava/util/ImmutableCollections$SetN;"), (0, .class_ 121), (0, u "java/util/ImmutableCollections$MapN"), (3, u "EMPTY_MAP"), (0, u "Ljava/util/ImmutableCollections$MapN;"), (4, u "EXPAND_FACTOR"), (0, u "I"), (9, u "listCopy"), (0, u "(Ljava/util/Collection;)Ljava/util/List;"), (25, .class_ 170), (0, u "java/util/ImmutableCollections$MapN$MapNIterator"), (0, .class_ 172), (0, u "java/util/ImmutableCollections$MapN$1"), (0, .class_ 174), (0, u "java/util/ImmutableCollections$Map1"), (0, .class_ 176), (0, u "java/util/ImmutableCollections$AbstractImmutableMap"), (0, .class_ 178), (0, u "java/util/ImmutableCollections$SetN$SetNIterator"), (0, .class_ 180), (0, u "java/util/ImmutableCollections$Set12"), (0, .class_ 182), (0, u "java/util/ImmutableCollections$Set12$1"), (0, .class_ 184), (0, u "java/util/ImmutableCollections$AbstractImmutableSet"), (0, .class_ 186), (0, u "java/util/ImmutableCollections$SubList"), (0, .class_ 188), (0, u "java/util/ImmutableCollections$ListItr"), (0, .class_ 190), (0, u "java/util/ImmutableCollections$AbstractImmutableList"), (0, .class_ 192), (0, u "java/util/ImmutableCollections$AbstractImmutableCollection"), (0, .class_ 194), (0, u "java/util/ImmutableCollections$Access"), (0, .class_ 196), (0, u "java/util/ImmutableCollections$Access$1")] 16

def k9m0 : Method := { name := "<init>", desc := "()V", sig := { parameters := [], returnType := none }, accessFlags := 2, code := none }
def k9c1 : Code := { maxStack := 1, maxLocals := 2, code := jdk_56_method_3_code, exceptionTable := #[], attributes := #[] }
def k9m1 : Method := { name := "listCopy", desc := "(Ljava/util/Collection;)Ljava/util/List;", sig := { parameters := [(.object "java/util/Collection")], returnType := some (.object "java/util/List") }, accessFlags := 8, code := some k9c1 }
/-- java/util/ImmutableCollections -/
def k9 : Class := { plain "java/util/ImmutableCollections" (some 0) with
  accessFlags := 32
  interfaces := #[]
  cf := some (fileOf pool9 47 #[.nestMembers #[120, 169, 171, 173, 175, 111, 177, 179, 181, 183, 12, 10, 185, 187, 189, 191, 193, 195]] #[{ accessFlags := 2, nameIndex := 5, descriptorIndex := 6, attributes := #[] }, { accessFlags := 8, nameIndex := 142, descriptorIndex := 143, attributes := #[] }] 32 2 #[] #[{ accessFlags := 26, nameIndex := 95, descriptorIndex := 96, attributes := #[] }, { accessFlags := 26, nameIndex := 99, descriptorIndex := 17, attributes := #[] }, { accessFlags := 10, nameIndex := 106, descriptorIndex := 56, attributes := #[] }, { accessFlags := 26, nameIndex := 109, descriptorIndex := 110, attributes := #[] }, { accessFlags := 24, nameIndex := 62, descriptorIndex := 63, attributes := #[] }, { accessFlags := 24, nameIndex := 72, descriptorIndex := 63, attributes := #[] }, { accessFlags := 24, nameIndex := 118, descriptorIndex := 119, attributes := #[] }, { accessFlags := 24, nameIndex := 125, descriptorIndex := 126, attributes := #[] }, { accessFlags := 24, nameIndex := 131, descriptorIndex := 132, attributes := #[] }, { accessFlags := 4120, nameIndex := 50, descriptorIndex := 17, attributes := #[] }])
  fields := #[{ name := "SALT32L", type := .long, accessFlags := 26, slot := 0, constantValue := 0 }, { name := "REVERSE", type := .boolean, accessFlags := 26, slot := 1, constantValue := 0 }, { name := "archivedObjects", type := (.array (.object "java/lang/Object")), accessFlags := 10, slot := 2, constantValue := 0 }, { name := "EMPTY", type := (.object "java/lang/Object"), accessFlags := 26, slot := 3, constantValue := 0 }, { name := "EMPTY_LIST", type := (.object "java/util/ImmutableCollections$ListN"), accessFlags := 24, slot := 4, constantValue := 0 }, { name := "EMPTY_LIST_NULLS", type := (.object "java/util/ImmutableCollections$ListN"), accessFlags := 24, slot := 5, constantValue := 0 }, { name := "EMPTY_SET", type := (.object "java/util/ImmutableCollections$SetN"), accessFlags := 24, slot := 6, constantValue := 0 }, { name := "EMPTY_MAP", type := (.object "java/util/ImmutableCollections$MapN"), accessFlags := 24, slot := 7, constantValue := 0 }, { name := "EXPAND_FACTOR", type := .int, accessFlags := 24, slot := 8, constantValue := 0 }, { name := "$assertionsDisabled", type := .boolean, accessFlags := 4120, slot := 9, constantValue := 0 }]
  methods := #[k9m0, k9m1]
  instanceTypes := #[]
  staticTypes := #[.long, .boolean, (.array (.object "java/lang/Object")), (.object "java/lang/Object"), (.object "java/util/ImmutableCollections$ListN"), (.object "java/util/ImmutableCollections$ListN"), (.object "java/util/ImmutableCollections$SetN"), (.object "java/util/ImmutableCollections$MapN"), .int, .boolean]
  resolved := Array.replicate 213 none
  statics := some 0 }

def pool10 : Array CpInfo := pool [(2, .class_ 4), (1, u "java/lang/Object"), (0, u "<init>"), (0, u "()V"), (1, .class_ 10), (1, u "java/util/AbstractCollection"), (0, u "size"), (0, u "()I"), (64, .class_ 78), (0, u "java/util/Collection")] 81

def k10m0 : Method := { name := "<init>", desc := "()V", sig := { parameters := [], returnType := none }, accessFlags := 4, code := none }
def k10m1 : Method := { name := "size", desc := "()I", sig := { parameters := [], returnType := some .int }, accessFlags := 1025, code := none }
/-- java/util/AbstractCollection -/
def k10 : Class := { plain "java/util/AbstractCollection" (some 0) with
  accessFlags := 1057
  interfaces := #[6]
  cf := some (fileOf pool10 8 #[] #[{ accessFlags := 4, nameIndex := 5, descriptorIndex := 6, attributes := #[] }, { accessFlags := 1025, nameIndex := 11, descriptorIndex := 12, attributes := #[] }] 1057 2 #[77] #[])
  fields := #[]
  methods := #[k10m0, k10m1]
  instanceTypes := #[]
  staticTypes := #[]
  resolved := Array.replicate 160 none
  statics := none }

def pool11 : Array CpInfo := pool [(2, .class_ 4), (1, u "java/util/AbstractCollection"), (0, u "<init>"), (0, u "()V"), (1, .class_ 10), (1, u "java/util/ImmutableCollections"), (2, .class_ 14), (0, u "java/util/ImmutableCollections$AbstractImmutableCollection")] 41

def k11m0 : Method := { name := "<init>", desc := "()V", sig := { parameters := [], returnType := none }, accessFlags := 0, code := none }
/-- java/util/ImmutableCollections$AbstractImmutableCollection -/
def k11 : Class := { plain "java/util/ImmutableCollections$AbstractImmutableCollection" (some 10) with
  accessFlags := 1056
  interfaces := #[]
  cf := some (fileOf pool11 13 #[.nestHost 8] #[{ accessFlags := 0, nameIndex := 5, descriptorIndex := 6, attributes := #[] }] 1056 2 #[] #[])
  fields := #[]
  methods := #[k11m0]
  instanceTypes := #[]
  staticTypes := #[]
  resolved := Array.replicate 56 none
  statics := none }

def pool12 : Array CpInfo := pool [(1, .class_ 2), (0, u "java/util/RandomAccess"), (0, .class_ 4), (0, u "java/lang/Object")] 2

/-- java/util/RandomAccess -/
def k12 : Class := { plain "java/util/RandomAccess" (some 0) with
  accessFlags := 1537
  interfaces := #[]
  cf := some (fileOf pool12 1 #[] #[] 1537 3 #[] #[])
  fields := #[]
  methods := #[]
  instanceTypes := #[]
  staticTypes := #[]
  resolved := Array.replicate 7 none
  statics := none }

def pool13 : Array CpInfo := pool [(2, .class_ 4), (1, u "java/util/ImmutableCollections$AbstractImmutableCollection"), (0, u "<init>"), (0, u "()V"), (1, .class_ 10), (1, u "java/util/ImmutableCollections"), (2, .methodref 14 15), (0, .class_ 16), (0, .nameAndType 17 18), (0, u "java/util/ImmutableCollections$AbstractImmutableList"), (0, u "size"), (0, u "()I"), (42, .class_ 62), (0, u "java/util/ImmutableCollections$ListItr"), (0, .methodref 61 64), (0, .nameAndType 5 65), (0, u "(Ljava/util/List;I)V"), (11, .class_ 78), (0, u "java/util/List"), (2, u "iterator"), (0, u "()Ljava/util/Iterator;"), (41, .class_ 125), (0, u "java/util/RandomAccess")] 70

def k13m0 : Method := { name := "<init>", desc := "()V", sig := { parameters := [], returnType := none }, accessFlags := 0, code := none }
def k13c1 : Code := { maxStack := 4, maxLocals := 1, code := jdk_46_method_10_code, exceptionTable := #[], attributes := #[] }
def k13m1 : Method := { name := "iterator", desc := "()Ljava/util/Iterator;", sig := { parameters := [], returnType := some (.object "java/util/Iterator") }, accessFlags := 1, code := some k13c1 }
/-- java/util/ImmutableCollections$AbstractImmutableList -/
def k13 : Class := { plain "java/util/ImmutableCollections$AbstractImmutableList" (some 11) with
  accessFlags := 1056
  interfaces := #[8, 12]
  cf := some (fileOf pool13 14 #[.nestHost 8] #[{ accessFlags := 0, nameIndex := 5, descriptorIndex := 6, attributes := #[] }, { accessFlags := 1, nameIndex := 81, descriptorIndex := 82, attributes := #[] }] 1056 2 #[77, 124] #[])
  fields := #[]
  methods := #[k13m0, k13m1]
  instanceTypes := #[]
  staticTypes := #[]
  resolved := Array.replicate 196 none
  statics := none }

def pool14 : Array CpInfo := pool [(1, .class_ 2), (0, u "java/io/Serializable"), (0, .class_ 4), (0, u "java/lang/Object")] 2

/-- java/io/Serializable -/
def k14 : Class := { plain "java/io/Serializable" (some 0) with
  accessFlags := 1537
  interfaces := #[]
  cf := some (fileOf pool14 1 #[] #[] 1537 3 #[] #[])
  fields := #[]
  methods := #[]
  instanceTypes := #[]
  staticTypes := #[]
  resolved := Array.replicate 7 none
  statics := none }

def pool15 : Array CpInfo := pool [(2, .class_ 4), (1, u "java/util/ImmutableCollections$AbstractImmutableList"), (9, .class_ 16), (1, u "java/util/ImmutableCollections$List12"), (0, u "e0"), (0, u "Ljava/lang/Object;"), (1, .class_ 22), (1, u "java/util/ImmutableCollections"), (3, u "e1"), (43, .class_ 71), (0, u "java/io/Serializable")] 53

/-- java/util/ImmutableCollections$List12 -/
def k15 : Class := { plain "java/util/ImmutableCollections$List12" (some 13) with
  accessFlags := 48
  interfaces := #[14]
  cf := some (fileOf pool15 14 #[.nestHost 20] #[] 48 2 #[70] #[{ accessFlags := 18, nameIndex := 17, descriptorIndex := 18, attributes := #[] }, { accessFlags := 18, nameIndex := 26, descriptorIndex := 18, attributes := #[] }])
  fields := #[{ name := "e0", type := (.object "java/lang/Object"), accessFlags := 18, slot := 0, constantValue := 0 }, { name := "e1", type := (.object "java/lang/Object"), accessFlags := 18, slot := 1, constantValue := 0 }]
  methods := #[]
  instanceTypes := #[(.object "java/lang/Object"), (.object "java/lang/Object")]
  staticTypes := #[]
  resolved := Array.replicate 125 none
  statics := none }

def pool16 : Array CpInfo := pool [(2, .class_ 4), (1, u "java/util/ImmutableCollections$AbstractImmutableList"), (2, .fieldref 8 9), (0, .class_ 10), (0, .nameAndType 11 12), (0, u "java/util/ImmutableCollections$ListN"), (0, u "elements"), (0, u "[Ljava/lang/Object;"), (2, u "allowNulls"), (0, u "Z"), (42, .class_ 60), (0, u "java/io/Serializable"), (13, u "isEmpty"), (0, u "()Z"), (1, u "size"), (0, u "()I"), (35, .class_ 115), (0, u "java/util/ImmutableCollections")] 3

def k16c0 : Code := { maxStack := 1, maxLocals := 1, code := jdk_45_method_2_code, exceptionTable := #[], attributes := #[] }
def k16m0 : Method := { name := "isEmpty", desc := "()Z", sig := { parameters := [], returnType := some .boolean }, accessFlags := 1, code := some k16c0 }
def k16c1 : Code := { maxStack := 1, maxLocals := 1, code := jdk_45_method_3_code, exceptionTable := #[], attributes := #[] }
def k16m1 : Method := { name := "size", desc := "()I", sig := { parameters := [], returnType := some .int }, accessFlags := 1, code := some k16c1 }
/-- java/util/ImmutableCollections$ListN -/
def k16 : Class := { plain "java/util/ImmutableCollections$ListN" (some 13) with
  accessFlags := 48
  interfaces := #[14]
  cf := some (fileOf pool16 8 #[.nestHost 114] #[{ accessFlags := 1, nameIndex := 74, descriptorIndex := 75, attributes := #[] }, { accessFlags := 1, nameIndex := 77, descriptorIndex := 78, attributes := #[] }] 48 2 #[59] #[{ accessFlags := 18, nameIndex := 11, descriptorIndex := 12, attributes := #[] }, { accessFlags := 18, nameIndex := 15, descriptorIndex := 16, attributes := #[] }])
  fields := #[{ name := "elements", type := (.array (.object "java/lang/Object")), accessFlags := 18, slot := 0, constantValue := 0 }, { name := "allowNulls", type := .boolean, accessFlags := 18, slot := 1, constantValue := 0 }]
  methods := #[k16m0, k16m1]
  instanceTypes := #[(.array (.object "java/lang/Object")), .boolean]
  staticTypes := #[]
  resolved := Array.replicate 119 none
  statics := none }

def pool17 : Array CpInfo := pool [(16, .class_ 18), (1, u "java/util/Iterator"), (0, u "hasNext"), (0, u "()Z"), (10, .class_ 32), (0, u "java/lang/Object")] 20

def k17m0 : Method := { name := "hasNext", desc := "()Z", sig := { parameters := [], returnType := some .boolean }, accessFlags := 1025, code := none }
/-- java/util/Iterator -/
def k17 : Class := { plain "java/util/Iterator" (some 0) with
  accessFlags := 1537
  interfaces := #[]
  cf := some (fileOf pool17 16 #[] #[{ accessFlags := 1025, nameIndex := 19, descriptorIndex := 20, attributes := #[] }] 1537 31 #[] #[])
  fields := #[]
  methods := #[k17m0]
  instanceTypes := #[]
  staticTypes := #[]
  resolved := Array.replicate 53 none
  statics := none }

def pool18 : Array CpInfo := pool [(1, .class_ 2), (0, u "java/util/ListIterator"), (0, .class_ 4), (0, u "java/lang/Object"), (0, .class_ 6), (0, u "java/util/Iterator")] 20

/-- java/util/ListIterator -/
def k18 : Class := { plain "java/util/ListIterator" (some 0) with
  accessFlags := 1537
  interfaces := #[17]
  cf := some (fileOf pool18 1 #[] #[] 1537 3 #[5] #[])
  fields := #[]
  methods := #[]
  instanceTypes := #[]
  staticTypes := #[]
  resolved := Array.replicate 27 none
  statics := none }

def pool19 : Array CpInfo := pool [(1, .methodref 2 3), (0, .class_ 4), (0, .nameAndType 5 6), (0, u "java/lang/Object"), (0, u "<init>"), (0, u "()V"), (0, .fieldref 8 9), (0, .class_ 10), (0, .nameAndType 11 12), (0, u "java/util/ImmutableCollections$ListItr"), (0, u "list"), (0, u "Ljava/util/List;"), (0, .fieldref 8 14), (0, .nameAndType 15 16), (0, u "size"), (0, u "I"), (0, .fieldref 8 18), (0, .nameAndType 19 16), (0, u "cursor"), (0, .fieldref 8 21), (0, .nameAndType 22 23), (0, u "isListIterator"), (0, u "Z"), (12, .class_ 38), (1, u "java/util/ImmutableCollections"), (2, .class_ 42), (0, u "java/util/ListIterator"), (4, u "(Ljava/util/List;I)V"), (11, u "hasNext"), (0, u "()Z")] 25

def k19c0 : Code := { maxStack := 2, maxLocals := 3, code := jdk_53_method_1_code, exceptionTable := #[], attributes := #[] }
def k19m0 : Method := { name := "<init>", desc := "(Ljava/util/List;I)V", sig := { parameters := [(.object "java/util/List"), .int], returnType := none }, accessFlags := 0, code := some k19c0 }
def k19c1 : Code := { maxStack := 2, maxLocals := 1, code := jdk_53_method_3_code, exceptionTable := #[], attributes := #[] }
def k19m1 : Method := { name := "hasNext", desc := "()Z", sig := { parameters := [], returnType := some .boolean }, accessFlags := 1, code := some k19c1 }
/-- java/util/ImmutableCollections$ListItr -/
def k19 : Class := { plain "java/util/ImmutableCollections$ListItr" (some 0) with
  accessFlags := 48
  interfaces := #[18]
  cf := some (fileOf pool19 8 #[.nestHost 36] #[{ accessFlags := 0, nameIndex := 5, descriptorIndex := 47, attributes := #[] }, { accessFlags := 1, nameIndex := 59, descriptorIndex := 60, attributes := #[] }] 48 2 #[41] #[{ accessFlags := 18, nameIndex := 11, descriptorIndex := 12, attributes := #[] }, { accessFlags := 18, nameIndex := 15, descriptorIndex := 16, attributes := #[] }, { accessFlags := 18, nameIndex := 22, descriptorIndex := 23, attributes := #[] }, { accessFlags := 2, nameIndex := 19, descriptorIndex := 16, attributes := #[] }])
  fields := #[{ name := "list", type := (.object "java/util/List"), accessFlags := 18, slot := 0, constantValue := 0 }, { name := "size", type := .int, accessFlags := 18, slot := 1, constantValue := 0 }, { name := "isListIterator", type := .boolean, accessFlags := 18, slot := 2, constantValue := 0 }, { name := "cursor", type := .int, accessFlags := 2, slot := 3, constantValue := 0 }]
  methods := #[k19m0, k19m1]
  instanceTypes := #[(.object "java/util/List"), .int, .boolean, .int]
  staticTypes := #[]
  resolved := Array.replicate 86 none
  statics := none }

def pool20 : Array CpInfo := pool [(1, .class_ 2), (0, u "java/lang/Cloneable"), (0, .class_ 4), (0, u "java/lang/Object")] 2

/-- java/lang/Cloneable -/
def k20 : Class := { plain "java/lang/Cloneable" (some 0) with
  accessFlags := 1537
  interfaces := #[]
  cf := some (fileOf pool20 1 #[] #[] 1537 3 #[] #[])
  fields := #[]
  methods := #[]
  instanceTypes := #[]
  staticTypes := #[]
  resolved := Array.replicate 7 none
  statics := none }

def pool21 : Array CpInfo := pool [(1, .class_ 2), (0, u "java/util/BitSet"), (0, .fieldref 1 4), (0, .nameAndType 5 6), (0, u "$assertionsDisabled"), (0, u "Z"), (0, .fieldref 1 8), (0, .nameAndType 9 10), (0, u "wordsInUse"), (0, u "I"), (0, .fieldref 1 12), (0, .nameAndType 13 14), (0, u "words"), (0, u "[J"), (3, .nameAndType 19 20), (0, u "<init>"), (0, u "()V"), (0, .methodref 22 18), (0, .class_ 23), (0, u "java/lang/Object"), (0, .fieldref 1 25), (0, .nameAndType 26 6), (0, u "sizeIsSticky"), (0, .methodref 1 28), (0, .nameAndType 29 30), (0, u "initWords"), (0, u "(I)V"), (21, .methodref 1 53), (0, .nameAndType 54 55), (0, u "wordIndex"), (0, u "(I)I"), (0, .methodref 1 57), (0, .nameAndType 58 20), (0, u "checkInvariants"), (21, u "get"), (58, .methodref 1 140), (0, .nameAndType 141 30), (0, u "ensureCapacity"), (13, .methodref 1 156), (0, .nameAndType 157 30), (0, u "expandTo"), (0, .methodref 1 159), (0, .nameAndType 160 20), (0, u "recalculateWordsInUse"), (4, .long 18446744073709551615), (3, u "set"), (2, u "clear"), (96, .class_ 270), (0, u "java/util/BitSet$1BitSetSpliterator"), (14, u "()Z"), (7, u "serialPersistentFields"), (0, u "[Ljava/io/ObjectStreamField;"), (0, .class_ 296), (0, u "java/lang/Cloneable"), (0, .class_ 298), (0, u "java/io/Serializable"), (0, u "ADDRESS_BITS_PER_WORD"), (2, u "BITS_PER_WORD"), (1, u "BIT_INDEX_MASK"), (1, u "WORD_MASK"), (0, u "J"), (0, u "serialVersionUID"), (42, u "(I)Z"), (9, u "isEmpty")] 55

def k21c0 : Code := { maxStack := 2, maxLocals := 1, code := jdk_92_method_1_code, exceptionTable := #[], attributes := #[] }
def k21m0 : Method := { name := "wordIndex", desc := "(I)I", sig := { parameters := [.int], returnType := some .int }, accessFlags := 10, code := some k21c0 }
def k21c1 : Code := { maxStack := 4, maxLocals := 1, code := jdk_92_method_2_code, exceptionTable := #[], attributes := #[] }
def k21m1 : Method := { name := "checkInvariants", desc := "()V", sig := { parameters := [], returnType := none }, accessFlags := 2, code := some k21c1 }
def k21c2 : Code := { maxStack := 4, maxLocals := 2, code := jdk_92_method_3_code, exceptionTable := #[], attributes := #[] }
def k21m2 : Method := { name := "recalculateWordsInUse", desc := "()V", sig := { parameters := [], returnType := none }, accessFlags := 2, code := some k21c2 }
def k21c3 : Code := { maxStack := 2, maxLocals := 1, code := jdk_92_method_4_code, exceptionTable := #[], attributes := #[] }
def k21m3 : Method := { name := "<init>", desc := "()V", sig := { parameters := [], returnType := none }, accessFlags := 1, code := some k21c3 }
def k21c4 : Code := { maxStack := 3, maxLocals := 2, code := jdk_92_method_6_code, exceptionTable := #[], attributes := #[] }
def k21m4 : Method := { name := "initWords", desc := "(I)V", sig := { parameters := [.int], returnType := none }, accessFlags := 2, code := some k21c4 }
def k21c5 : Code := { maxStack := 3, maxLocals := 3, code := jdk_92_method_14_code, exceptionTable := #[], attributes := #[] }
def k21m5 : Method := { name := "ensureCapacity", desc := "(I)V", sig := { parameters := [.int], returnType := none }, accessFlags := 2, code := some k21c5 }
def k21c6 : Code := { maxStack := 2, maxLocals := 3, code := jdk_92_method_15_code, exceptionTable := #[], attributes := #[] }
def k21m6 : Method := { name := "expandTo", desc := "(I)V", sig := { parameters := [.int], returnType := none }, accessFlags := 2, code := some k21c6 }
def k21c7 : Code := { maxStack := 7, maxLocals := 3, code := jdk_92_method_19_code, exceptionTable := #[], attributes := #[] }
def k21m7 : Method := { name := "set", desc := "(I)V", sig := { parameters := [.int], returnType := none }, accessFlags := 1, code := some k21c7 }
def k21c8 : Code := { maxStack := 8, maxLocals := 3, code := jdk_92_method_23_code, exceptionTable := #[], attributes := #[] }
def k21m8 : Method := { name := "clear", desc := "(I)V", sig := { parameters := [.int], returnType := none }, accessFlags := 1, code := some k21c8 }
def k21c9 : Code := { maxStack := 5, maxLocals := 3, code := jdk_92_method_26_code, exceptionTable := #[], attributes := #[] }
def k21m9 : Method := { name := "get", desc := "(I)Z", sig := { parameters := [.int], returnType := some .boolean }, accessFlags := 1, code := some k21c9 }
def k21c10 : Code := { maxStack := 1, maxLocals := 1, code := jdk_92_method_33_code, exceptionTable := #[], attributes := #[] }
def k21m10 : Method := { name := "isEmpty", desc := "()Z", sig := { parameters := [], returnType := some .boolean }, accessFlags := 1, code := some k21c10 }
/-- java/util/BitSet -/
def k21 : Class := { plain "java/util/BitSet" (some 0) with
  accessFlags := 33
  interfaces := #[20, 14]
  cf := some (fileOf pool21 1 #[.nestMembers #[269]] #[{ accessFlags := 10, nameIndex := 54, descriptorIndex := 55, attributes := #[] }, { accessFlags := 2, nameIndex := 58, descriptorIndex := 20, attributes := #[] }, { accessFlags := 2, nameIndex := 160, descriptorIndex := 20, attributes := #[] }, { accessFlags := 1, nameIndex := 19, descriptorIndex := 20, attributes := #[] }, { accessFlags := 2, nameIndex := 29, descriptorIndex := 30, attributes := #[] }, { accessFlags := 2, nameIndex := 141, descriptorIndex := 30, attributes := #[] }, { accessFlags := 2, nameIndex := 157, descriptorIndex := 30, attributes := #[] }, { accessFlags := 1, nameIndex := 169, descriptorIndex := 30, attributes := #[] }, { accessFlags := 1, nameIndex := 172, descriptorIndex := 30, attributes := #[] }, { accessFlags := 1, nameIndex := 80, descriptorIndex := 351, attributes := #[] }, { accessFlags := 1, nameIndex := 361, descriptorIndex := 285, attributes := #[] }] 33 22 #[295, 297] #[{ accessFlags := 26, nameIndex := 299, descriptorIndex := 10, attributes := #[] }, { accessFlags := 26, nameIndex := 302, descriptorIndex := 10, attributes := #[] }, { accessFlags := 26, nameIndex := 304, descriptorIndex := 10, attributes := #[] }, { accessFlags := 26, nameIndex := 306, descriptorIndex := 307, attributes := #[] }, { accessFlags := 26, nameIndex := 293, descriptorIndex := 294, attributes := #[] }, { accessFlags := 2, nameIndex := 13, descriptorIndex := 14, attributes := #[] }, { accessFlags := 130, nameIndex := 9, descriptorIndex := 10, attributes := #[] }, { accessFlags := 130, nameIndex := 26, descriptorIndex := 6, attributes := #[] }, { accessFlags := 26, nameIndex := 308, descriptorIndex := 307, attributes := #[] }, { accessFlags := 4120, nameIndex := 5, descriptorIndex := 6, attributes := #[] }])
  fields := #[{ name := "ADDRESS_BITS_PER_WORD", type := .int, accessFlags := 26, slot := 0, constantValue := 0 }, { name := "BITS_PER_WORD", type := .int, accessFlags := 26, slot := 1, constantValue := 0 }, { name := "BIT_INDEX_MASK", type := .int, accessFlags := 26, slot := 2, constantValue := 0 }, { name := "WORD_MASK", type := .long, accessFlags := 26, slot := 3, constantValue := 0 }, { name := "serialPersistentFields", type := (.array (.object "java/io/ObjectStreamField")), accessFlags := 26, slot := 4, constantValue := 0 }, { name := "words", type := (.array .long), accessFlags := 2, slot := 0, constantValue := 0 }, { name := "wordsInUse", type := .int, accessFlags := 130, slot := 1, constantValue := 0 }, { name := "sizeIsSticky", type := .boolean, accessFlags := 130, slot := 2, constantValue := 0 }, { name := "serialVersionUID", type := .long, accessFlags := 26, slot := 5, constantValue := 0 }, { name := "$assertionsDisabled", type := .boolean, accessFlags := 4120, slot := 6, constantValue := 0 }]
  methods := #[k21m0, k21m1, k21m2, k21m3, k21m4, k21m5, k21m6, k21m7, k21m8, k21m9, k21m10]
  instanceTypes := #[(.array .long), .int, .boolean]
  staticTypes := #[.int, .int, .int, .long, (.array (.object "java/io/ObjectStreamField")), .long, .boolean]
  resolved := Array.replicate 417 none
  statics := some 1 }

def pool22 : Array CpInfo := pool [(1, .class_ 2), (0, u "java/lang/Math"), (1, .class_ 6), (1, u "java/lang/Object"), (0, u "<init>"), (0, u "()V"), (89, .class_ 100), (1, u "java/lang/Math$RandomNumberGeneratorHolder"), (20, u "(JJ)J"), (50, u "negativeZeroFloatBits"), (0, u "J"), (2, u "negativeZeroDoubleBits"), (21, u "max"), (46, u "$assertionsDisabled"), (0, u "Z"), (91, u "twoToTheDoubleScaleDown"), (0, u "D"), (4, u "twoToTheDoubleScaleUp"), (9, u "E"), (3, u "PI"), (2, u "TAU"), (2, u "DEGREES_TO_RADIANS"), (0, u "RADIANS_TO_DEGREES")] 94

def k22m0 : Method := { name := "<init>", desc := "()V", sig := { parameters := [], returnType := none }, accessFlags := 2, code := none }
def k22c1 : Code := { maxStack := 4, maxLocals := 4, code := jdk_29_method_66_code, exceptionTable := #[], attributes := #[] }
def k22m1 : Method := { name := "max", desc := "(JJ)J", sig := { parameters := [.long, .long], returnType := some .long }, accessFlags := 9, code := some k22c1 }
/-- java/lang/Math -/
def k22 : Class := { plain "java/lang/Math" (some 0) with
  accessFlags := 49
  interfaces := #[]
  cf := some (fileOf pool22 1 #[.nestMembers #[98]] #[{ accessFlags := 2, nameIndex := 7, descriptorIndex := 8, attributes := #[] }, { accessFlags := 9, nameIndex := 198, descriptorIndex := 121, attributes := #[] }] 49 4 #[] #[{ accessFlags := 25, nameIndex := 354, descriptorIndex := 339, attributes := #[] }, { accessFlags := 25, nameIndex := 358, descriptorIndex := 339, attributes := #[] }, { accessFlags := 25, nameIndex := 361, descriptorIndex := 339, attributes := #[] }, { accessFlags := 26, nameIndex := 364, descriptorIndex := 339, attributes := #[] }, { accessFlags := 26, nameIndex := 365, descriptorIndex := 339, attributes := #[] }, { accessFlags := 26, nameIndex := 172, descriptorIndex := 173, attributes := #[] }, { accessFlags := 26, nameIndex := 176, descriptorIndex := 173, attributes := #[] }, { accessFlags := 8, nameIndex := 344, descriptorIndex := 339, attributes := #[] }, { accessFlags := 8, nameIndex := 338, descriptorIndex := 339, attributes := #[] }, { accessFlags := 4120, nameIndex := 245, descriptorIndex := 246, attributes := #[] }])
  fields := #[{ name := "E", type := .double, accessFlags := 25, slot := 0, constantValue := 0 }, { name := "PI", type := .double, accessFlags := 25, slot := 1, constantValue := 0 }, { name := "TAU", type := .double, accessFlags := 25, slot := 2, constantValue := 0 }, { name := "DEGREES_TO_RADIANS", type := .double, accessFlags := 26, slot := 3, constantValue := 0 }, { name := "RADIANS_TO_DEGREES", type := .double, accessFlags := 26, slot := 4, constantValue := 0 }, { name := "negativeZeroFloatBits", type := .long, accessFlags := 26, slot := 5, constantValue := 0 }, { name := "negativeZeroDoubleBits", type := .long, accessFlags := 26, slot := 6, constantValue := 0 }, { name := "twoToTheDoubleScaleUp", type := .double, accessFlags := 8, slot := 7, constantValue := 0 }, { name := "twoToTheDoubleScaleDown", type := .double, accessFlags := 8, slot := 8, constantValue := 0 }, { name := "$assertionsDisabled", type := .boolean, accessFlags := 4120, slot := 9, constantValue := 0 }]
  methods := #[k22m0, k22m1]
  instanceTypes := #[]
  staticTypes := #[.double, .double, .double, .double, .double, .long, .long, .double, .double, .boolean]
  resolved := Array.replicate 460 none
  statics := none }

/-- the primitive byte -/
def k23 : Class := { plain "byte" none with kind := .primitive 'B', accessFlags := 0x411 }
/-- [B -/
def k24 : Class := { plain "[B" (some 0) with kind := .array 23 .byte, interfaces := #[20, 14], accessFlags := 1041 }

/-- the primitive int -/
def k25 : Class := { plain "int" none with kind := .primitive 'I', accessFlags := 0x411 }
/-- [I -/
def k26 : Class := { plain "[I" (some 0) with kind := .array 25 .int, interfaces := #[20, 14], accessFlags := 1041 }

/-- the primitive long -/
def k27 : Class := { plain "long" none with kind := .primitive 'J', accessFlags := 0x411 }
/-- [J -/
def k28 : Class := { plain "[J" (some 0) with kind := .array 27 .long, interfaces := #[20, 14], accessFlags := 1041 }

/-- [Ljava/lang/Object; -/
def k29 : Class := { plain "[Ljava/lang/Object;" (some 0) with kind := .array 0 (.object "java/lang/Object"), interfaces := #[20, 14], accessFlags := 1041 }

def heap : Heap := #[{ cls := 9, slots := #[.long 0, .int 0, .null, .null, .ref 3, .null, .null, .null, .int 0, .int 0], vm := .statics 9 },
  { cls := 21, slots := #[.int 0, .int 0, .int 0, .long 0, .null, .long 0, .int 1], vm := .statics 21 },
  { cls := 29, slots := #[], vm := .none },
  { cls := 16, slots := #[.ref 2, .int 0], vm := .none }]
def classes : Array Class := #[k0, k1, k2, k3, k4, k5, k6, k7, k8, k9, k10, k11, k12, k13, k14, k15, k16, k17, k18, k19, k20, k21, k22, k23, k24, k25, k26, k27, k28, k29]
def interned : List (Array UInt16 × Addr) := []
def slotsUsed : Nat := 19
def theMethod : MethodId := ⟨1, 1⟩
def args0 : Array Value := #[.long 100, .int 3, .int 3, .int 5, .int 1, .int 9]
def aboutOver (below : List Frame) : State where
  vm := { classes := classes, interned := interned.toArray }
  heap := heap
  slotsUsed := slotsUsed
  threads := #[{ frames := .invoking theMethod args0 :: below }]
def below0 : List Frame := [.native { method := ⟨0, 0⟩, args := #[] }]
def about1 : State := aboutOver below0
def p0 : Program := .bare "" "" ""
def e0 : Env := launch0.env 0 0 0
theorem w_frames : about1.frames = Frame.invoking theMethod args0 :: below0 := rfl
set_option maxRecDepth 65536 in
theorem w_args : argsFit about1.vm theMethod args0 = true := by decide +kernel
set_option maxRecDepth 65536 in
theorem w_heap : heapFits about1 = true := by decide +kernel
set_option maxRecDepth 65536 in
theorem w_runnable : about1.curStatus? = some .runnable := by decide +kernel
set_option maxRecDepth 65536 in
theorem w_alone : about1.alone = true := by decide +kernel
set_option maxRecDepth 65536 in
theorem w_named : about1.methodNamed? x = some theMethod := by decide +kernel
set_option maxRecDepth 65536 in
theorem w_hears : about1.hears theMethod below0 = true := by decide +kernel
set_option maxRecDepth 65536 in
theorem w_ripe : about1.ripe theMethod args0 below0 = true := by decide +kernel
theorem w_running : about1.status = .running := rfl
set_option maxRecDepth 65536 in
theorem w_room : about1.hasRoom e0.platform room_1 = true :=
  launch0.hasRoom_least _ room_1 (by decide +kernel) (by decide +kernel) (by decide +kernel) (by decide +kernel) (by decide +kernel) (by decide +kernel)
theorem allAtoms_all (ts : List Jvm.Cond) (a : Array Jvm.Value) (st : Jvm.State) : (allAtoms ts).before a st = ts.all (fun c => c.before a st) := by
  induction ts with
  | nil => rfl
  | cons c t ih =>
    show (Jvm.Cond.and c (allAtoms t)).before a st = _
    rw [Jvm.Cond.before_and, ih, List.all_cons]
def words1 : List Jvm.Cond := Jvm.Cond.code x code maxLocals ret :: tables_1
/-- a 'code' word, met by the world's own term for the bytes: nothing is compared byte by byte -/
theorem code_word {y : MethodName} {bytes : ByteArray} {mx : Nat} {rt : Option FieldType} {a : Array Value} {s : State} {m : MethodId} {meth : Method} {c : Code} (h1 : s.methodNamed? y = some m) (h2 : s.vm.method? m = some meth) (h3 : meth.code = some c) (h4 : c.code = bytes)
    (h5 : (c.maxLocals == mx && c.exceptionTable.isEmpty && decide (c.maxStack ≤ mostOperands) && decide (meth.sig.returnType = rt) && !meth.locks && decide (parseMethodDescriptor y.desc = some meth.sig)) = true) : (Jvm.Cond.code y bytes mx rt).before a s = true := by
  simp only [Bool.and_eq_true, beq_iff_eq, Bool.not_eq_true', decide_eq_true_eq] at h5
  obtain ⟨⟨⟨⟨⟨g1, g2⟩, g3⟩, g4⟩, g5⟩, g6⟩ := h5
  simp [Cond.before, Cond.holds, Cond.value, h1, h2, h3, h4, g1, g2, g3, g4, g5, g6]
def isCode : Jvm.Cond → Bool
  | .code _ _ _ _ => true
  | _ => false
theorem all_split {L : List Jvm.Cond} {P : Jvm.Cond → Bool} (h1 : L.all (fun c => isCode c || P c) = true) (h2 : ∀ c ∈ L.filter isCode, P c = true) : L.all P = true := by
  refine List.all_eq_true.mpr fun c hc => ?_
  have h := List.all_eq_true.mp h1 c hc
  rcases Bool.eq_false_or_eq_true (isCode c) with hi | hi
  · exact h2 c (List.mem_filter.mpr ⟨hc, hi⟩)
  · simpa [hi] using h
set_option maxRecDepth 65536 in
theorem w_c0 : (Jvm.Cond.code x code maxLocals ret).before args0 about1 = true := code_word (m := ⟨1, 1⟩) (meth := k1m1) (c := k1c1) (by decide +kernel) rfl rfl rfl (by decide +kernel)
set_option maxRecDepth 65536 in
theorem w_c1 : (Jvm.Cond.code ({ cls := "evenkeel/model/CommittedOffset", name := "<init>", desc := "(Levenkeel/model/TopicQueue;J)V" } : Jvm.MethodName) prog_145_method_2_code (4 : Nat) (Option.none : Option Jvm.ClassFile.FieldType)).before args0 about1 = true := code_word (m := ⟨4, 1⟩) (meth := k4m1) (c := k4c1) (by decide +kernel) rfl rfl rfl (by decide +kernel)
set_option maxRecDepth 65536 in
theorem w_c2 : (Jvm.Cond.code ({ cls := "java/util/List", name := "of", desc := "()Ljava/util/List;" } : Jvm.MethodName) jdk_40_method_36_code (0 : Nat) (Option.some (Jvm.ClassFile.FieldType.object "java/util/List"))).before args0 about1 = true := code_word (m := ⟨8, 3⟩) (meth := k8m3) (c := k8c3) (by decide +kernel) rfl rfl rfl (by decide +kernel)
set_option maxRecDepth 65536 in
theorem w_c3 : (Jvm.Cond.code ({ cls := "evenkeel/model/CommittedOffset", name := "<init>", desc := "(Levenkeel/model/TopicQueue;JLjava/util/List;Ljava/util/List;)V" } : Jvm.MethodName) prog_145_method_1_code (12 : Nat) (Option.none : Option Jvm.ClassFile.FieldType)).before args0 about1 = true := code_word (m := ⟨4, 0⟩) (meth := k4m0) (c := k4c0) (by decide +kernel) rfl rfl rfl (by decide +kernel)
set_option maxRecDepth 65536 in
theorem w_c4 : (Jvm.Cond.code ({ cls := "java/lang/Record", name := "<init>", desc := "()V" } : Jvm.MethodName) jdk_30_method_1_code (1 : Nat) (Option.none : Option Jvm.ClassFile.FieldType)).before args0 about1 = true := code_word (m := ⟨3, 0⟩) (meth := k3m0) (c := k3c0) (by decide +kernel) rfl rfl rfl (by decide +kernel)
set_option maxRecDepth 65536 in
theorem w_c5 : (Jvm.Cond.code ({ cls := "java/lang/Object", name := "<init>", desc := "()V" } : Jvm.MethodName) object_method_1_code (1 : Nat) (Option.none : Option Jvm.ClassFile.FieldType)).before args0 about1 = true := code_word (m := ⟨0, 0⟩) (meth := k0m0) (c := k0c0) (by decide +kernel) rfl rfl rfl (by decide +kernel)
set_option maxRecDepth 65536 in
theorem w_c6 : (Jvm.Cond.code ({ cls := "java/util/List", name := "copyOf", desc := "(Ljava/util/Collection;)Ljava/util/List;" } : Jvm.MethodName) jdk_40_method_48_code (1 : Nat) (Option.some (Jvm.ClassFile.FieldType.object "java/util/List"))).before args0 about1 = true := code_word (m := ⟨8, 4⟩) (meth := k8m4) (c := k8c4) (by decide +kernel) rfl rfl rfl (by decide +kernel)
set_option maxRecDepth 65536 in
theorem w_c7 : (Jvm.Cond.code ({ cls := "java/util/ImmutableCollections", name := "listCopy", desc := "(Ljava/util/Collection;)Ljava/util/List;" } : Jvm.MethodName) jdk_56_method_3_code (2 : Nat) (Option.some (Jvm.ClassFile.FieldType.object "java/util/List"))).before args0 about1 = true := code_word (m := ⟨9, 1⟩) (meth := k9m1) (c := k9c1) (by decide +kernel) rfl rfl rfl (by decide +kernel)
set_option maxRecDepth 65536 in
theorem w_c8 : (Jvm.Cond.code ({ cls := "java/util/ImmutableCollections$AbstractImmutableList", name := "iterator", desc := "()Ljava/util/Iterator;" } : Jvm.MethodName) jdk_46_method_10_code (1 : Nat) (Option.some (Jvm.ClassFile.FieldType.object "java/util/Iterator"))).before args0 about1 = true := code_word (m := ⟨13, 1⟩) (meth := k13m1) (c := k13c1) (by decide +kernel) rfl rfl rfl (by decide +kernel)
set_option maxRecDepth 65536 in
theorem w_c9 : (Jvm.Cond.code ({ cls := "java/util/ImmutableCollections$ListN", name := "size", desc := "()I" } : Jvm.MethodName) jdk_45_method_3_code (1 : Nat) (Option.some Jvm.ClassFile.FieldType.int)).before args0 about1 = true := code_word (m := ⟨16, 1⟩) (meth := k16m1) (c := k16c1) (by decide +kernel) rfl rfl rfl (by decide +kernel)
set_option maxRecDepth 65536 in
theorem w_c10 : (Jvm.Cond.code ({ cls := "java/util/ImmutableCollections$ListItr", name := "<init>", desc := "(Ljava/util/List;I)V" } : Jvm.MethodName) jdk_53_method_1_code (3 : Nat) (Option.none : Option Jvm.ClassFile.FieldType)).before args0 about1 = true := code_word (m := ⟨19, 0⟩) (meth := k19m0) (c := k19c0) (by decide +kernel) rfl rfl rfl (by decide +kernel)
set_option maxRecDepth 65536 in
theorem w_c11 : (Jvm.Cond.code ({ cls := "java/util/ImmutableCollections$ListItr", name := "hasNext", desc := "()Z" } : Jvm.MethodName) jdk_53_method_3_code (1 : Nat) (Option.some Jvm.ClassFile.FieldType.boolean)).before args0 about1 = true := code_word (m := ⟨19, 1⟩) (meth := k19m1) (c := k19c1) (by decide +kernel) rfl rfl rfl (by decide +kernel)
set_option maxRecDepth 65536 in
theorem w_c12 : (Jvm.Cond.code ({ cls := "evenkeel/client/Window", name := "<init>", desc := "(ILevenkeel/model/CommittedOffset;)V" } : Jvm.MethodName) prog_141_method_1_code (5 : Nat) (Option.none : Option Jvm.ClassFile.FieldType)).before args0 about1 = true := code_word (m := ⟨2, 0⟩) (meth := k2m0) (c := k2c0) (by decide +kernel) rfl rfl rfl (by decide +kernel)
set_option maxRecDepth 65536 in
theorem w_c13 : (Jvm.Cond.code ({ cls := "java/util/BitSet", name := "<init>", desc := "()V" } : Jvm.MethodName) jdk_92_method_4_code (1 : Nat) (Option.none : Option Jvm.ClassFile.FieldType)).before args0 about1 = true := code_word (m := ⟨21, 3⟩) (meth := k21m3) (c := k21c3) (by decide +kernel) rfl rfl rfl (by decide +kernel)
set_option maxRecDepth 65536 in
theorem w_c14 : (Jvm.Cond.code ({ cls := "java/util/BitSet", name := "initWords", desc := "(I)V" } : Jvm.MethodName) jdk_92_method_6_code (2 : Nat) (Option.none : Option Jvm.ClassFile.FieldType)).before args0 about1 = true := code_word (m := ⟨21, 4⟩) (meth := k21m4) (c := k21c4) (by decide +kernel) rfl rfl rfl (by decide +kernel)
set_option maxRecDepth 65536 in
theorem w_c15 : (Jvm.Cond.code ({ cls := "java/util/BitSet", name := "wordIndex", desc := "(I)I" } : Jvm.MethodName) jdk_92_method_1_code (1 : Nat) (Option.some Jvm.ClassFile.FieldType.int)).before args0 about1 = true := code_word (m := ⟨21, 0⟩) (meth := k21m0) (c := k21c0) (by decide +kernel) rfl rfl rfl (by decide +kernel)
set_option maxRecDepth 65536 in
theorem w_c16 : (Jvm.Cond.code ({ cls := "evenkeel/model/CommittedOffset", name := "next", desc := "()J" } : Jvm.MethodName) prog_145_method_17_code (1 : Nat) (Option.some Jvm.ClassFile.FieldType.long)).before args0 about1 = true := code_word (m := ⟨4, 2⟩) (meth := k4m2) (c := k4c2) (by decide +kernel) rfl rfl rfl (by decide +kernel)
set_option maxRecDepth 65536 in
theorem w_c17 : (Jvm.Cond.code ({ cls := "evenkeel/model/CommittedOffset", name := "ahead", desc := "()Ljava/util/List;" } : Jvm.MethodName) prog_145_method_18_code (1 : Nat) (Option.some (Jvm.ClassFile.FieldType.object "java/util/List"))).before args0 about1 = true := code_word (m := ⟨4, 3⟩) (meth := k4m3) (c := k4c3) (by decide +kernel) rfl rfl rfl (by decide +kernel)
set_option maxRecDepth 65536 in
theorem w_c18 : (Jvm.Cond.code ({ cls := "evenkeel/model/CommittedOffset", name := "failed", desc := "()Ljava/util/List;" } : Jvm.MethodName) prog_145_method_19_code (1 : Nat) (Option.some (Jvm.ClassFile.FieldType.object "java/util/List"))).before args0 about1 = true := code_word (m := ⟨4, 4⟩) (meth := k4m4) (c := k4c4) (by decide +kernel) rfl rfl rfl (by decide +kernel)
set_option maxRecDepth 65536 in
theorem w_c19 : (Jvm.Cond.code ({ cls := "java/util/ImmutableCollections$ListN", name := "isEmpty", desc := "()Z" } : Jvm.MethodName) jdk_45_method_2_code (1 : Nat) (Option.some Jvm.ClassFile.FieldType.boolean)).before args0 about1 = true := code_word (m := ⟨16, 0⟩) (meth := k16m0) (c := k16c0) (by decide +kernel) rfl rfl rfl (by decide +kernel)
set_option maxRecDepth 65536 in
theorem w_c20 : (Jvm.Cond.code ({ cls := "evenkeel/client/Window", name := "take", desc := "()Z" } : Jvm.MethodName) prog_141_method_6_code (4 : Nat) (Option.some Jvm.ClassFile.FieldType.boolean)).before args0 about1 = true := code_word (m := ⟨2, 3⟩) (meth := k2m3) (c := k2c3) (by decide +kernel) rfl rfl rfl (by decide +kernel)
set_option maxRecDepth 65536 in
theorem w_c21 : (Jvm.Cond.code ({ cls := "evenkeel/client/Window", name := "roomOnceCommitted", desc := "()I" } : Jvm.MethodName) prog_141_method_4_code (1 : Nat) (Option.some Jvm.ClassFile.FieldType.int)).before args0 about1 = true := code_word (m := ⟨2, 1⟩) (meth := k2m1) (c := k2c1) (by decide +kernel) rfl rfl rfl (by decide +kernel)
set_option maxRecDepth 65536 in
theorem w_c22 : (Jvm.Cond.code ({ cls := "evenkeel/client/Window", name := "skip", desc := "(J)Z" } : Jvm.MethodName) prog_141_method_5_code (3 : Nat) (Option.some Jvm.ClassFile.FieldType.boolean)).before args0 about1 = true := code_word (m := ⟨2, 2⟩) (meth := k2m2) (c := k2c2) (by decide +kernel) rfl rfl rfl (by decide +kernel)
set_option maxRecDepth 65536 in
theorem w_c23 : (Jvm.Cond.code ({ cls := "evenkeel/client/Window", name := "allFinished", desc := "()Z" } : Jvm.MethodName) prog_141_method_20_code (1 : Nat) (Option.some Jvm.ClassFile.FieldType.boolean)).before args0 about1 = true := code_word (m := ⟨2, 6⟩) (meth := k2m6) (c := k2c6) (by decide +kernel) rfl rfl rfl (by decide +kernel)
set_option maxRecDepth 65536 in
theorem w_c24 : (Jvm.Cond.code ({ cls := "evenkeel/client/Window", name := "finish", desc := "(J)Z" } : Jvm.MethodName) prog_141_method_11_code (3 : Nat) (Option.some Jvm.ClassFile.FieldType.boolean)).before args0 about1 = true := code_word (m := ⟨2, 4⟩) (meth := k2m4) (c := k2c4) (by decide +kernel) rfl rfl rfl (by decide +kernel)
set_option maxRecDepth 65536 in
theorem w_c25 : (Jvm.Cond.code ({ cls := "evenkeel/client/Window", name := "inHand", desc := "(J)Z" } : Jvm.MethodName) prog_141_method_12_code (3 : Nat) (Option.some Jvm.ClassFile.FieldType.boolean)).before args0 about1 = true := code_word (m := ⟨2, 5⟩) (meth := k2m5) (c := k2c5) (by decide +kernel) rfl rfl rfl (by decide +kernel)
set_option maxRecDepth 65536 in
theorem w_c26 : (Jvm.Cond.code ({ cls := "java/lang/Math", name := "max", desc := "(JJ)J" } : Jvm.MethodName) jdk_29_method_66_code (4 : Nat) (Option.some Jvm.ClassFile.FieldType.long)).before args0 about1 = true := code_word (m := ⟨22, 1⟩) (meth := k22m1) (c := k22c1) (by decide +kernel) rfl rfl rfl (by decide +kernel)
set_option maxRecDepth 65536 in
theorem w_c27 : (Jvm.Cond.code ({ cls := "evenkeel/client/Window", name := "bit", desc := "(J)I" } : Jvm.MethodName) prog_141_method_23_code (3 : Nat) (Option.some Jvm.ClassFile.FieldType.int)).before args0 about1 = true := code_word (m := ⟨2, 7⟩) (meth := k2m7) (c := k2c7) (by decide +kernel) rfl rfl rfl (by decide +kernel)
set_option maxRecDepth 65536 in
theorem w_c28 : (Jvm.Cond.code ({ cls := "java/util/BitSet", name := "get", desc := "(I)Z" } : Jvm.MethodName) jdk_92_method_26_code (3 : Nat) (Option.some Jvm.ClassFile.FieldType.boolean)).before args0 about1 = true := code_word (m := ⟨21, 9⟩) (meth := k21m9) (c := k21c9) (by decide +kernel) rfl rfl rfl (by decide +kernel)
set_option maxRecDepth 65536 in
theorem w_c29 : (Jvm.Cond.code ({ cls := "java/util/BitSet", name := "checkInvariants", desc := "()V" } : Jvm.MethodName) jdk_92_method_2_code (1 : Nat) (Option.none : Option Jvm.ClassFile.FieldType)).before args0 about1 = true := code_word (m := ⟨21, 1⟩) (meth := k21m1) (c := k21c1) (by decide +kernel) rfl rfl rfl (by decide +kernel)
set_option maxRecDepth 65536 in
theorem w_c30 : (Jvm.Cond.code ({ cls := "java/util/BitSet", name := "set", desc := "(I)V" } : Jvm.MethodName) jdk_92_method_19_code (3 : Nat) (Option.none : Option Jvm.ClassFile.FieldType)).before args0 about1 = true := code_word (m := ⟨21, 7⟩) (meth := k21m7) (c := k21c7) (by decide +kernel) rfl rfl rfl (by decide +kernel)
set_option maxRecDepth 65536 in
theorem w_c31 : (Jvm.Cond.code ({ cls := "java/util/BitSet", name := "expandTo", desc := "(I)V" } : Jvm.MethodName) jdk_92_method_15_code (3 : Nat) (Option.none : Option Jvm.ClassFile.FieldType)).before args0 about1 = true := code_word (m := ⟨21, 6⟩) (meth := k21m6) (c := k21c6) (by decide +kernel) rfl rfl rfl (by decide +kernel)
set_option maxRecDepth 65536 in
theorem w_c32 : (Jvm.Cond.code ({ cls := "java/util/BitSet", name := "ensureCapacity", desc := "(I)V" } : Jvm.MethodName) jdk_92_method_14_code (3 : Nat) (Option.none : Option Jvm.ClassFile.FieldType)).before args0 about1 = true := code_word (m := ⟨21, 5⟩) (meth := k21m5) (c := k21c5) (by decide +kernel) rfl rfl rfl (by decide +kernel)
set_option maxRecDepth 65536 in
theorem w_c33 : (Jvm.Cond.code ({ cls := "java/util/BitSet", name := "isEmpty", desc := "()Z" } : Jvm.MethodName) jdk_92_method_33_code (1 : Nat) (Option.some Jvm.ClassFile.FieldType.boolean)).before args0 about1 = true := code_word (m := ⟨21, 10⟩) (meth := k21m10) (c := k21c10) (by decide +kernel) rfl rfl rfl (by decide +kernel)
set_option maxRecDepth 65536 in
theorem w_c34 : (Jvm.Cond.code ({ cls := "java/util/BitSet", name := "clear", desc := "(I)V" } : Jvm.MethodName) jdk_92_method_23_code (3 : Nat) (Option.none : Option Jvm.ClassFile.FieldType)).before args0 about1 = true := code_word (m := ⟨21, 8⟩) (meth := k21m8) (c := k21c8) (by decide +kernel) rfl rfl rfl (by decide +kernel)
set_option maxRecDepth 65536 in
theorem w_c35 : (Jvm.Cond.code ({ cls := "java/util/BitSet", name := "recalculateWordsInUse", desc := "()V" } : Jvm.MethodName) jdk_92_method_3_code (2 : Nat) (Option.none : Option Jvm.ClassFile.FieldType)).before args0 about1 = true := code_word (m := ⟨21, 2⟩) (meth := k21m2) (c := k21c2) (by decide +kernel) rfl rfl rfl (by decide +kernel)
def codes1 : List Jvm.Cond := [Jvm.Cond.code x code maxLocals ret, Jvm.Cond.code ({ cls := "evenkeel/model/CommittedOffset", name := "<init>", desc := "(Levenkeel/model/TopicQueue;J)V" } : Jvm.MethodName) prog_145_method_2_code (4 : Nat) (Option.none : Option Jvm.ClassFile.FieldType), Jvm.Cond.code ({ cls := "java/util/List", name := "of", desc := "()Ljava/util/List;" } : Jvm.MethodName) jdk_40_method_36_code (0 : Nat) (Option.some (Jvm.ClassFile.FieldType.object "java/util/List")), Jvm.Cond.code ({ cls := "evenkeel/model/CommittedOffset", name := "<init>", desc := "(Levenkeel/model/TopicQueue;JLjava/util/List;Ljava/util/List;)V" } : Jvm.MethodName) prog_145_method_1_code (12 : Nat) (Option.none : Option Jvm.ClassFile.FieldType), Jvm.Cond.code ({ cls := "java/lang/Record", name := "<init>", desc := "()V" } : Jvm.MethodName) jdk_30_method_1_code (1 : Nat) (Option.none : Option Jvm.ClassFile.FieldType), Jvm.Cond.code ({ cls := "java/lang/Object", name := "<init>", desc := "()V" } : Jvm.MethodName) object_method_1_code (1 : Nat) (Option.none : Option Jvm.ClassFile.FieldType), Jvm.Cond.code ({ cls := "java/util/List", name := "copyOf", desc := "(Ljava/util/Collection;)Ljava/util/List;" } : Jvm.MethodName) jdk_40_method_48_code (1 : Nat) (Option.some (Jvm.ClassFile.FieldType.object "java/util/List")), Jvm.Cond.code ({ cls := "java/util/ImmutableCollections", name := "listCopy", desc := "(Ljava/util/Collection;)Ljava/util/List;" } : Jvm.MethodName) jdk_56_method_3_code (2 : Nat) (Option.some (Jvm.ClassFile.FieldType.object "java/util/List")), Jvm.Cond.code ({ cls := "java/util/ImmutableCollections$AbstractImmutableList", name := "iterator", desc := "()Ljava/util/Iterator;" } : Jvm.MethodName) jdk_46_method_10_code (1 : Nat) (Option.some (Jvm.ClassFile.FieldType.object "java/util/Iterator")), Jvm.Cond.code ({ cls := "java/util/ImmutableCollections$ListN", name := "size", desc := "()I" } : Jvm.MethodName) jdk_45_method_3_code (1 : Nat) (Option.some Jvm.ClassFile.FieldType.int), Jvm.Cond.code ({ cls := "java/util/ImmutableCollections$ListItr", name := "<init>", desc := "(Ljava/util/List;I)V" } : Jvm.MethodName) jdk_53_method_1_code (3 : Nat) (Option.none : Option Jvm.ClassFile.FieldType), Jvm.Cond.code ({ cls := "java/util/ImmutableCollections$ListItr", name := "hasNext", desc := "()Z" } : Jvm.MethodName) jdk_53_method_3_code (1 : Nat) (Option.some Jvm.ClassFile.FieldType.boolean), Jvm.Cond.code ({ cls := "evenkeel/client/Window", name := "<init>", desc := "(ILevenkeel/model/CommittedOffset;)V" } : Jvm.MethodName) prog_141_method_1_code (5 : Nat) (Option.none : Option Jvm.ClassFile.FieldType), Jvm.Cond.code ({ cls := "java/util/BitSet", name := "<init>", desc := "()V" } : Jvm.MethodName) jdk_92_method_4_code (1 : Nat) (Option.none : Option Jvm.ClassFile.FieldType), Jvm.Cond.code ({ cls := "java/util/BitSet", name := "initWords", desc := "(I)V" } : Jvm.MethodName) jdk_92_method_6_code (2 : Nat) (Option.none : Option Jvm.ClassFile.FieldType), Jvm.Cond.code ({ cls := "java/util/BitSet", name := "wordIndex", desc := "(I)I" } : Jvm.MethodName) jdk_92_method_1_code (1 : Nat) (Option.some Jvm.ClassFile.FieldType.int), Jvm.Cond.code ({ cls := "evenkeel/model/CommittedOffset", name := "next", desc := "()J" } : Jvm.MethodName) prog_145_method_17_code (1 : Nat) (Option.some Jvm.ClassFile.FieldType.long), Jvm.Cond.code ({ cls := "evenkeel/model/CommittedOffset", name := "ahead", desc := "()Ljava/util/List;" } : Jvm.MethodName) prog_145_method_18_code (1 : Nat) (Option.some (Jvm.ClassFile.FieldType.object "java/util/List")), Jvm.Cond.code ({ cls := "evenkeel/model/CommittedOffset", name := "failed", desc := "()Ljava/util/List;" } : Jvm.MethodName) prog_145_method_19_code (1 : Nat) (Option.some (Jvm.ClassFile.FieldType.object "java/util/List")), Jvm.Cond.code ({ cls := "java/util/ImmutableCollections$ListN", name := "isEmpty", desc := "()Z" } : Jvm.MethodName) jdk_45_method_2_code (1 : Nat) (Option.some Jvm.ClassFile.FieldType.boolean), Jvm.Cond.code ({ cls := "evenkeel/client/Window", name := "take", desc := "()Z" } : Jvm.MethodName) prog_141_method_6_code (4 : Nat) (Option.some Jvm.ClassFile.FieldType.boolean), Jvm.Cond.code ({ cls := "evenkeel/client/Window", name := "roomOnceCommitted", desc := "()I" } : Jvm.MethodName) prog_141_method_4_code (1 : Nat) (Option.some Jvm.ClassFile.FieldType.int), Jvm.Cond.code ({ cls := "evenkeel/client/Window", name := "skip", desc := "(J)Z" } : Jvm.MethodName) prog_141_method_5_code (3 : Nat) (Option.some Jvm.ClassFile.FieldType.boolean), Jvm.Cond.code ({ cls := "evenkeel/client/Window", name := "allFinished", desc := "()Z" } : Jvm.MethodName) prog_141_method_20_code (1 : Nat) (Option.some Jvm.ClassFile.FieldType.boolean), Jvm.Cond.code ({ cls := "evenkeel/client/Window", name := "finish", desc := "(J)Z" } : Jvm.MethodName) prog_141_method_11_code (3 : Nat) (Option.some Jvm.ClassFile.FieldType.boolean), Jvm.Cond.code ({ cls := "evenkeel/client/Window", name := "inHand", desc := "(J)Z" } : Jvm.MethodName) prog_141_method_12_code (3 : Nat) (Option.some Jvm.ClassFile.FieldType.boolean), Jvm.Cond.code ({ cls := "java/lang/Math", name := "max", desc := "(JJ)J" } : Jvm.MethodName) jdk_29_method_66_code (4 : Nat) (Option.some Jvm.ClassFile.FieldType.long), Jvm.Cond.code ({ cls := "evenkeel/client/Window", name := "bit", desc := "(J)I" } : Jvm.MethodName) prog_141_method_23_code (3 : Nat) (Option.some Jvm.ClassFile.FieldType.int), Jvm.Cond.code ({ cls := "java/util/BitSet", name := "get", desc := "(I)Z" } : Jvm.MethodName) jdk_92_method_26_code (3 : Nat) (Option.some Jvm.ClassFile.FieldType.boolean), Jvm.Cond.code ({ cls := "java/util/BitSet", name := "checkInvariants", desc := "()V" } : Jvm.MethodName) jdk_92_method_2_code (1 : Nat) (Option.none : Option Jvm.ClassFile.FieldType), Jvm.Cond.code ({ cls := "java/util/BitSet", name := "set", desc := "(I)V" } : Jvm.MethodName) jdk_92_method_19_code (3 : Nat) (Option.none : Option Jvm.ClassFile.FieldType), Jvm.Cond.code ({ cls := "java/util/BitSet", name := "expandTo", desc := "(I)V" } : Jvm.MethodName) jdk_92_method_15_code (3 : Nat) (Option.none : Option Jvm.ClassFile.FieldType), Jvm.Cond.code ({ cls := "java/util/BitSet", name := "ensureCapacity", desc := "(I)V" } : Jvm.MethodName) jdk_92_method_14_code (3 : Nat) (Option.none : Option Jvm.ClassFile.FieldType), Jvm.Cond.code ({ cls := "java/util/BitSet", name := "isEmpty", desc := "()Z" } : Jvm.MethodName) jdk_92_method_33_code (1 : Nat) (Option.some Jvm.ClassFile.FieldType.boolean), Jvm.Cond.code ({ cls := "java/util/BitSet", name := "clear", desc := "(I)V" } : Jvm.MethodName) jdk_92_method_23_code (3 : Nat) (Option.none : Option Jvm.ClassFile.FieldType), Jvm.Cond.code ({ cls := "java/util/BitSet", name := "recalculateWordsInUse", desc := "()V" } : Jvm.MethodName) jdk_92_method_3_code (2 : Nat) (Option.none : Option Jvm.ClassFile.FieldType)]
set_option maxRecDepth 65536 in
theorem codes_eq : words1.filter isCode = codes1 := rfl
theorem w_codes : ∀ c ∈ words1.filter isCode, c.before args0 about1 = true := by
  rw [codes_eq]
  intro c hc
  simp only [codes1, List.mem_cons, List.not_mem_nil, or_false] at hc
  rcases hc with rfl | rfl | rfl | rfl | rfl | rfl | rfl | rfl | rfl | rfl | rfl | rfl | rfl | rfl | rfl | rfl | rfl | rfl | rfl | rfl | rfl | rfl | rfl | rfl | rfl | rfl | rfl | rfl | rfl | rfl | rfl | rfl | rfl | rfl | rfl | rfl
  · exact w_c0
  · exact w_c1
  · exact w_c2
  · exact w_c3
  · exact w_c4
  · exact w_c5
  · exact w_c6
  · exact w_c7
  · exact w_c8
  · exact w_c9
  · exact w_c10
  · exact w_c11
  · exact w_c12
  · exact w_c13
  · exact w_c14
  · exact w_c15
  · exact w_c16
  · exact w_c17
  · exact w_c18
  · exact w_c19
  · exact w_c20
  · exact w_c21
  · exact w_c22
  · exact w_c23
  · exact w_c24
  · exact w_c25
  · exact w_c26
  · exact w_c27
  · exact w_c28
  · exact w_c29
  · exact w_c30
  · exact w_c31
  · exact w_c32
  · exact w_c33
  · exact w_c34
  · exact w_c35
set_option maxRecDepth 65536 in
theorem w_t1 : (words1.take 24).all (fun c => isCode c || c.before args0 about1) = true := by decide +kernel
set_option maxRecDepth 65536 in
theorem w_t2 : ((words1.drop 24).take 24).all (fun c => isCode c || c.before args0 about1) = true := by decide +kernel
set_option maxRecDepth 65536 in
theorem w_t3 : (((words1.drop 24).drop 24).take 24).all (fun c => isCode c || c.before args0 about1) = true := by decide +kernel
set_option maxRecDepth 65536 in
theorem w_t4 : ((((words1.drop 24).drop 24).drop 24).take 24).all (fun c => isCode c || c.before args0 about1) = true := by decide +kernel
set_option maxRecDepth 65536 in
theorem w_t5 : (((((words1.drop 24).drop 24).drop 24).drop 24).take 24).all (fun c => isCode c || c.before args0 about1) = true := by decide +kernel
set_option maxRecDepth 65536 in
theorem w_t6 : ((((((words1.drop 24).drop 24).drop 24).drop 24).drop 24).take 24).all (fun c => isCode c || c.before args0 about1) = true := by decide +kernel
set_option maxRecDepth 65536 in
theorem w_t7 : (((((((words1.drop 24).drop 24).drop 24).drop 24).drop 24).drop 24).take 24).all (fun c => isCode c || c.before args0 about1) = true := by decide +kernel
set_option maxRecDepth 65536 in
theorem w_t8 : ((((((((words1.drop 24).drop 24).drop 24).drop 24).drop 24).drop 24).drop 24).take 24).all (fun c => isCode c || c.before args0 about1) = true := by decide +kernel
set_option maxRecDepth 65536 in
theorem w_t9 : (((((((((words1.drop 24).drop 24).drop 24).drop 24).drop 24).drop 24).drop 24).drop 24).take 24).all (fun c => isCode c || c.before args0 about1) = true := by decide +kernel
set_option maxRecDepth 65536 in
theorem w_t10 : ((((((((((words1.drop 24).drop 24).drop 24).drop 24).drop 24).drop 24).drop 24).drop 24).drop 24).take 24).all (fun c => isCode c || c.before args0 about1) = true := by decide +kernel
set_option maxRecDepth 65536 in
theorem w_t11 : ((((((((((words1.drop 24).drop 24).drop 24).drop 24).drop 24).drop 24).drop 24).drop 24).drop 24).drop 24).all (fun c => isCode c || c.before args0 about1) = true := by decide +kernel
theorem w_tables : (allAtoms (Jvm.Cond.code x code maxLocals ret :: tables_1)).before args0 about1 = true := by
  rw [allAtoms_all]
  show words1.all (fun c => c.before args0 about1) = true
  refine all_split ?_ w_codes
  rw [← List.take_append_drop 24 words1, List.all_append, w_t1, ← List.take_append_drop 24 (words1.drop 24), List.all_append, w_t2, ← List.take_append_drop 24 ((words1.drop 24).drop 24), List.all_append, w_t3, ← List.take_append_drop 24 (((words1.drop 24).drop 24).drop 24), List.all_append, w_t4, ← List.take_append_drop 24 ((((words1.drop 24).drop 24).drop 24).drop 24), List.all_append, w_t5, ← List.take_append_drop 24 (((((words1.drop 24).drop 24).drop 24).drop 24).drop 24), List.all_append, w_t6, ← List.take_append_drop 24 ((((((words1.drop 24).drop 24).drop 24).drop 24).drop 24).drop 24), List.all_append, w_t7, ← List.take_append_drop 24 (((((((words1.drop 24).drop 24).drop 24).drop 24).drop 24).drop 24).drop 24), List.all_append, w_t8, ← List.take_append_drop 24 ((((((((words1.drop 24).drop 24).drop 24).drop 24).drop 24).drop 24).drop 24).drop 24), List.all_append, w_t9, ← List.take_append_drop 24 (((((((((words1.drop 24).drop 24).drop 24).drop 24).drop 24).drop 24).drop 24).drop 24).drop 24), List.all_append, w_t10, w_t11]
  rfl
set_option maxRecDepth 65536 in
theorem w_rest : rest_1_c.before args0 about1 = true := by decide +kernel
set_option maxRecDepth 65536 in
theorem w_case : (Jvm.Cond.and given_1 narrow_1).before args0 about1 = true := by decide +kernel
theorem w_applies : (headSpec (Jvm.Cond.code x code maxLocals ret :: tables_1) room_1).applies x e0.platform about1 = true :=
  (Spec.applies_iff w_frames).mpr ⟨w_running, w_runnable, w_alone, w_named, w_hears, w_ripe, w_room, w_tables⟩
theorem atStart : AtStart classFile x code maxLocals ret World_1 tables_1 room_1 Calls_1 rest_1 Pre_1 launch0 p0 e0 about1 theMethod args0 below0 :=
  ⟨lists_1, trivial, launch0.admits_env _ _ _, launch0.least_env, fairChoices_fair.cas, fairChoices_fair.clock, w_frames, w_args, w_heap, w_applies, trivial, w_rest, w_case⟩
end start1
theorem witness_1 : WitnessClaimed_1 := ⟨start1.p0, start1.e0, start1.about1, start1.theMethod, start1.args0, start1.below0, start1.atStart⟩
end Jvm.Pilot.@@N@@
