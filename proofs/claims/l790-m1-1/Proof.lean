import JvmDerived
import JvmDerived.Pilot.@@N@@Statement
import JvmDerived.Pilot.@@N@@Code
set_option linter.unusedVariables false
set_option linter.unusedSimpArgs false
namespace Jvm.RoadKit
open Sem ClassFile Op Lib Jvm.Stand Jvm.Free Jvm.LawKit
section New
variable {p : Program} {l : Launch} {e : Env} {R : Room} {s : State} {m : MethodId} {args : Array Value} {below : List Frame} {meth : Method} {c : Code} {T : State} {locs : List Loc} {cells slots : Nat}
theorem retI (X : Stand p l e R s m args below meth c T locs cells slots) (hx : p.tables.exec = Jvm.exec) {pc : Nat} {Ls : Array Slot} {z : Int32} {rest : List Value} (hret : meth.sig.returnType = some .int) (hd : decode c.code pc = .ok (.ireturn, 1)) {fs : List Frame}
    (hl : ∀ (f : JFrame) (acts : List Action), f.method = m → f.locked = none → f.entered = [] → (doReturn e (T.setTop f) acts (some (.int z))).1 = T.setFrames fs) : Steps p.tables e below (T.setTop (mkF m pc Ls (.int z :: rest))) (T.setFrames fs) := by
  have hm' : T.vm.method? m = some meth := X.method'
  have hn : narrow .int (.int z) = .int z := rfl
  show Steps p.tables e below (T.setTop { method := m, pc := pc, locals := Ls, stack := _ :: rest, locked := none }) _
  jvm_step X.here [X.here.top, hx, hd, hm', hret, hn]
  first | (intro acts; rw [hl _ acts rfl rfl rfl]) | rw [hl _ _ rfl rfl rfl]
  exact Steps.refl _
end New
end Jvm.RoadKit
namespace Jvm.Pilot.@@N@@
open Jvm Jvm.ClassFile Sem Op Lib Jvm.Free Jvm.Stand Jvm.LawKit Jvm.RoadKit Bundle Jvm.Pilot.@@N@@.Jvm.D
abbrev own_K (p : Program) (e : Env) (below : List Frame) (m : MethodId) (T : State) (pc : Nat) (L : Array Slot) (S : List Value) (t : State) : Prop := Steps p.tables e below (T.setTop (mkF m pc L S)) t
abbrev lv (x : Int64) : Slot := .val (.long x)
section OwnLib
variable {p : Program} {l : Launch} {e : Env} {R : Room} {s : State} {m : MethodId} {args : Array Value} {below : List Frame} {meth : Method} {c : Code} {T : State} {locs : List Loc} {cells slots : Nat} {Z : State} {h : Heap} {a : Addr} {k : ClassId} {ty : FieldType} {n j : Int32} {vs : List Value} {dv v : Value}
theorem own_selp {a0 args' : Array Value} {y : MethodName} {kk : Nat} (hZ : Z.Warmed39 s.vm) (wi : (Jvm.Cond.instantiable y.cls kk).before a0 Z = true) (wp : (Jvm.Cond.privateMethod y).before a0 Z = true) (wm : (Jvm.Cond.instanceMethod y).before a0 Z = true) (hy : y.cls ≠ "java/lang/invoke/MethodHandle" ∧ y.cls ≠ "java/lang/invoke/VarHandle") : (Jvm.Cond.selects y.cls y y).before args' s = true := by
  obtain ⟨c, k, g1, g2, g3, g4, -⟩ := Cond.instantiable_spec (mvT hZ wi (args := args'))
  have hi : k.isInterface = false := by
    cases hq : k.isInterface
    · rfl
    · simp [hq] at g4
  exact selects_self_of_private g1 g2 hi (Cond.privateMethod_at (mvP hZ wp (args := args'))) (mvT hZ wm) hy
theorem own_inst {a0 : Array Value} {own K C : String} {index : Nat} (X : Stand p l e R s m args below meth c T locs cells slots) (hx : p.tables.exec = Jvm.exec) (hZ : Z.Warmed39 s.vm) (hown : s.vm.findClass own = some m.cls) (w : (Jvm.Cond.classLink own index K).before a0 Z = true) (eT : T.heap = h) (E : Exa Z h a C)
    {g : JFrame} (hg : g.method = m) {rest : List Value} (hs : g.stack = .ref a :: rest) (hd : decode c.code g.pc = .ok (.instanceof index, 3)) :
    ∃ (b : Int32) (T' : State), Stand p l e R s m args below meth c T' locs cells slots ∧ T'.heap = h ∧ ∀ target, Steps p.tables e below (T'.setTop { g with pc := g.pc + 3, stack := .int b :: rest }) target → Steps p.tables e below (T.setTop g) target := by
  obtain ⟨t, ht, -⟩ := Cond.classLink_spec (by rw [← hZ.alike.findClass]; exact hown) w {} rfl
  obtain ⟨cell, k, e1, e2, e3, e4, e5⟩ := E
  cases hb : Z.vm.assignable cell.cls t
  · exact ⟨0, instNo X hx hZ hown w eT ⟨cell, k, e1, e2, e3, e4, e5⟩ ⟨_, _, e2, ht, hb⟩ hg hs hd⟩
  · exact ⟨1, instY X hx hZ hown w eT ⟨cell, t, e1, ht, by simp [e4, hb]⟩ hg hs hd⟩
theorem own_len (X : Stand p l e R s m args below meth c T locs cells slots) (hx : p.tables.exec = Jvm.exec) (hZ : Z.Warmed39 s.vm) (eT : T.heap = h) (V : Arv Z h a k ty n vs dv) {g : JFrame} (hg : g.method = m) {rest : List Value} (hs : g.stack = .ref a :: rest) (hd : decode c.code g.pc = .ok (.arraylength, 1)) (target : State)
    (hr : Steps p.tables e below (T.setTop { g with pc := g.pc + 1, stack := .int n :: rest }) target) : Steps p.tables e below (T.setTop g) target := by
  obtain ⟨cl, Ar, -, S, N, -, -⟩ := V
  refine X.arraylength hx (by rw [eT]; exact Ar.1) (State.isArrayOf_alike hZ.alike Ar.2.1) hg hs hd target ?_
  rw [len_of S N]
  exact hr
end OwnLib

def own_P (Z : State) (el ea : Addr) (kE : ClassId) : Prop := Sta Z Z.heap "java/util/ImmutableCollections" "EMPTY_LIST" "Ljava/util/ImmutableCollections$ListN;" (.ref el) ∧ Exa Z Z.heap el "java/util/ImmutableCollections$ListN" ∧ Fld Z Z.heap el "java/util/ImmutableCollections$ListN" "elements" "[Ljava/lang/Object;" (.ref ea) ∧ Arv Z Z.heap ea kE (.object "java/lang/Object") (0 : Int32) [] .null ∧ Fld Z Z.heap el "java/util/ImmutableCollections$ListN" "allowNulls" "Z" (.int (0 : Int32)) ∧ Sta Z Z.heap "java/util/BitSet" "$assertionsDisabled" "Z" (.int (1 : Int32))

theorem own_len0 {s : State} {args : Array Value} {t : Term} {a : Addr} {cl : Cell} {ty : FieldType} {n : Int32} {N : Nat} (ev : t.eval args s none [] s = some (.ref a)) (A : Arr s s.heap a cl ty) (h : (Jvm.Cond.eq (Term.length t) (Term.int n)).value args s none s [] = some true) (hn : n.toNatClampNeg = N) : cl.slots.size = N := by
  have h1 := eqv_i (Term.int_eval n) h
  have h2 : s.arrayAt? a = some cl := A.fin (Vm.Alike.refl _)
  by_cases hs : cl.slots.size < 2 ^ 31
  · rw [len_f ev h2 hs] at h1
    have h3 : cl.slots.size.toInt32 = n := by cases h1; rfl
    rw [← hn, ← h3]
    simp only [Int32.toNatClampNeg, len_toInt hs]
    rfl
  · have hs' : ¬ cl.slots.size < 2147483648 := hs
    simp only [Term.eval, ev] at h1
    simp [h2, hs'] at h1

theorem own_toInt {n : Nat} (h : n < 2 ^ 31) : (Int32.ofNat n).toInt = n := Int32.toInt_ofNat_small h
theorem own_irr (x : Int64) : ¬ x < x := fun h => by have := Int64.lt_iff_toInt_lt.mp h; omega
theorem own_shr6 {x : Int32} (h : ¬ x < (0 : Int32)) : ¬ (x >>> ((6 : Int32) &&& 31)) < (0 : Int32) := by
  have c := c_ishr x 6 6 (by decide)
  have e : (0 : Int32).toInt = 0 := by decide
  rw [Int32.lt_iff_toInt_lt, e] at h ⊢
  rw [c]
  omega
theorem own_s64 {z : Int32} (h : 1 ≤ z.toInt) : 1 ≤ (z.toInt64).toInt ∧ (z.toInt64).toInt < 2147483648 := by
  have := c_i2l z
  have := rng32 z
  omega
theorem own_snz {z : Int32} (h : 1 ≤ z.toInt) : (z.toInt64) ≠ 0 := by
  intro q
  have h1 := own_s64 h
  rw [q] at h1
  have e : (0 : Int64).toInt = 0 := by decide
  omega
theorem own_bit0 {q : Int64} {z : Int32} (hq : 0 ≤ q.toInt) (hz : 1 ≤ z.toInt) : ¬ ((q - (q / (z.toInt64)) * (z.toInt64)).toInt32) < (0 : Int32) := by
  have h1 := own_s64 hz
  have h2 := (c_lrem q (z.toInt64) _ rfl).1 hq
  have h3 := Int.emod_nonneg q.toInt (show (z.toInt64).toInt ≠ 0 by omega)
  have h4 := Int.emod_lt_of_pos q.toInt (show 0 < (z.toInt64).toInt by omega)
  have c := c_l2i (q - (q / (z.toInt64)) * (z.toInt64))
  have r := rng32 ((q - (q / (z.toInt64)) * (z.toInt64)).toInt32)
  have e : (0 : Int32).toInt = 0 := by decide
  rw [Int32.lt_iff_toInt_lt, e]
  omega
theorem own_size (p z : Int32) (h : z = ((1 : Int32) + (p &&& (7 : Int32)))) : 1 ≤ z.toInt ∧ z.toInt ≤ 8 := by
  have h1 := c_and p 7 (by decide)
  have e7 : (7 : Int32).toInt = 7 := by decide
  have e1 : (1 : Int32).toInt = 1 := by decide
  have c := c_iadd 1 (p &&& 7)
  have r := rng32 (1 + (p &&& 7))
  rw [h]
  omega
theorem own_q62 (p q : Int64) (h : q = (p &&& (4611686018427387903 : Int64))) : 0 ≤ q.toInt ∧ q.toInt < 4611686018427387904 := by
  have c := c_maskL p 4611686018427387903 62 (by decide) (by decide)
  rw [h, c]
  have h1 := Int.emod_nonneg p.toInt (show ((2 ^ 62 : Nat) : Int) ≠ 0 by decide)
  have h2 := Int.emod_lt_of_pos p.toInt (show (0 : Int) < ((2 ^ 62 : Nat) : Int) by decide)
  have e : ((2 ^ 62 : Nat) : Int) = 4611686018427387904 := by decide
  rw [e] at h1 h2 ⊢
  omega
theorem own_t (p z t : Int32) (h : t = (if z < (p &&& (3 : Int32)) then z else (p &&& (3 : Int32)))) (hz : 1 ≤ z.toInt ∧ z.toInt ≤ 8) : ∃ n : Nat, t = Int32.ofNat n ∧ (n ≤ 3 ∧ (n : Int) ≤ z.toInt) := by
  have h1 := c_and p 3 (by decide)
  have e3 : (3 : Int32).toInt = 3 := by decide
  have h2 : 0 ≤ t.toInt ∧ t.toInt ≤ 3 ∧ t.toInt ≤ z.toInt := by
    rw [h]
    split
    · rename_i q; rw [Int32.lt_iff_toInt_lt] at q; omega
    · rename_i q; rw [Int32.lt_iff_toInt_lt] at q; omega
  refine ⟨t.toInt.toNat, Int32.toInt_inj.mp ?_, by omega⟩
  rw [own_toInt (by omega)]
  omega
theorem own_lit {t k : Int32} {n K : Nat} (ht : t = Int32.ofNat n) (hn : n ≤ 8) (hk : k = Int32.ofNat K) (hK : K ≤ 8) : (t < k ↔ n < K) ∧ (t = k ↔ n = K) := by
  rw [ht, hk, Int32.lt_iff_toInt_lt, ← Int32.toInt_inj, own_toInt (by omega), own_toInt (by omega)]
  omega
theorem own_next {q a b c : Int64} {t z : Int32} {n : Nat} (ht : t = Int32.ofNat n) (hb : n ≤ 3 ∧ (n : Int) ≤ z.toInt) (h1 : a = (if t < (1 : Int32) then q else (q + (1 : Int64)))) (h2 : b = (if t < (2 : Int32) then a else (a + (1 : Int64)))) (h3 : c = (if t < (3 : Int32) then b else (b + (1 : Int64)))) (hq : 0 ≤ q.toInt ∧ q.toInt < 4611686018427387904) : c.toInt = q.toInt + n := by
  have l1 := (own_lit ht (by omega) (k := 1) (K := 1) rfl (by omega)).1
  have l2 := (own_lit ht (by omega) (k := 2) (K := 2) rfl (by omega)).1
  have l3 := (own_lit ht (by omega) (k := 3) (K := 3) rfl (by omega)).1
  have c1 := c_ladd q 1
  have r1 := rng64 (q + 1)
  have c2 := c_ladd (q + 1) 1
  have r2 := rng64 (q + 1 + 1)
  have c3 := c_ladd (q + 1 + 1) 1
  have r3 := rng64 (q + 1 + 1 + 1)
  have e1 : (1 : Int64).toInt = 1 := by decide
  match n, hb.1 with
  | 0, _ => rw [if_pos (l1.mpr (by omega))] at h1; rw [if_pos (l2.mpr (by omega))] at h2; rw [if_pos (l3.mpr (by omega))] at h3; rw [h3, h2, h1]; omega
  | 1, _ => rw [if_neg (mt l1.mp (by omega))] at h1; rw [if_pos (l2.mpr (by omega))] at h2; rw [if_pos (l3.mpr (by omega))] at h3; rw [h3, h2, h1]; omega
  | 2, _ => rw [if_neg (mt l1.mp (by omega))] at h1; rw [if_neg (mt l2.mp (by omega))] at h2; rw [if_pos (l3.mpr (by omega))] at h3; rw [h3, h2, h1]; omega
  | 3, _ => rw [if_neg (mt l1.mp (by omega))] at h1; rw [if_neg (mt l2.mp (by omega))] at h2; rw [if_neg (mt l3.mp (by omega))] at h3; rw [h3, h2, h1]; omega
theorem own_fin {t z v : Int32} {n : Nat} {P : Prop} [Decidable P] (ht : t = Int32.ofNat n) (hb : n ≤ 3 ∧ (n : Int) ≤ z.toInt) (h : v = (if t < (1 : Int32) then (0 : Int32) else (if P then (0 : Int32) else (1 : Int32)))) : ∃ d : Nat, v = Int32.ofNat d ∧ d ≤ 1 ∧ d ≤ n := by
  have l1 := (own_lit ht (by omega) (k := 1) (K := 1) rfl (by omega)).1
  by_cases c : t < (1 : Int32)
  · exact ⟨0, by rw [h, if_pos c]; rfl, by omega, by omega⟩
  · have := mt l1.mpr c
    by_cases p : P
    · exact ⟨0, by rw [h, if_neg c, if_pos p]; rfl, by omega, by omega⟩
    · exact ⟨1, by rw [h, if_neg c, if_neg p]; rfl, by omega, by omega⟩
theorem own_finlt {q c : Int64} {t v : Int32} {n d : Nat} (hn : c.toInt = q.toInt + n) (ht : t = Int32.ofNat n) (hd : d ≤ n) (h : ¬ v = (0 : Int32)) (hv : v = Int32.ofNat d) : q < c := by
  have h0 : d ≠ 0 := fun e => h (by rw [hv, e]; rfl)
  rw [Int64.lt_iff_toInt_lt]
  omega
theorem own_unf {q u : Int64} {v : Int32} {d : Nat} (hv : v = Int32.ofNat d) (hd : d ≤ 1) (h : u = (if v = (0 : Int32) then q else (q + (1 : Int64)))) (hq : 0 ≤ q.toInt ∧ q.toInt < 4611686018427387904) : u.toInt = q.toInt + d := by
  have l := (own_lit hv (by omega) (k := 0) (K := 0) rfl (by omega)).2
  have c1 := c_ladd q 1
  have r1 := rng64 (q + 1)
  have e1 : (1 : Int64).toInt = 1 := by decide
  by_cases c : v = (0 : Int32)
  · rw [if_pos c] at h; have := l.mp c; rw [h]; omega
  · rw [if_neg c] at h; have := mt l.mpr c; rw [h]; omega
theorem own_done {v w : Int32} {d : Nat} (hv : v = Int32.ofNat d) (hd : d ≤ 1) (h : w = (if v = (0 : Int32) then (0 : Int32) else (1 : Int32))) : w = Int32.ofNat d := by
  match d, hd with
  | 0, _ => rw [h, hv]; decide
  | 1, _ => rw [h, hv]; decide
theorem own_roomv {z : Int32} {n c : Int64} {k : Int} (hz : 1 ≤ z.toInt ∧ z.toInt ≤ 8) (hk : n.toInt - c.toInt = k) (h0 : -8 ≤ k ∧ k ≤ 8) : (((z.toInt64) - (n - c)).toInt32).toInt = z.toInt - k := by
  have c1 := c_lsub n c
  have r1 := rng64 (n - c)
  have c2 := c_lsub z.toInt64 (n - c)
  have r2 := rng64 (z.toInt64 - (n - c))
  have c3 := c_l2i (z.toInt64 - (n - c))
  have r3 := rng32 ((z.toInt64 - (n - c)).toInt32)
  have c4 := c_i2l z
  omega
theorem own_m1 : (-1 : Int64) < (0 : Int64) := by decide
theorem own_room1 {z : Int32} {q : Int64} (hz : 1 ≤ z.toInt ∧ z.toInt ≤ 8) : (if (-1 : Int64) < (0 : Int64) then (((z.toInt64) - (q - q)).toInt32) else (0 : Int32)) = z := by
  rw [if_pos own_m1]
  apply Int32.toInt_inj.mp
  rw [own_roomv (k := 0) hz (by omega) (by omega)]
  omega
theorem own_room2 {z t : Int32} {q n : Int64} {tN : Nat} (hz : 1 ≤ z.toInt ∧ z.toInt ≤ 8) (ht : t = Int32.ofNat tN) (hb : tN ≤ 3 ∧ (tN : Int) ≤ z.toInt) (hn : n.toInt = q.toInt + tN) (hq : 0 ≤ q.toInt ∧ q.toInt < 4611686018427387904) : (if (-1 : Int64) < (0 : Int64) then (((z.toInt64) - (n - q)).toInt32) else (0 : Int32)) = (z - t) := by
  rw [if_pos own_m1]
  apply Int32.toInt_inj.mp
  rw [own_roomv (k := tN) hz (by omega) (by omega)]
  have c := c_isub z t
  have r := rng32 (z - t)
  have e : t.toInt = tN := by rw [ht]; exact own_toInt (by omega)
  omega
theorem own_room4 {z t w : Int32} {q n : Int64} {tN d : Nat} (hz : 1 ≤ z.toInt ∧ z.toInt ≤ 8) (ht : t = Int32.ofNat tN) (hb : tN ≤ 3 ∧ (tN : Int) ≤ z.toInt) (hn : n.toInt = q.toInt + tN) (hq : 0 ≤ q.toInt ∧ q.toInt < 4611686018427387904) (hw : w = Int32.ofNat d) (hd : d ≤ 1) :
    (if (-1 : Int64) < (0 : Int64) then (((z.toInt64) - (n - (q + (w.toInt64)))).toInt32) else (0 : Int32)) = ((z - t) + w) := by
  rw [if_pos own_m1]
  have ew : w.toInt = d := by rw [hw]; exact own_toInt (by omega)
  have et : t.toInt = tN := by rw [ht]; exact own_toInt (by omega)
  have c0 := c_ladd q w.toInt64
  have r0 := rng64 (q + w.toInt64)
  have e0 := c_i2l w
  apply Int32.toInt_inj.mp
  rw [own_roomv (k := tN - d) hz (by omega) (by omega)]
  have c := c_isub z t
  have r := rng32 (z - t)
  have c2 := c_iadd (z - t) w
  have r2 := rng32 (z - t + w)
  omega
theorem own_moved {q n u : Int64} {t w z : Int32} {tN d : Nat} (hn : n.toInt = q.toInt + tN) (hu : u.toInt = q.toInt + d) (ht : t = Int32.ofNat tN) (hb : tN ≤ 3 ∧ (tN : Int) ≤ z.toInt) (hw : w = Int32.ofNat d) (hd : d ≤ 1) : (if u = n then (1 : Int32) else (0 : Int32)) = (if t = w then (1 : Int32) else (0 : Int32)) := by
  have l := (own_lit ht (by omega) hw (by omega)).2
  by_cases c : u = n
  · have := congrArg Int64.toInt c
    rw [if_pos c, if_pos (l.mpr (by omega))]
  · have : ¬ u.toInt = n.toInt := fun e => c (Int64.toInt_inj.mp e)
    rw [if_neg c, if_neg (mt l.mp (by omega))]
theorem own_room5 {z t x m : Int32} {q g k a b c : Int64} {tN : Nat} (hz : 1 ≤ z.toInt ∧ z.toInt ≤ 8) (hq : 0 ≤ q.toInt ∧ q.toInt < 4611686018427387904) (hg : g = ((x &&& (7 : Int32)).toInt64)) (hk : k = ((q + (t.toInt64)) + g)) (ht : t = Int32.ofNat tN) (hb : tN ≤ 3 ∧ (tN : Int) ≤ z.toInt) (hm : m = (if a = b then (1 : Int32) else (0 : Int32))) :
    (if (if a = b then (-1 : Int64) else (if (-1 : Int64) < k then k else (-1 : Int64))) < (0 : Int64) then (((z.toInt64) - ((if a = b then k else b) - (if a = b then k else c))).toInt32) else (0 : Int32)) = (if m = (0 : Int32) then (0 : Int32) else z) := by
  by_cases h : a = b
  · rw [if_pos h] at hm
    rw [hm, if_pos h, if_pos h, if_pos h, if_pos own_m1, if_neg (show ¬ (1 : Int32) = 0 by decide)]
    apply Int32.toInt_inj.mp
    rw [own_roomv (k := 0) hz (by omega) (by omega)]
    omega
  · rw [if_neg h] at hm
    rw [hm, if_neg h, if_neg h, if_neg h, if_pos (rfl : (0 : Int32) = 0)]
    have h1 := c_and x 7 (by decide)
    have e7 : (7 : Int32).toInt = 7 := by decide
    have eg : g.toInt = (x &&& (7 : Int32)).toInt := by rw [hg]; exact c_i2l _
    have et : (t.toInt64).toInt = tN := by rw [c_i2l, ht]; exact own_toInt (by omega)
    have c1 := c_ladd q t.toInt64
    have r1 := rng64 (q + t.toInt64)
    have c2 := c_ladd (q + t.toInt64) g
    have r2 := rng64 (q + t.toInt64 + g)
    rw [← hk] at c2 r2
    have e1 : (-1 : Int64).toInt = -1 := by decide
    have e0 : (0 : Int64).toInt = 0 := by decide
    have hk0 : 0 ≤ k.toInt := by omega
    rw [if_pos (show (-1 : Int64) < k by rw [Int64.lt_iff_toInt_lt]; omega), if_neg (show ¬ k < (0 : Int64) by rw [Int64.lt_iff_toInt_lt]; omega)]
theorem d4_0 : decode jdk_30_method_1_code 0 = .ok (.aload_n 0, 1) := by decide +kernel
theorem d4_1 : decode jdk_30_method_1_code 1 = .ok (.invokespecial 1, 3) := by decide +kernel
theorem d4_4 : decode jdk_30_method_1_code 4 = .ok (.return_, 1) := by decide +kernel
theorem pn_0 : plainName "java/lang/Record" = true := by first | (simp [plainName, overriddenIn]; done) | decide +kernel
theorem ef_4 (m : MethodId) (x0 : Addr) : entryFrame m #[(.ref x0)] 1 = mkF m 0 #[rv x0] [] := by first | (simp [entryFrame, mkF, argsToLocals, Value.category]; done) | rfl
def Q4 (Z : State) (oa : Addr) (h0 : Heap) (n0 : Nat) (rv_ : Option Value) (h_ : Heap) (L_ : List Loc) : Prop := rv_ = none ∧ Fr n0 L_ ∧ h_ = h0
set_option maxRecDepth 65536 in
set_option maxHeartbeats 40000000 in
theorem rm4 (l : Launch) (Z : State) (a0 : Array Value) (hw : ∀ d ∈ tables_1, d.before a0 Z = true) (ws : List Jvm.Cond) (oa : Addr) (h0 : Heap) (n0 : Nat) (Z0 : n0 ≤ h0.size) :
    MetFree l (⟨"java/lang/Record", "<init>", "()V"⟩ : MethodName) (head1 (Jvm.Cond.code (⟨"java/lang/Record", "<init>", "()V"⟩ : MethodName) jdk_30_method_1_code 1 none :: ws) ({ frames := 1, cells := 0, slots := 0, locals := 12 } : Room)) (fun a U => a = #[(.ref oa)] ∧ Z.Warmed39 U.vm ∧ U.heap = h0) (fun _ _ _ _ _ => True) (fun _ U o U' => ∃ v L, o = .returned v ∧ Q4 Z oa h0 n0 v U'.heap L ∧ FrameEnd U o U' L ({ frames := 1, cells := 0, slots := 0, locals := 12 } : Room).cells ({ frames := 1, cells := 0, slots := 0, locals := 12 } : Room).slots) := by
  refine MetFree.of_bodySF (plainFor_of_name pn_0) hisR ?_
  intro p e s m args below meth c s₁ Bd hml0 hP hK
  obtain ⟨rfl, hZ, hh⟩ := hP
  have hx := Bd.exec
  have hby := Bd.bytes
  have hml : c.maxLocals = 1 := hml0
  have hown : s.vm.findClass "java/lang/Record" = some m.cls := findClass_of_methodNamed Bd.named
  have hnm := (name_of_methodNamed Bd.named Bd.method).1
  have X0 : Stand p l e ({ frames := 1, cells := 0, slots := 0, locals := 12 } : Room) s m #[(.ref oa)] below meth c s₁ [] 0 0 := Stand.of_body Bd
  have e0 : s₁.heap = h0 := by rw [← hh, Bd.state]; rfl
  have N0 := Fr.nil n0
  obtain ⟨G, hG, pre0⟩ : ∃ G : State → Prop, (∀ t, G t → Steps p.tables e below (s₁.setTop (entryFrame m #[(.ref oa)] 1)) t) ∧ ∀ t, own_K p e below m s₁ 0 #[rv oa] [] t → G t := ⟨fun t => Steps p.tables e below (s₁.setTop (entryFrame m #[(.ref oa)] 1)) t, fun _ k => k, fun t k => castTop (ef_4 m oa) k⟩
  obtain ⟨T1, X1, e1, st1⟩ := initO X0 hx hZ hown (hw _ (List.mem_of_getElem? (i := 24) rfl)) (hw _ (List.mem_of_getElem? (i := 25) rfl)) (hw _ (List.mem_of_getElem? (i := 26) rfl)) e0 (g := (mkF m 1 #[rv oa] [(.ref oa)])) rfl (by rw [hml]; rfl) rfl (hb hby d4_1) (by decide) (W := 0) (by show 2 * 0 + _ ≤ _; exact Nat.le_of_eq rfl) (by decide)
  have pre2 : ∀ t, own_K p e below m T1 4 #[rv oa] [] t → G t := by
    intro t k
    refine pre0 t ?_
    show own_K p e below m s₁ 0 #[rv oa] [] _
    refine XS.aloadN X0.here hx rfl (hb hby d4_0) rfl rfl ?_
    show own_K p e below m s₁ 1 #[rv oa] [(.ref oa)] _
    refine st1 _ ?_
    exact k
  obtain ⟨fs, hr, hrun, hended, hW, hsame⟩ := X1.leave (v := none) (fun _ => rfl)
  refine ⟨_, _, hG _ (pre2 _ ?_), hrun, hended, _, _, rfl, ?_, ⟨_, rfl⟩, hW, hsame.mono (by decide) (by decide)⟩
  · show own_K p e below m T1 4 #[rv oa] [] _
    exact X1.returnOut hx Bd.returns (hb hby d4_4) hr
  · show Q4 Z oa h0 n0 _ T1.heap _
    rw [e1]
    exact ⟨rfl, N0, rfl⟩

theorem d2_0 : decode jdk_40_method_36_code 0 = .ok (.getstatic 90, 3) := by decide +kernel
theorem d2_3 : decode jdk_40_method_36_code 3 = .ok (.areturn, 1) := by decide +kernel
theorem pn_1 : plainName "java/util/List" = true := by first | (simp [plainName, overriddenIn]; done) | decide +kernel
theorem ef_2 (m : MethodId)  : entryFrame m #[] 0 = mkF m 0 #[] [] := by first | (simp [entryFrame, mkF, argsToLocals, Value.category]; done) | rfl
def Q2 (Z : State) (el : Addr) (ea : Addr) (kE : ClassId) (h0 : Heap) (n0 : Nat) (rv_ : Option Value) (h_ : Heap) (L_ : List Loc) : Prop := rv_ = some (.ref el) ∧ Fr n0 L_ ∧ h_ = h0
set_option maxRecDepth 65536 in
set_option maxHeartbeats 40000000 in
theorem rm2 (l : Launch) (Z : State) (a0 : Array Value) (hw : ∀ d ∈ tables_1, d.before a0 Z = true) (ws : List Jvm.Cond) (el : Addr) (ea : Addr) (kE : ClassId) (h0 : Heap) (n0 : Nat) (Z0 : n0 ≤ h0.size) (O_ : Old Z n0 h0) (P_ : own_P Z el ea kE) :
    MetFree l (⟨"java/util/List", "of", "()Ljava/util/List;"⟩ : MethodName) (head1 (Jvm.Cond.code (⟨"java/util/List", "of", "()Ljava/util/List;"⟩ : MethodName) jdk_40_method_36_code 0 (some (.object "java/util/List")) :: ws) ({ frames := 0, cells := 0, slots := 0, locals := 0 } : Room)) (fun a U => a = #[] ∧ Z.Warmed39 U.vm ∧ U.heap = h0) (fun _ _ _ _ _ => True) (fun _ U o U' => ∃ v L, o = .returned v ∧ Q2 Z el ea kE h0 n0 v U'.heap L ∧ FrameEnd U o U' L ({ frames := 0, cells := 0, slots := 0, locals := 0 } : Room).cells ({ frames := 0, cells := 0, slots := 0, locals := 0 } : Room).slots) := by
  refine MetFree.of_bodySF (plainFor_of_name pn_1) hisR ?_
  intro p e s m args below meth c s₁ Bd hml0 hP hK
  obtain ⟨rfl, hZ, hh⟩ := hP
  have hx := Bd.exec
  have hby := Bd.bytes
  have hml : c.maxLocals = 0 := hml0
  have hown : s.vm.findClass "java/util/List" = some m.cls := findClass_of_methodNamed Bd.named
  have hnm := (name_of_methodNamed Bd.named Bd.method).1
  have X0 : Stand p l e ({ frames := 0, cells := 0, slots := 0, locals := 0 } : Room) s m #[] below meth c s₁ [] 0 0 := Stand.of_body Bd
  have e0 : s₁.heap = h0 := by rw [← hh, Bd.state]; rfl
  have N0 := Fr.nil n0
  obtain ⟨G, hG, pre0⟩ : ∃ G : State → Prop, (∀ t, G t → Steps p.tables e below (s₁.setTop (entryFrame m #[] 0)) t) ∧ ∀ t, own_K p e below m s₁ 0 #[] [] t → G t := ⟨fun t => Steps p.tables e below (s₁.setTop (entryFrame m #[] 0)) t, fun _ k => k, fun t k => castTop (ef_2 m ) k⟩
  obtain ⟨T1, X1, e1, st1⟩ := getS2 X0 hx hZ hown (host := "") (Or.inl (hw _ (List.mem_of_getElem? (i := 14) rfl))) Via.refl e0 (Sta.ext O_.2 P_.1) (g := (mkF m 0 #[] [])) rfl (hb hby d2_0)
  have pre2 : ∀ t, own_K p e below m T1 3 #[] [(.ref el)] t → G t := by
    intro t k
    refine pre0 t ?_
    show own_K p e below m s₁ 0 #[] [] _
    refine st1 _ ?_
    exact k
  obtain ⟨fs, hr, hrun, hended, hW, hsame⟩ := X1.leave (v := some (.ref el)) (fun h => by rw [Bd.returns] at h; cases h)
  refine ⟨_, _, hG _ (pre2 _ ?_), hrun, hended, _, _, rfl, ?_, ⟨_, rfl⟩, hW, hsame.mono (by decide) (by decide)⟩
  · show own_K p e below m T1 3 #[] [(.ref el)] _
    exact retOut X1 hx Bd.returns rfl (Or.inr (Or.inr (Or.inr (Or.inr ⟨rfl, rfl, rfl⟩)))) (hb hby d2_3) hr
  · show Q2 Z el ea kE h0 n0 _ T1.heap _
    rw [e1]
    exact ⟨rfl, N0, rfl⟩

theorem d7_0 : decode jdk_56_method_3_code 0 = .ok (.aload_n 0, 1) := by decide +kernel
theorem d7_1 : decode jdk_56_method_3_code 1 = .ok (.instanceof 10, 3) := by decide +kernel
theorem d7_4 : decode jdk_56_method_3_code 4 = .ok (.ifCond .ne 22, 3) := by decide +kernel
theorem d7_7 : decode jdk_56_method_3_code 7 = .ok (.aload_n 0, 1) := by decide +kernel
theorem d7_8 : decode jdk_56_method_3_code 8 = .ok (.instanceof 12, 3) := by decide +kernel
theorem d7_11 : decode jdk_56_method_3_code 11 = .ok (.ifCond .eq 20, 3) := by decide +kernel
theorem d7_14 : decode jdk_56_method_3_code 14 = .ok (.aload_n 0, 1) := by decide +kernel
theorem d7_15 : decode jdk_56_method_3_code 15 = .ok (.checkcast 12, 3) := by decide +kernel
theorem d7_18 : decode jdk_56_method_3_code 18 = .ok (.astore_n 1, 1) := by decide +kernel
theorem d7_19 : decode jdk_56_method_3_code 19 = .ok (.aload_n 1, 1) := by decide +kernel
theorem d7_20 : decode jdk_56_method_3_code 20 = .ok (.getfield 14, 3) := by decide +kernel
theorem d7_23 : decode jdk_56_method_3_code 23 = .ok (.ifCond .ne 8, 3) := by decide +kernel
theorem d7_26 : decode jdk_56_method_3_code 26 = .ok (.aload_n 0, 1) := by decide +kernel
theorem d7_27 : decode jdk_56_method_3_code 27 = .ok (.checkcast 18, 3) := by decide +kernel
theorem d7_30 : decode jdk_56_method_3_code 30 = .ok (.areturn, 1) := by decide +kernel
theorem pn_2 : plainName "java/util/ImmutableCollections" = true := by first | (simp [plainName, overriddenIn]; done) | decide +kernel
theorem ef_7 (m : MethodId) (x0 : Addr) : entryFrame m #[(.ref x0)] 2 = mkF m 0 #[rv x0, .unset] [] := by first | (simp [entryFrame, mkF, argsToLocals, Value.category]; done) | rfl
def Q7 (Z : State) (oa : Addr) (h0 : Heap) (n0 : Nat) (rv_ : Option Value) (h_ : Heap) (L_ : List Loc) : Prop := rv_ = some (.ref oa) ∧ Fr n0 L_ ∧ h_ = h0
set_option maxRecDepth 65536 in
set_option maxHeartbeats 40000000 in
theorem rm7 (l : Launch) (Z : State) (a0 : Array Value) (hw : ∀ d ∈ tables_1, d.before a0 Z = true) (ws : List Jvm.Cond) (oa : Addr) (h0 : Heap) (n0 : Nat) (Z0 : n0 ≤ h0.size) (E_ : Exa Z h0 oa "java/util/ImmutableCollections$ListN") (Fa : Fld Z h0 oa "java/util/ImmutableCollections$ListN" "allowNulls" "Z" (.int (0 : Int32))) :
    MetFree l (⟨"java/util/ImmutableCollections", "listCopy", "(Ljava/util/Collection;)Ljava/util/List;"⟩ : MethodName) (head1 (Jvm.Cond.code (⟨"java/util/ImmutableCollections", "listCopy", "(Ljava/util/Collection;)Ljava/util/List;"⟩ : MethodName) jdk_56_method_3_code 2 (some (.object "java/util/List")) :: ws) ({ frames := 0, cells := 0, slots := 0, locals := 0 } : Room)) (fun a U => a = #[(.ref oa)] ∧ Z.Warmed39 U.vm ∧ U.heap = h0) (fun _ _ _ _ _ => True) (fun _ U o U' => ∃ v L, o = .returned v ∧ Q7 Z oa h0 n0 v U'.heap L ∧ FrameEnd U o U' L ({ frames := 0, cells := 0, slots := 0, locals := 0 } : Room).cells ({ frames := 0, cells := 0, slots := 0, locals := 0 } : Room).slots) := by
  refine MetFree.of_bodySF (plainFor_of_name pn_2) hisR ?_
  intro p e s m args below meth c s₁ Bd hml0 hP hK
  obtain ⟨rfl, hZ, hh⟩ := hP
  have hx := Bd.exec
  have hby := Bd.bytes
  have hml : c.maxLocals = 2 := hml0
  have hown : s.vm.findClass "java/util/ImmutableCollections" = some m.cls := findClass_of_methodNamed Bd.named
  have hnm := (name_of_methodNamed Bd.named Bd.method).1
  have X0 : Stand p l e ({ frames := 0, cells := 0, slots := 0, locals := 0 } : Room) s m #[(.ref oa)] below meth c s₁ [] 0 0 := Stand.of_body Bd
  have e0 : s₁.heap = h0 := by rw [← hh, Bd.state]; rfl
  have N0 := Fr.nil n0
  obtain ⟨G, hG, pre0⟩ : ∃ G : State → Prop, (∀ t, G t → Steps p.tables e below (s₁.setTop (entryFrame m #[(.ref oa)] 2)) t) ∧ ∀ t, own_K p e below m s₁ 0 #[rv oa, .unset] [] t → G t := ⟨fun t => Steps p.tables e below (s₁.setTop (entryFrame m #[(.ref oa)] 2)) t, fun _ k => k, fun t k => castTop (ef_7 m oa) k⟩
  obtain ⟨ib1, T1, X1, e1, st1⟩ := own_inst X0 hx hZ hown (hw _ (List.mem_of_getElem? (i := 33) rfl)) e0 E_ (g := (mkF m 1 #[rv oa, .unset] [(.ref oa)])) rfl rfl (hb hby d7_1)
  have pre2 : ∀ t, own_K p e below m T1 4 #[rv oa, .unset] [(.int ib1)] t → G t := by
    intro t k
    refine pre0 t ?_
    show own_K p e below m s₁ 0 #[rv oa, .unset] [] _
    refine XS.aloadN X0.here hx rfl (hb hby d7_0) rfl rfl ?_
    show own_K p e below m s₁ 1 #[rv oa, .unset] [(.ref oa)] _
    refine st1 _ ?_
    exact k
  by_cases hc4_3 : ib1 = (0 : Int32)
  · obtain ⟨T4, X4, e4, st4⟩ := instY X1 hx hZ hown (hw _ (List.mem_of_getElem? (i := 39) rfl)) e1 (Ins.self E_) (g := (mkF m 8 #[rv oa, .unset] [(.ref oa)])) rfl rfl (hb hby d7_8)
    obtain ⟨T5, X5, e5, st5⟩ := castY X4 hx hZ hown (hw _ (List.mem_of_getElem? (i := 39) rfl)) e4 (Ins.self E_) (g := (mkF m 15 #[rv oa, .unset] [(.ref oa)])) rfl rfl (hb hby d7_15)
    obtain ⟨T6, X6, e6, st6⟩ := getF X5 hx hZ hown (Or.inr (hw _ (List.mem_of_getElem? (i := 41) rfl))) Via.refl e5 Fa (g := (mkF m 20 #[rv oa, rv oa] [(.ref oa)])) rfl rfl (hb hby d7_20)
    obtain ⟨T7, X7, e7, st7⟩ := castY X6 hx hZ hown (hw _ (List.mem_of_getElem? (i := 43) rfl)) e6 (Ins.of_exa E_ (hw _ (List.mem_of_getElem? (i := 44) rfl))) (g := (mkF m 27 #[rv oa, rv oa] [(.ref oa)])) rfl rfl (hb hby d7_27)
    have pre8 : ∀ t, own_K p e below m T7 30 #[rv oa, rv oa] [(.ref oa)] t → G t := by
      intro t k
      refine pre2 t ?_
      show own_K p e below m T1 4 #[rv oa, .unset] [(.int ib1)] _
      refine XS.ifNo X1.here hx rfl (hb hby d7_4) rfl ((if0 _ _).trans (teq hc4_3).2) ?_
      show own_K p e below m T1 7 #[rv oa, .unset] [] _
      refine XS.aloadN X1.here hx rfl (hb hby d7_7) rfl rfl ?_
      show own_K p e below m T1 8 #[rv oa, .unset] [(.ref oa)] _
      refine st4 _ ?_
      show own_K p e below m T4 11 #[rv oa, .unset] [(.int (1 : Int32))] _
      refine XS.ifNo X4.here hx rfl (hb hby d7_11) rfl ((if0 _ _).trans (feq (by decide : ¬ ((1 : Int32) = (0 : Int32)))).1) ?_
      show own_K p e below m T4 14 #[rv oa, .unset] [] _
      refine XS.aloadN X4.here hx rfl (hb hby d7_14) rfl rfl ?_
      show own_K p e below m T4 15 #[rv oa, .unset] [(.ref oa)] _
      refine st5 _ ?_
      show own_K p e below m T5 18 #[rv oa, .unset] [(.ref oa)] _
      refine XS.astoreN X5.here hx rfl (hb hby d7_18) rfl rfl (l' := #[rv oa, rv oa]) rfl ?_
      show own_K p e below m T5 19 #[rv oa, rv oa] [] _
      refine XS.aloadN X5.here hx rfl (hb hby d7_19) rfl rfl ?_
      show own_K p e below m T5 20 #[rv oa, rv oa] [(.ref oa)] _
      refine st6 _ ?_
      show own_K p e below m T6 23 #[rv oa, rv oa] [(.int (0 : Int32))] _
      refine XS.ifNo X6.here hx rfl (hb hby d7_23) rfl ((if0 _ _).trans (teq (by decide : (0 : Int32) = (0 : Int32))).2) ?_
      show own_K p e below m T6 26 #[rv oa, rv oa] [] _
      refine XS.aloadN X6.here hx rfl (hb hby d7_26) rfl rfl ?_
      show own_K p e below m T6 27 #[rv oa, rv oa] [(.ref oa)] _
      refine st7 _ ?_
      exact k
    obtain ⟨fs, hr, hrun, hended, hW, hsame⟩ := X7.leave (v := some (.ref oa)) (fun h => by rw [Bd.returns] at h; cases h)
    refine ⟨_, _, hG _ (pre8 _ ?_), hrun, hended, _, _, rfl, ?_, ⟨_, rfl⟩, hW, hsame.mono (by decide) (by decide)⟩
    · show own_K p e below m T7 30 #[rv oa, rv oa] [(.ref oa)] _
      exact retOut X7 hx Bd.returns rfl (Or.inr (Or.inr (Or.inr (Or.inr ⟨rfl, rfl, rfl⟩)))) (hb hby d7_30) hr
    · show Q7 Z oa h0 n0 _ T7.heap _
      rw [e7]
      exact ⟨rfl, N0, rfl⟩
  · obtain ⟨T9, X9, e9, st9⟩ := castY X1 hx hZ hown (hw _ (List.mem_of_getElem? (i := 43) rfl)) e1 (Ins.of_exa E_ (hw _ (List.mem_of_getElem? (i := 44) rfl))) (g := (mkF m 27 #[rv oa, .unset] [(.ref oa)])) rfl rfl (hb hby d7_27)
    have pre10 : ∀ t, own_K p e below m T9 30 #[rv oa, .unset] [(.ref oa)] t → G t := by
      intro t k
      refine pre2 t ?_
      show own_K p e below m T1 4 #[rv oa, .unset] [(.int ib1)] _
      refine XS.ifYes X1.here hx rfl (pc0 := 4) (pc' := 26) rfl (hb hby d7_4) rfl ((if0 _ _).trans (feq hc4_3).2) (by decide) (by decide) ?_
      show own_K p e below m T1 26 #[rv oa, .unset] [] _
      refine XS.aloadN X1.here hx rfl (hb hby d7_26) rfl rfl ?_
      show own_K p e below m T1 27 #[rv oa, .unset] [(.ref oa)] _
      refine st9 _ ?_
      exact k
    obtain ⟨fs, hr, hrun, hended, hW, hsame⟩ := X9.leave (v := some (.ref oa)) (fun h => by rw [Bd.returns] at h; cases h)
    refine ⟨_, _, hG _ (pre10 _ ?_), hrun, hended, _, _, rfl, ?_, ⟨_, rfl⟩, hW, hsame.mono (by decide) (by decide)⟩
    · show own_K p e below m T9 30 #[rv oa, .unset] [(.ref oa)] _
      exact retOut X9 hx Bd.returns rfl (Or.inr (Or.inr (Or.inr (Or.inr ⟨rfl, rfl, rfl⟩)))) (hb hby d7_30) hr
    · show Q7 Z oa h0 n0 _ T9.heap _
      rw [e9]
      exact ⟨rfl, N0, rfl⟩

theorem d6_0 : decode jdk_40_method_48_code 0 = .ok (.aload_n 0, 1) := by decide +kernel
theorem d6_1 : decode jdk_40_method_48_code 1 = .ok (.invokestatic 112, 3) := by decide +kernel
theorem pd_0 : parseMethodDescriptor "(Ljava/util/Collection;)Ljava/util/List;" = some ⟨[(.object "java/util/Collection")], some (.object "java/util/List")⟩ := by decide +kernel
theorem d6_4 : decode jdk_40_method_48_code 4 = .ok (.areturn, 1) := by decide +kernel
theorem ef_6 (m : MethodId) (x0 : Addr) : entryFrame m #[(.ref x0)] 1 = mkF m 0 #[rv x0] [] := by first | (simp [entryFrame, mkF, argsToLocals, Value.category]; done) | rfl
def Q6 (Z : State) (oa : Addr) (h0 : Heap) (n0 : Nat) (rv_ : Option Value) (h_ : Heap) (L_ : List Loc) : Prop := rv_ = some (.ref oa) ∧ Fr n0 L_ ∧ h_ = h0
set_option maxRecDepth 65536 in
set_option maxHeartbeats 40000000 in
theorem rm6 (l : Launch) (Z : State) (a0 : Array Value) (hw : ∀ d ∈ tables_1, d.before a0 Z = true) (ws : List Jvm.Cond) (oa : Addr) (h0 : Heap) (n0 : Nat) (Z0 : n0 ≤ h0.size) (E_ : Exa Z h0 oa "java/util/ImmutableCollections$ListN") (Fa : Fld Z h0 oa "java/util/ImmutableCollections$ListN" "allowNulls" "Z" (.int (0 : Int32))) :
    MetFree l (⟨"java/util/List", "copyOf", "(Ljava/util/Collection;)Ljava/util/List;"⟩ : MethodName) (head1 (Jvm.Cond.code (⟨"java/util/List", "copyOf", "(Ljava/util/Collection;)Ljava/util/List;"⟩ : MethodName) jdk_40_method_48_code 1 (some (.object "java/util/List")) :: ws) ({ frames := 1, cells := 0, slots := 0, locals := 13 } : Room)) (fun a U => a = #[(.ref oa)] ∧ Z.Warmed39 U.vm ∧ U.heap = h0) (fun _ _ _ _ _ => True) (fun _ U o U' => ∃ v L, o = .returned v ∧ Q6 Z oa h0 n0 v U'.heap L ∧ FrameEnd U o U' L ({ frames := 1, cells := 0, slots := 0, locals := 13 } : Room).cells ({ frames := 1, cells := 0, slots := 0, locals := 13 } : Room).slots) := by
  refine MetFree.of_bodySF (plainFor_of_name pn_1) hisR ?_
  intro p e s m args below meth c s₁ Bd hml0 hP hK
  obtain ⟨rfl, hZ, hh⟩ := hP
  have hx := Bd.exec
  have hby := Bd.bytes
  have hml : c.maxLocals = 1 := hml0
  have hown : s.vm.findClass "java/util/List" = some m.cls := findClass_of_methodNamed Bd.named
  have hnm := (name_of_methodNamed Bd.named Bd.method).1
  have X0 : Stand p l e ({ frames := 1, cells := 0, slots := 0, locals := 13 } : Room) s m #[(.ref oa)] below meth c s₁ [] 0 0 := Stand.of_body Bd
  have e0 : s₁.heap = h0 := by rw [← hh, Bd.state]; rfl
  have N0 := Fr.nil n0
  obtain ⟨G, hG, pre0⟩ : ∃ G : State → Prop, (∀ t, G t → Steps p.tables e below (s₁.setTop (entryFrame m #[(.ref oa)] 1)) t) ∧ ∀ t, own_K p e below m s₁ 0 #[rv oa] [] t → G t := ⟨fun t => Steps p.tables e below (s₁.setTop (entryFrame m #[(.ref oa)] 1)) t, fun _ k => k, fun t k => castTop (ef_6 m oa) k⟩
  obtain ⟨_, _, ⟨T1, L1, k1, n1⟩, -, X1, ⟨Lc1, hQ1, l1, y1, z1⟩, st1⟩ := Jvm.LawKit.callS X0 hx (y := (⟨"java/util/ImmutableCollections", "listCopy", "(Ljava/util/Collection;)Ljava/util/List;"⟩ : MethodName)) hown (mvT hZ (hw _ (List.mem_of_getElem? (i := 30) rfl))) (mvT hZ (hw _ (List.mem_of_getElem? (i := 31) rfl))) (mvT hZ (hw _ (List.mem_of_getElem? (i := 15) rfl))) (mvT hZ (hw _ (List.mem_of_getElem? (i := 32) rfl))) (by decide) (backOf (W := 0) (rm7 l Z a0 hw [] oa h0 n0 Z0 E_ Fa) hZ (hw _ (List.mem_of_getElem? (i := 32) rfl)) (hw _ (List.mem_of_getElem? (i := 15) rfl)) (by decide) (by decide)) (g := (mkF m 1 #[rv oa] [(.ref oa)])) rfl (by rw [hml]; rfl) (argsL := [(.ref oa)]) (rest := []) (lenOf pd_0 rfl) rfl (by show 2 * 0 + _ ≤ _; exact Nat.le_of_eq rfl) (hb hby d6_1) (fun _ _ => ⟨rfl, e0, (by decide : 0 + 0 ≤ _), (by decide : 0 + 0 ≤ _)⟩)
  dsimp only [Pt.U, Pt.locs, Pt.cells, Pt.slots] at X1 l1 y1 z1 st1 hQ1
  subst l1 y1 z1
  obtain ⟨rfl, Nq1, eh1⟩ := hQ1
  have N1 := Fr.app N0 Nq1
  have pre2 : ∀ t, own_K p e below m T1 4 #[rv oa] [(.ref oa)] t → G t := by
    intro t k
    refine pre0 t ?_
    show own_K p e below m s₁ 0 #[rv oa] [] _
    refine XS.aloadN X0.here hx rfl (hb hby d6_0) rfl rfl ?_
    show own_K p e below m s₁ 1 #[rv oa] [(.ref oa)] _
    refine st1 _ ?_
    exact k
  obtain ⟨fs, hr, hrun, hended, hW, hsame⟩ := X1.leave (v := some (.ref oa)) (fun h => by rw [Bd.returns] at h; cases h)
  refine ⟨_, _, hG _ (pre2 _ ?_), hrun, hended, _, _, rfl, ?_, ⟨_, rfl⟩, hW, hsame.mono (by decide) (by decide)⟩
  · show own_K p e below m T1 4 #[rv oa] [(.ref oa)] _
    exact retOut X1 hx Bd.returns rfl (Or.inr (Or.inr (Or.inr (Or.inr ⟨rfl, rfl, rfl⟩)))) (hb hby d6_4) hr
  · show Q6 Z oa h0 n0 _ T1.heap _
    rw [eh1]
    exact ⟨rfl, N1, rfl⟩

theorem d9_0 : decode jdk_45_method_3_code 0 = .ok (.aload_n 0, 1) := by decide +kernel
theorem d9_1 : decode jdk_45_method_3_code 1 = .ok (.getfield 7, 3) := by decide +kernel
theorem d9_4 : decode jdk_45_method_3_code 4 = .ok (.arraylength, 1) := by decide +kernel
theorem d9_5 : decode jdk_45_method_3_code 5 = .ok (.ireturn, 1) := by decide +kernel
theorem pn_3 : plainName "java/util/ImmutableCollections$ListN" = true := by first | (simp [plainName, overriddenIn]; done) | decide +kernel
theorem ef_9 (m : MethodId) (x0 : Addr) : entryFrame m #[(.ref x0)] 1 = mkF m 0 #[rv x0] [] := by first | (simp [entryFrame, mkF, argsToLocals, Value.category]; done) | rfl
def Q9 (Z : State) (oa : Addr) (oe : Addr) (rk : ClassId) (xn : Int32) (vs : List Value) (dv : Value) (h0 : Heap) (n0 : Nat) (rv_ : Option Value) (h_ : Heap) (L_ : List Loc) : Prop := rv_ = some (.int xn) ∧ Fr n0 L_ ∧ h_ = h0
set_option maxRecDepth 65536 in
set_option maxHeartbeats 40000000 in
theorem rm9 (l : Launch) (Z : State) (a0 : Array Value) (hw : ∀ d ∈ tables_1, d.before a0 Z = true) (ws : List Jvm.Cond) (oa : Addr) (oe : Addr) (rk : ClassId) (xn : Int32) (vs : List Value) (dv : Value) (h0 : Heap) (n0 : Nat) (Z0 : n0 ≤ h0.size) (Fe : Fld Z h0 oa "java/util/ImmutableCollections$ListN" "elements" "[Ljava/lang/Object;" (.ref oe)) (Ve : Arv Z h0 oe rk (.object "java/lang/Object") xn vs dv) :
    MetFree l (⟨"java/util/ImmutableCollections$ListN", "size", "()I"⟩ : MethodName) (head1 (Jvm.Cond.code (⟨"java/util/ImmutableCollections$ListN", "size", "()I"⟩ : MethodName) jdk_45_method_3_code 1 (some .int) :: ws) ({ frames := 0, cells := 0, slots := 0, locals := 0 } : Room)) (fun a U => a = #[(.ref oa)] ∧ Z.Warmed39 U.vm ∧ U.heap = h0) (fun _ _ _ _ _ => True) (fun _ U o U' => ∃ v L, o = .returned v ∧ Q9 Z oa oe rk xn vs dv h0 n0 v U'.heap L ∧ FrameEnd U o U' L ({ frames := 0, cells := 0, slots := 0, locals := 0 } : Room).cells ({ frames := 0, cells := 0, slots := 0, locals := 0 } : Room).slots) := by
  refine MetFree.of_bodySF (plainFor_of_name pn_3) hisR ?_
  intro p e s m args below meth c s₁ Bd hml0 hP hK
  obtain ⟨rfl, hZ, hh⟩ := hP
  have hx := Bd.exec
  have hby := Bd.bytes
  have hml : c.maxLocals = 1 := hml0
  have hown : s.vm.findClass "java/util/ImmutableCollections$ListN" = some m.cls := findClass_of_methodNamed Bd.named
  have hnm := (name_of_methodNamed Bd.named Bd.method).1
  have X0 : Stand p l e ({ frames := 0, cells := 0, slots := 0, locals := 0 } : Room) s m #[(.ref oa)] below meth c s₁ [] 0 0 := Stand.of_body Bd
  have e0 : s₁.heap = h0 := by rw [← hh, Bd.state]; rfl
  have N0 := Fr.nil n0
  obtain ⟨G, hG, pre0⟩ : ∃ G : State → Prop, (∀ t, G t → Steps p.tables e below (s₁.setTop (entryFrame m #[(.ref oa)] 1)) t) ∧ ∀ t, own_K p e below m s₁ 0 #[rv oa] [] t → G t := ⟨fun t => Steps p.tables e below (s₁.setTop (entryFrame m #[(.ref oa)] 1)) t, fun _ k => k, fun t k => castTop (ef_9 m oa) k⟩
  obtain ⟨T1, X1, e1, st1⟩ := getF X0 hx hZ hown (host := "") (Or.inl (hw _ (List.mem_of_getElem? (i := 64) rfl))) Via.refl e0 Fe (g := (mkF m 1 #[rv oa] [(.ref oa)])) rfl rfl (hb hby d9_1)
  have pre3 : ∀ t, own_K p e below m T1 5 #[rv oa] [(.int xn)] t → G t := by
    intro t k
    refine pre0 t ?_
    show own_K p e below m s₁ 0 #[rv oa] [] _
    refine XS.aloadN X0.here hx rfl (hb hby d9_0) rfl rfl ?_
    show own_K p e below m s₁ 1 #[rv oa] [(.ref oa)] _
    refine st1 _ ?_
    show own_K p e below m T1 4 #[rv oa] [(.ref oe)] _
    refine own_len X1 hx hZ e1 Ve (g := (mkF m 4 #[rv oa] [(.ref oe)])) rfl rfl (hb hby d9_4) _ ?_
    exact k
  obtain ⟨fs, hr, hrun, hended, hW, hsame⟩ := X1.leave (v := some (.int xn)) (fun h => by rw [Bd.returns] at h; cases h)
  refine ⟨_, _, hG _ (pre3 _ ?_), hrun, hended, _, _, rfl, ?_, ⟨_, rfl⟩, hW, hsame.mono (by decide) (by decide)⟩
  · show own_K p e below m T1 5 #[rv oa] [(.int xn)] _
    exact retI X1 hx Bd.returns (hb hby d9_5) hr
  · show Q9 Z oa oe rk xn vs dv h0 n0 _ T1.heap _
    rw [e1]
    exact ⟨rfl, N0, rfl⟩

theorem d19_0 : decode jdk_45_method_2_code 0 = .ok (.aload_n 0, 1) := by decide +kernel
theorem d19_1 : decode jdk_45_method_2_code 1 = .ok (.getfield 7, 3) := by decide +kernel
theorem d19_4 : decode jdk_45_method_2_code 4 = .ok (.arraylength, 1) := by decide +kernel
theorem d19_5 : decode jdk_45_method_2_code 5 = .ok (.ifCond .ne 7, 3) := by decide +kernel
theorem d19_8 : decode jdk_45_method_2_code 8 = .ok (.iconst 1, 1) := by decide +kernel
theorem d19_9 : decode jdk_45_method_2_code 9 = .ok (.goto 4, 3) := by decide +kernel
theorem d19_13 : decode jdk_45_method_2_code 13 = .ok (.ireturn, 1) := by decide +kernel
theorem d19_12 : decode jdk_45_method_2_code 12 = .ok (.iconst 0, 1) := by decide +kernel
theorem ef_19 (m : MethodId) (x0 : Addr) : entryFrame m #[(.ref x0)] 1 = mkF m 0 #[rv x0] [] := by first | (simp [entryFrame, mkF, argsToLocals, Value.category]; done) | rfl
def Q19 (Z : State) (oa : Addr) (oe : Addr) (rk : ClassId) (xn : Int32) (vs : List Value) (dv : Value) (h0 : Heap) (n0 : Nat) (rv_ : Option Value) (h_ : Heap) (L_ : List Loc) : Prop := rv_ = some (.int (if xn = (0 : Int32) then (1 : Int32) else (0 : Int32))) ∧ Fr n0 L_ ∧ h_ = h0
set_option maxRecDepth 65536 in
set_option maxHeartbeats 40000000 in
theorem rm19 (l : Launch) (Z : State) (a0 : Array Value) (hw : ∀ d ∈ tables_1, d.before a0 Z = true) (ws : List Jvm.Cond) (oa : Addr) (oe : Addr) (rk : ClassId) (xn : Int32) (vs : List Value) (dv : Value) (h0 : Heap) (n0 : Nat) (Z0 : n0 ≤ h0.size) (Fe : Fld Z h0 oa "java/util/ImmutableCollections$ListN" "elements" "[Ljava/lang/Object;" (.ref oe)) (Ve : Arv Z h0 oe rk (.object "java/lang/Object") xn vs dv) :
    MetFree l (⟨"java/util/ImmutableCollections$ListN", "isEmpty", "()Z"⟩ : MethodName) (head1 (Jvm.Cond.code (⟨"java/util/ImmutableCollections$ListN", "isEmpty", "()Z"⟩ : MethodName) jdk_45_method_2_code 1 (some .boolean) :: ws) ({ frames := 0, cells := 0, slots := 0, locals := 0 } : Room)) (fun a U => a = #[(.ref oa)] ∧ Z.Warmed39 U.vm ∧ U.heap = h0) (fun _ _ _ _ _ => True) (fun _ U o U' => ∃ v L, o = .returned v ∧ Q19 Z oa oe rk xn vs dv h0 n0 v U'.heap L ∧ FrameEnd U o U' L ({ frames := 0, cells := 0, slots := 0, locals := 0 } : Room).cells ({ frames := 0, cells := 0, slots := 0, locals := 0 } : Room).slots) := by
  refine MetFree.of_bodySF (plainFor_of_name pn_3) hisR ?_
  intro p e s m args below meth c s₁ Bd hml0 hP hK
  obtain ⟨rfl, hZ, hh⟩ := hP
  have hx := Bd.exec
  have hby := Bd.bytes
  have hml : c.maxLocals = 1 := hml0
  have hown : s.vm.findClass "java/util/ImmutableCollections$ListN" = some m.cls := findClass_of_methodNamed Bd.named
  have hnm := (name_of_methodNamed Bd.named Bd.method).1
  have X0 : Stand p l e ({ frames := 0, cells := 0, slots := 0, locals := 0 } : Room) s m #[(.ref oa)] below meth c s₁ [] 0 0 := Stand.of_body Bd
  have e0 : s₁.heap = h0 := by rw [← hh, Bd.state]; rfl
  have N0 := Fr.nil n0
  obtain ⟨G, hG, pre0⟩ : ∃ G : State → Prop, (∀ t, G t → Steps p.tables e below (s₁.setTop (entryFrame m #[(.ref oa)] 1)) t) ∧ ∀ t, own_K p e below m s₁ 0 #[rv oa] [] t → G t := ⟨fun t => Steps p.tables e below (s₁.setTop (entryFrame m #[(.ref oa)] 1)) t, fun _ k => k, fun t k => castTop (ef_19 m oa) k⟩
  obtain ⟨T1, X1, e1, st1⟩ := getF X0 hx hZ hown (host := "") (Or.inl (hw _ (List.mem_of_getElem? (i := 64) rfl))) Via.refl e0 Fe (g := (mkF m 1 #[rv oa] [(.ref oa)])) rfl rfl (hb hby d19_1)
  have pre3 : ∀ t, own_K p e below m T1 5 #[rv oa] [(.int xn)] t → G t := by
    intro t k
    refine pre0 t ?_
    show own_K p e below m s₁ 0 #[rv oa] [] _
    refine XS.aloadN X0.here hx rfl (hb hby d19_0) rfl rfl ?_
    show own_K p e below m s₁ 1 #[rv oa] [(.ref oa)] _
    refine st1 _ ?_
    show own_K p e below m T1 4 #[rv oa] [(.ref oe)] _
    refine own_len X1 hx hZ e1 Ve (g := (mkF m 4 #[rv oa] [(.ref oe)])) rfl rfl (hb hby d19_4) _ ?_
    exact k
  by_cases hc5_4 : xn = (0 : Int32)
  · have pre5 : ∀ t, own_K p e below m T1 13 #[rv oa] [(.int (1 : Int32))] t → G t := by
      intro t k
      refine pre3 t ?_
      show own_K p e below m T1 5 #[rv oa] [(.int xn)] _
      refine XS.ifNo X1.here hx rfl (hb hby d19_5) rfl ((if0 _ _).trans (teq hc5_4).2) ?_
      show own_K p e below m T1 8 #[rv oa] [] _
      refine XS.iconst X1.here hx rfl (hb hby d19_8) ?_
      show own_K p e below m T1 9 #[rv oa] [(.int (1 : Int32))] _
      refine XS.goto X1.here hx rfl (pc0 := 9) (pc' := 13) rfl (hb hby d19_9) (by decide) (by decide) ?_
      exact k
    obtain ⟨fs, hr, hrun, hended, hW, hsame⟩ := X1.leave (v := some (.int (1 : Int32))) (fun h => by rw [Bd.returns] at h; cases h)
    refine ⟨_, _, hG _ (pre5 _ ?_), hrun, hended, _, _, rfl, ?_, ⟨_, rfl⟩, hW, hsame.mono (by decide) (by decide)⟩
    · show own_K p e below m T1 13 #[rv oa] [(.int (1 : Int32))] _
      exact retN X1 hx (t := .boolean) Bd.returns (by simp) (hb hby d19_13) hr
    · show Q19 Z oa oe rk xn vs dv h0 n0 _ T1.heap _
      rw [e1]
      exact ⟨(by simp only [if_pos hc5_4]), N0, rfl⟩
  · have pre6 : ∀ t, own_K p e below m T1 13 #[rv oa] [(.int (0 : Int32))] t → G t := by
      intro t k
      refine pre3 t ?_
      show own_K p e below m T1 5 #[rv oa] [(.int xn)] _
      refine XS.ifYes X1.here hx rfl (pc0 := 5) (pc' := 12) rfl (hb hby d19_5) rfl ((if0 _ _).trans (feq hc5_4).2) (by decide) (by decide) ?_
      show own_K p e below m T1 12 #[rv oa] [] _
      refine XS.iconst X1.here hx rfl (hb hby d19_12) ?_
      exact k
    obtain ⟨fs, hr, hrun, hended, hW, hsame⟩ := X1.leave (v := some (.int (0 : Int32))) (fun h => by rw [Bd.returns] at h; cases h)
    refine ⟨_, _, hG _ (pre6 _ ?_), hrun, hended, _, _, rfl, ?_, ⟨_, rfl⟩, hW, hsame.mono (by decide) (by decide)⟩
    · show own_K p e below m T1 13 #[rv oa] [(.int (0 : Int32))] _
      exact retN X1 hx (t := .boolean) Bd.returns (by simp) (hb hby d19_13) hr
    · show Q19 Z oa oe rk xn vs dv h0 n0 _ T1.heap _
      rw [e1]
      exact ⟨(by simp only [if_neg hc5_4]), N0, rfl⟩

theorem d10_0 : decode jdk_53_method_1_code 0 = .ok (.aload_n 0, 1) := by decide +kernel
theorem d10_1 : decode jdk_53_method_1_code 1 = .ok (.invokespecial 1, 3) := by decide +kernel
theorem d10_4 : decode jdk_53_method_1_code 4 = .ok (.aload_n 0, 1) := by decide +kernel
theorem d10_5 : decode jdk_53_method_1_code 5 = .ok (.aload_n 1, 1) := by decide +kernel
theorem d10_6 : decode jdk_53_method_1_code 6 = .ok (.putfield 7, 3) := by decide +kernel
theorem d10_9 : decode jdk_53_method_1_code 9 = .ok (.aload_n 0, 1) := by decide +kernel
theorem d10_10 : decode jdk_53_method_1_code 10 = .ok (.iload_n 2, 1) := by decide +kernel
theorem d10_11 : decode jdk_53_method_1_code 11 = .ok (.putfield 13, 3) := by decide +kernel
theorem d10_14 : decode jdk_53_method_1_code 14 = .ok (.aload_n 0, 1) := by decide +kernel
theorem d10_15 : decode jdk_53_method_1_code 15 = .ok (.iconst 0, 1) := by decide +kernel
theorem d10_16 : decode jdk_53_method_1_code 16 = .ok (.putfield 17, 3) := by decide +kernel
theorem d10_19 : decode jdk_53_method_1_code 19 = .ok (.aload_n 0, 1) := by decide +kernel
theorem d10_20 : decode jdk_53_method_1_code 20 = .ok (.iconst 0, 1) := by decide +kernel
theorem d10_21 : decode jdk_53_method_1_code 21 = .ok (.putfield 20, 3) := by decide +kernel
theorem d10_24 : decode jdk_53_method_1_code 24 = .ok (.return_, 1) := by decide +kernel
theorem pn_4 : plainName "java/util/ImmutableCollections$ListItr" = true := by first | (simp [plainName, overriddenIn]; done) | decide +kernel
theorem ef_10 (m : MethodId) (x0 : Addr) (x1 : Addr) (x2 : Int32) : entryFrame m #[(.ref x0), (.ref x1), (.int x2)] 3 = mkF m 0 #[rv x0, rv x1, iv x2] [] := by first | (simp [entryFrame, mkF, argsToLocals, Value.category]; done) | rfl
def Q10 (Z : State) (oa : Addr) (ol : Addr) (xs : Int32) (u0 : Value) (u1 : Value) (u2 : Value) (u3 : Value) (h0 : Heap) (n0 : Nat) (rv_ : Option Value) (h_ : Heap) (L_ : List Loc) : Prop := rv_ = none ∧ Fr n0 L_ ∧ Keep h0 h_ [oa] ∧ Fld Z h_ oa "java/util/ImmutableCollections$ListItr" "size" "I" (.int xs) ∧ Fld Z h_ oa "java/util/ImmutableCollections$ListItr" "cursor" "I" (.int (0 : Int32))
set_option maxRecDepth 65536 in
set_option maxHeartbeats 40000000 in
theorem rm10 (l : Launch) (Z : State) (a0 : Array Value) (hw : ∀ d ∈ tables_1, d.before a0 Z = true) (ws : List Jvm.Cond) (oa : Addr) (ol : Addr) (xs : Int32) (u0 : Value) (u1 : Value) (u2 : Value) (u3 : Value) (h0 : Heap) (n0 : Nat) (Z0 : n0 ≤ h0.size) (E_ : Exa Z h0 oa "java/util/ImmutableCollections$ListItr") (F0 : Fld Z h0 oa "java/util/ImmutableCollections$ListItr" "list" "Ljava/util/List;" u0) (F1 : Fld Z h0 oa "java/util/ImmutableCollections$ListItr" "size" "I" u1) (F2 : Fld Z h0 oa "java/util/ImmutableCollections$ListItr" "cursor" "I" u2) (F3 : Fld Z h0 oa "java/util/ImmutableCollections$ListItr" "isListIterator" "Z" u3) (g_ : n0 ≤ oa) :
    MetFree l (⟨"java/util/ImmutableCollections$ListItr", "<init>", "(Ljava/util/List;I)V"⟩ : MethodName) (head1 (Jvm.Cond.code (⟨"java/util/ImmutableCollections$ListItr", "<init>", "(Ljava/util/List;I)V"⟩ : MethodName) jdk_53_method_1_code 3 none :: ws) ({ frames := 1, cells := 0, slots := 0, locals := 12 } : Room)) (fun a U => a = #[(.ref oa), (.ref ol), (.int xs)] ∧ Z.Warmed39 U.vm ∧ U.heap = h0) (fun _ _ _ _ _ => True) (fun _ U o U' => ∃ v L, o = .returned v ∧ Q10 Z oa ol xs u0 u1 u2 u3 h0 n0 v U'.heap L ∧ FrameEnd U o U' L ({ frames := 1, cells := 0, slots := 0, locals := 12 } : Room).cells ({ frames := 1, cells := 0, slots := 0, locals := 12 } : Room).slots) := by
  refine MetFree.of_bodySF (plainFor_of_name pn_4) hisR ?_
  intro p e s m args below meth c s₁ Bd hml0 hP hK
  obtain ⟨rfl, hZ, hh⟩ := hP
  have hx := Bd.exec
  have hby := Bd.bytes
  have hml : c.maxLocals = 3 := hml0
  have hown : s.vm.findClass "java/util/ImmutableCollections$ListItr" = some m.cls := findClass_of_methodNamed Bd.named
  have hnm := (name_of_methodNamed Bd.named Bd.method).1
  have X0 : Stand p l e ({ frames := 1, cells := 0, slots := 0, locals := 12 } : Room) s m #[(.ref oa), (.ref ol), (.int xs)] below meth c s₁ [] 0 0 := Stand.of_body Bd
  have e0 : s₁.heap = h0 := by rw [← hh, Bd.state]; rfl
  have N0 := Fr.nil n0
  obtain ⟨G, hG, pre0⟩ : ∃ G : State → Prop, (∀ t, G t → Steps p.tables e below (s₁.setTop (entryFrame m #[(.ref oa), (.ref ol), (.int xs)] 3)) t) ∧ ∀ t, own_K p e below m s₁ 0 #[rv oa, rv ol, iv xs] [] t → G t := ⟨fun t => Steps p.tables e below (s₁.setTop (entryFrame m #[(.ref oa), (.ref ol), (.int xs)] 3)) t, fun _ k => k, fun t k => castTop (ef_10 m oa ol xs) k⟩
  obtain ⟨T1, X1, e1, st1⟩ := initO X0 hx hZ hown (hw _ (List.mem_of_getElem? (i := 70) rfl)) (hw _ (List.mem_of_getElem? (i := 25) rfl)) (hw _ (List.mem_of_getElem? (i := 26) rfl)) e0 (g := (mkF m 1 #[rv oa, rv ol, iv xs] [(.ref oa)])) rfl (by rw [hml]; rfl) rfl (hb hby d10_1) (by decide) (W := 0) (by show 2 * 0 + _ ≤ _; exact Nat.le_of_eq rfl) (by decide)
  obtain ⟨T2, h2, X2, e2, W2, st2⟩ := putF X1 hx hZ hown (host := "") (Or.inl (hw _ (List.mem_of_getElem? (i := 71) rfl))) Via.refl e1 F0 E_ (Or.inr ⟨(hw _ (List.mem_of_getElem? (i := 72) rfl)), rfl, hnm⟩) (hw _ (List.mem_of_getElem? (i := 55) rfl)) (ty := (.object "java/util/List")) (by decide) rfl rfl (g := (mkF m 6 #[rv oa, rv ol, iv xs] [(.ref ol), (.ref oa)])) rfl rfl (hb hby d10_6)
  have f2w := F0.same W2
  have K2 : Keep h0 h2 [oa] := (Keep.refl h0 [oa]).wr W2 (Or.inl (List.mem_of_getElem? (i := 0) rfl))
  have N2 := Fr.snoc X2 N0 g_
  have sz2 : n0 ≤ h2.size := Nat.le_trans Z0 (Keep.of_wr W2).1
  have f4 : Fld Z h2 oa "java/util/ImmutableCollections$ListItr" "size" "I" u1 := (F1.other W2 (Or.inr (slot_ne (Or.inr (hw _ (List.mem_of_getElem? (i := 74) rfl))) (Or.inr (hw _ (List.mem_of_getElem? (i := 72) rfl))) (by decide) (t := .int) (t' := (.object "java/util/List")) (by decide) (by decide))))
  have f5 : Exa Z h2 oa "java/util/ImmutableCollections$ListItr" := (E_.wr W2)
  obtain ⟨T3, h3, X3, e3, W3, st3⟩ := putF X2 hx hZ hown (host := "") (Or.inl (hw _ (List.mem_of_getElem? (i := 73) rfl))) Via.refl e2 f4 f5 (Or.inr ⟨(hw _ (List.mem_of_getElem? (i := 74) rfl)), rfl, hnm⟩) (hw _ (List.mem_of_getElem? (i := 55) rfl)) (ty := .int) (by decide) rfl rfl (g := (mkF m 11 #[rv oa, rv ol, iv xs] [(.int xs), (.ref oa)])) rfl rfl (hb hby d10_11)
  have f3w := f4.same W3
  have K3 : Keep h0 h3 [oa] := K2.wr W3 (Or.inl (List.mem_of_getElem? (i := 0) rfl))
  have N3 := Fr.snoc X3 N2 g_
  have sz3 : n0 ≤ h3.size := Nat.le_trans sz2 (Keep.of_wr W3).1
  have f7 : Fld Z h3 oa "java/util/ImmutableCollections$ListItr" "cursor" "I" u2 := ((F2.other W2 (Or.inr (slot_ne (Or.inl (hw _ (List.mem_of_getElem? (i := 76) rfl))) (Or.inr (hw _ (List.mem_of_getElem? (i := 72) rfl))) (by decide) (t := .int) (t' := (.object "java/util/List")) (by decide) (by decide)))).other W3 (Or.inr (slot_ne (Or.inl (hw _ (List.mem_of_getElem? (i := 76) rfl))) (Or.inr (hw _ (List.mem_of_getElem? (i := 74) rfl))) (by decide) (t := .int) (t' := .int) (by decide) (by decide))))
  have f8 : Exa Z h3 oa "java/util/ImmutableCollections$ListItr" := (f5.wr W3)
  obtain ⟨T6, h6, X6, e6, W6, st6⟩ := putF X3 hx hZ hown (host := "") (Or.inl (hw _ (List.mem_of_getElem? (i := 75) rfl))) Via.refl e3 f7 f8 (Or.inl (hw _ (List.mem_of_getElem? (i := 76) rfl))) (hw _ (List.mem_of_getElem? (i := 55) rfl)) (ty := .int) (by decide) rfl rfl (g := (mkF m 16 #[rv oa, rv ol, iv xs] [(.int (0 : Int32)), (.ref oa)])) rfl rfl (hb hby d10_16)
  have f6w := f7.same W6
  have K6 : Keep h0 h6 [oa] := K3.wr W6 (Or.inl (List.mem_of_getElem? (i := 0) rfl))
  have N6 := Fr.snoc X6 N3 g_
  have sz6 : n0 ≤ h6.size := Nat.le_trans sz3 (Keep.of_wr W6).1
  have f10 : Fld Z h6 oa "java/util/ImmutableCollections$ListItr" "isListIterator" "Z" u3 := (((F3.other W2 (Or.inr (slot_ne (Or.inr (hw _ (List.mem_of_getElem? (i := 78) rfl))) (Or.inr (hw _ (List.mem_of_getElem? (i := 72) rfl))) (by decide) (t := .boolean) (t' := (.object "java/util/List")) (by decide) (by decide)))).other W3 (Or.inr (slot_ne (Or.inr (hw _ (List.mem_of_getElem? (i := 78) rfl))) (Or.inr (hw _ (List.mem_of_getElem? (i := 74) rfl))) (by decide) (t := .boolean) (t' := .int) (by decide) (by decide)))).other W6 (Or.inr (slot_ne (Or.inr (hw _ (List.mem_of_getElem? (i := 78) rfl))) (Or.inl (hw _ (List.mem_of_getElem? (i := 76) rfl))) (by decide) (t := .boolean) (t' := .int) (by decide) (by decide))))
  have f11 : Exa Z h6 oa "java/util/ImmutableCollections$ListItr" := (f8.wr W6)
  obtain ⟨T9, h9, X9, e9, W9, st9⟩ := putFN X6 hx hZ hown (hw _ (List.mem_of_getElem? (i := 77) rfl)) Via.refl e6 f10 f11 (Or.inr ⟨(hw _ (List.mem_of_getElem? (i := 78) rfl)), rfl, hnm⟩) (hw _ (List.mem_of_getElem? (i := 55) rfl)) (ty := .boolean) (v' := (.int (0 : Int32))) (by decide) rfl rfl (g := (mkF m 21 #[rv oa, rv ol, iv xs] [(.int (0 : Int32)), (.ref oa)])) rfl rfl (hb hby d10_21)
  have f9w := f10.same W9
  have K9 : Keep h0 h9 [oa] := K6.wr W9 (Or.inl (List.mem_of_getElem? (i := 0) rfl))
  have N9 := Fr.snoc X9 N6 g_
  have sz9 : n0 ≤ h9.size := Nat.le_trans sz6 (Keep.of_wr W9).1
  have pre12 : ∀ t, own_K p e below m T9 24 #[rv oa, rv ol, iv xs] [] t → G t := by
    intro t k
    refine pre0 t ?_
    show own_K p e below m s₁ 0 #[rv oa, rv ol, iv xs] [] _
    refine XS.aloadN X0.here hx rfl (hb hby d10_0) rfl rfl ?_
    show own_K p e below m s₁ 1 #[rv oa, rv ol, iv xs] [(.ref oa)] _
    refine st1 _ ?_
    show own_K p e below m T1 4 #[rv oa, rv ol, iv xs] [] _
    refine XS.aloadN X1.here hx rfl (hb hby d10_4) rfl rfl ?_
    show own_K p e below m T1 5 #[rv oa, rv ol, iv xs] [(.ref oa)] _
    refine XS.aloadN X1.here hx rfl (hb hby d10_5) rfl rfl ?_
    show own_K p e below m T1 6 #[rv oa, rv ol, iv xs] [(.ref ol), (.ref oa)] _
    refine st2 _ ?_
    show own_K p e below m T2 9 #[rv oa, rv ol, iv xs] [] _
    refine XS.aloadN X2.here hx rfl (hb hby d10_9) rfl rfl ?_
    show own_K p e below m T2 10 #[rv oa, rv ol, iv xs] [(.ref oa)] _
    refine XS.iloadN X2.here hx rfl (hb hby d10_10) rfl ?_
    show own_K p e below m T2 11 #[rv oa, rv ol, iv xs] [(.int xs), (.ref oa)] _
    refine st3 _ ?_
    show own_K p e below m T3 14 #[rv oa, rv ol, iv xs] [] _
    refine XS.aloadN X3.here hx rfl (hb hby d10_14) rfl rfl ?_
    show own_K p e below m T3 15 #[rv oa, rv ol, iv xs] [(.ref oa)] _
    refine XS.iconst X3.here hx rfl (hb hby d10_15) ?_
    show own_K p e below m T3 16 #[rv oa, rv ol, iv xs] [(.int (0 : Int32)), (.ref oa)] _
    refine st6 _ ?_
    show own_K p e below m T6 19 #[rv oa, rv ol, iv xs] [] _
    refine XS.aloadN X6.here hx rfl (hb hby d10_19) rfl rfl ?_
    show own_K p e below m T6 20 #[rv oa, rv ol, iv xs] [(.ref oa)] _
    refine XS.iconst X6.here hx rfl (hb hby d10_20) ?_
    show own_K p e below m T6 21 #[rv oa, rv ol, iv xs] [(.int (0 : Int32)), (.ref oa)] _
    refine st9 _ ?_
    exact k
  have f13 : Fld Z h9 oa "java/util/ImmutableCollections$ListItr" "size" "I" (.int xs) := ((f3w.other W6 (Or.inr (slot_ne (Or.inr (hw _ (List.mem_of_getElem? (i := 74) rfl))) (Or.inl (hw _ (List.mem_of_getElem? (i := 76) rfl))) (by decide) (t := .int) (t' := .int) (by decide) (by decide)))).other W9 (Or.inr (slot_ne (Or.inr (hw _ (List.mem_of_getElem? (i := 74) rfl))) (Or.inr (hw _ (List.mem_of_getElem? (i := 78) rfl))) (by decide) (t := .int) (t' := .boolean) (by decide) (by decide))))
  have f14 : Fld Z h9 oa "java/util/ImmutableCollections$ListItr" "cursor" "I" (.int (0 : Int32)) := (f6w.other W9 (Or.inr (slot_ne (Or.inl (hw _ (List.mem_of_getElem? (i := 76) rfl))) (Or.inr (hw _ (List.mem_of_getElem? (i := 78) rfl))) (by decide) (t := .int) (t' := .boolean) (by decide) (by decide))))
  obtain ⟨fs, hr, hrun, hended, hW, hsame⟩ := X9.leave (v := none) (fun _ => rfl)
  refine ⟨_, _, hG _ (pre12 _ ?_), hrun, hended, _, _, rfl, ?_, ⟨_, rfl⟩, hW, hsame.mono (by decide) (by decide)⟩
  · show own_K p e below m T9 24 #[rv oa, rv ol, iv xs] [] _
    exact X9.returnOut hx Bd.returns (hb hby d10_24) hr
  · show Q10 Z oa ol xs u0 u1 u2 u3 h0 n0 _ T9.heap _
    rw [e9]
    exact ⟨rfl, N9, K9, f13, f14⟩

theorem d8_0 : decode jdk_46_method_10_code 0 = .ok (.new 61, 3) := by decide +kernel
theorem d8_3 : decode jdk_46_method_10_code 3 = .ok (.dup, 1) := by decide +kernel
theorem d8_4 : decode jdk_46_method_10_code 4 = .ok (.aload_n 0, 1) := by decide +kernel
theorem d8_5 : decode jdk_46_method_10_code 5 = .ok (.aload_n 0, 1) := by decide +kernel
theorem d8_6 : decode jdk_46_method_10_code 6 = .ok (.invokevirtual 13, 3) := by decide +kernel
theorem pd_1 : parseMethodDescriptor "()I" = some ⟨[], some .int⟩ := by decide +kernel
theorem d8_9 : decode jdk_46_method_10_code 9 = .ok (.invokespecial 63, 3) := by decide +kernel
theorem pd_2 : parseMethodDescriptor "(Ljava/util/List;I)V" = some ⟨[(.object "java/util/List"), .int], none⟩ := by decide +kernel
theorem d8_12 : decode jdk_46_method_10_code 12 = .ok (.areturn, 1) := by decide +kernel
theorem pn_5 : plainName "java/util/ImmutableCollections$AbstractImmutableList" = true := by first | (simp [plainName, overriddenIn]; done) | decide +kernel
theorem ef_8 (m : MethodId) (x0 : Addr) : entryFrame m #[(.ref x0)] 1 = mkF m 0 #[rv x0] [] := by first | (simp [entryFrame, mkF, argsToLocals, Value.category]; done) | rfl
def Q8 (Z : State) (oa : Addr) (oe : Addr) (rk : ClassId) (xn : Int32) (vs : List Value) (dv : Value) (h0 : Heap) (n0 : Nat) (rv_ : Option Value) (h_ : Heap) (L_ : List Loc) : Prop := ∃ (ri : Addr), rv_ = some (.ref ri) ∧ Fr n0 L_ ∧ Keep h0 h_ [] ∧ h0.size ≤ ri ∧ Exa Z h_ ri "java/util/ImmutableCollections$ListItr" ∧ Fld Z h_ ri "java/util/ImmutableCollections$ListItr" "size" "I" (.int xn) ∧ Fld Z h_ ri "java/util/ImmutableCollections$ListItr" "cursor" "I" (.int (0 : Int32))
set_option maxRecDepth 65536 in
set_option maxHeartbeats 40000000 in
theorem rm8 (l : Launch) (Z : State) (a0 : Array Value) (hw : ∀ d ∈ tables_1, d.before a0 Z = true) (ws : List Jvm.Cond) (oa : Addr) (oe : Addr) (rk : ClassId) (xn : Int32) (vs : List Value) (dv : Value) (h0 : Heap) (n0 : Nat) (Z0 : n0 ≤ h0.size) (E_ : Exa Z h0 oa "java/util/ImmutableCollections$ListN") (Fe : Fld Z h0 oa "java/util/ImmutableCollections$ListN" "elements" "[Ljava/lang/Object;" (.ref oe)) (Ve : Arv Z h0 oe rk (.object "java/lang/Object") xn vs dv) :
    MetFree l (⟨"java/util/ImmutableCollections$AbstractImmutableList", "iterator", "()Ljava/util/Iterator;"⟩ : MethodName) (head1 (Jvm.Cond.code (⟨"java/util/ImmutableCollections$AbstractImmutableList", "iterator", "()Ljava/util/Iterator;"⟩ : MethodName) jdk_46_method_10_code 1 (some (.object "java/util/Iterator")) :: ws) ({ frames := 2, cells := 1, slots := 4, locals := 27 } : Room)) (fun a U => a = #[(.ref oa)] ∧ Z.Warmed39 U.vm ∧ U.heap = h0) (fun _ _ _ _ _ => True) (fun _ U o U' => ∃ v L, o = .returned v ∧ Q8 Z oa oe rk xn vs dv h0 n0 v U'.heap L ∧ FrameEnd U o U' L ({ frames := 2, cells := 1, slots := 4, locals := 27 } : Room).cells ({ frames := 2, cells := 1, slots := 4, locals := 27 } : Room).slots) := by
  refine MetFree.of_bodySF (plainFor_of_name pn_5) hisR ?_
  intro p e s m args below meth c s₁ Bd hml0 hP hK
  obtain ⟨rfl, hZ, hh⟩ := hP
  have hx := Bd.exec
  have hby := Bd.bytes
  have hml : c.maxLocals = 1 := hml0
  have hown : s.vm.findClass "java/util/ImmutableCollections$AbstractImmutableList" = some m.cls := findClass_of_methodNamed Bd.named
  have hnm := (name_of_methodNamed Bd.named Bd.method).1
  have X0 : Stand p l e ({ frames := 2, cells := 1, slots := 4, locals := 27 } : Room) s m #[(.ref oa)] below meth c s₁ [] 0 0 := Stand.of_body Bd
  have e0 : s₁.heap = h0 := by rw [← hh, Bd.state]; rfl
  have N0 := Fr.nil n0
  obtain ⟨G, hG, pre0⟩ : ∃ G : State → Prop, (∀ t, G t → Steps p.tables e below (s₁.setTop (entryFrame m #[(.ref oa)] 1)) t) ∧ ∀ t, own_K p e below m s₁ 0 #[rv oa] [] t → G t := ⟨fun t => Steps p.tables e below (s₁.setTop (entryFrame m #[(.ref oa)] 1)) t, fun _ k => k, fun t k => castTop (ef_8 m oa) k⟩
  obtain ⟨T1, h1, X1, e1, E1, A1, D1, -, st1⟩ := newO X0 hx hZ hown (hw _ (List.mem_of_getElem? (i := 54) rfl)) (hw _ (List.mem_of_getElem? (i := 55) rfl)) (hw _ (List.mem_of_getElem? (i := 56) rfl)) e0 (g := (mkF m 0 #[rv oa] [])) rfl (hb hby d8_0) (by decide) (by decide)
  obtain ⟨b1, g1⟩ : ∃ z, z = h0.size := ⟨_, rfl⟩
  rw [← g1] at A1 D1 st1
  have ne1_oa : oa ≠ b1 := Nat.ne_of_lt (Nat.lt_of_lt_of_le E_.lt (Nat.le_of_eq g1.symm))
  have ne1_oe : oe ≠ b1 := Nat.ne_of_lt (Nat.lt_of_lt_of_le Ve.lt (Nat.le_of_eq g1.symm))
  have ge_b1 : n0 ≤ b1 := Nat.le_trans Z0 (Nat.le_of_eq g1.symm)
  have sz_b1 : h0.size ≤ b1 := Nat.le_trans (Keep.refl h0 []).1 (Nat.le_of_eq g1.symm)
  have K1 : Keep h0 h1 [] := (Keep.refl h0 []).ext E1
  have sz1 : n0 ≤ h1.size := Nat.le_trans Z0 E1.1
  have f2 : Fld Z h1 b1 "java/util/ImmutableCollections$ListItr" "list" "Ljava/util/List;" .null := D1 (Or.inr (hw _ (List.mem_of_getElem? (i := 72) rfl))) (ty := (.object "java/util/List")) (by decide)
  have f3 : Fld Z h1 b1 "java/util/ImmutableCollections$ListItr" "size" "I" (.int (0 : Int32)) := D1 (Or.inr (hw _ (List.mem_of_getElem? (i := 74) rfl))) (ty := .int) (by decide)
  have f4 : Fld Z h1 b1 "java/util/ImmutableCollections$ListItr" "cursor" "I" (.int (0 : Int32)) := D1 (Or.inl (hw _ (List.mem_of_getElem? (i := 76) rfl))) (ty := .int) (by decide)
  have f5 : Fld Z h1 b1 "java/util/ImmutableCollections$ListItr" "isListIterator" "Z" (.int (0 : Int32)) := D1 (Or.inr (hw _ (List.mem_of_getElem? (i := 78) rfl))) (ty := .boolean) (by decide)
  have f7 : Fld Z h1 oa "java/util/ImmutableCollections$ListN" "elements" "[Ljava/lang/Object;" (.ref oe) := (Fe.ext E1)
  have f8 : Arv Z h1 oe rk (.object "java/lang/Object") xn vs dv := (Ve.ext E1)
  have f9 : Exa Z h1 oa "java/util/ImmutableCollections$ListN" := (E_.ext E1)
  obtain ⟨cq6, kq6, q6a, q6b, q6c⟩ := isOf hZ e1 f9
  obtain ⟨_, _, ⟨T6, L6, k6, n6⟩, -, X6, ⟨Lc6, hQ6, l6, y6, z6⟩, st6⟩ := X1.virtualBackUp hx (owner := "java/util/AbstractCollection") (x := (⟨"java/util/ImmutableCollections$AbstractImmutableList", "size", "()I"⟩ : MethodName)) (y := (⟨"java/util/ImmutableCollections$ListN", "size", "()I"⟩ : MethodName)) hown (mvT hZ (hw _ (List.mem_of_getElem? (i := 57) rfl))) (mvT hZ (hw _ (List.mem_of_getElem? (i := 58) rfl))) (mvT hZ (hw _ (List.mem_of_getElem? (i := 59) rfl))) (by decide) (mvT hZ (hw _ (List.mem_of_getElem? (i := 60) rfl))) (mvT hZ (hw _ (List.mem_of_getElem? (i := 61) rfl))) (backOf (W := 3) (rm9 l Z a0 hw [] oa oe rk xn vs dv h1 n0 sz1 f7 f8) hZ (hw _ (List.mem_of_getElem? (i := 63) rfl)) (hw _ (List.mem_of_getElem? (i := 62) rfl)) (by decide) (by decide)) q6a q6c (g := (mkF m 6 #[rv oa] [(.ref oa), (.ref oa), (.ref b1), (.ref b1)])) rfl (by rw [hml]; rfl) (Steps.refl _) (argsL := []) (rest := [(.ref oa), (.ref b1), (.ref b1)]) (lenOf pd_1 rfl) rfl (by show 2 * 0 + _ ≤ _; exact Nat.le_of_eq rfl) (hb hby d8_6) (fun _ _ => ⟨rfl, e1, (by decide : 1 + 0 ≤ _), (by decide : 4 + 0 ≤ _)⟩)
  dsimp only [Pt.U, Pt.locs, Pt.cells, Pt.slots] at X6 l6 y6 z6 st6 hQ6
  subst l6 y6 z6
  obtain ⟨rfl, Nq6, eh6⟩ := hQ6
  have N6 := Fr.app N0 Nq6
  obtain ⟨_, _, ⟨T10, L10, k10, n10⟩, -, X10, ⟨Lc10, hQ10, l10, y10, z10⟩, st10⟩ := X6.specialBack hx (y := (⟨"java/util/ImmutableCollections$ListItr", "<init>", "(Ljava/util/List;I)V"⟩ : MethodName)) rfl hown (mvT hZ (hw _ (List.mem_of_getElem? (i := 66) rfl))) (mvT hZ (hw _ (List.mem_of_getElem? (i := 67) rfl))) (mvT hZ (hw _ (List.mem_of_getElem? (i := 69) rfl))) (by decide) (backOf (W := 1) (rm10 l Z a0 hw [] b1 oa xn .null (.int (0 : Int32)) (.int (0 : Int32)) (.int (0 : Int32)) h1 n0 sz1 A1 f2 f3 f4 f5 ge_b1) hZ (hw _ (List.mem_of_getElem? (i := 69) rfl)) (hw _ (List.mem_of_getElem? (i := 56) rfl)) (by decide) (by decide)) (g := (mkF m 9 #[rv oa] [(.int xn), (.ref oa), (.ref b1), (.ref b1)])) rfl (by rw [hml]; rfl) (Steps.refl _) (a := b1) (argsL := [(.ref oa), (.int xn)]) (rest := [(.ref b1)]) (lenOf pd_2 rfl) rfl (by show 2 * 0 + _ ≤ _; exact Nat.le_of_eq rfl) (hb hby d8_9) (fun _ _ => ⟨rfl, eh6, (by decide : 1 + 0 ≤ _), (by decide : 4 + 0 ≤ _)⟩)
  dsimp only [Pt.U, Pt.locs, Pt.cells, Pt.slots] at X10 l10 y10 z10 st10 hQ10
  subst l10 y10 z10
  obtain ⟨rfl, Nq10, Kc10, Fs_10, Fc_10⟩ := hQ10
  have N10 := Fr.app N6 Nq10
  have K10 : Keep h0 T10.heap [] := K1.trans Kc10 (allS (Or.inr sz_b1) all0)
  have sz10 : n0 ≤ T10.heap.size := Nat.le_trans sz1 Kc10.1
  have pre11 : ∀ t, own_K p e below m T10 12 #[rv oa] [(.ref b1)] t → G t := by
    intro t k
    refine pre0 t ?_
    show own_K p e below m s₁ 0 #[rv oa] [] _
    refine st1 _ ?_
    show own_K p e below m T1 3 #[rv oa] [(.ref b1)] _
    refine XS.dup X1.here hx rfl (hb hby d8_3) rfl rfl ?_
    show own_K p e below m T1 4 #[rv oa] [(.ref b1), (.ref b1)] _
    refine XS.aloadN X1.here hx rfl (hb hby d8_4) rfl rfl ?_
    show own_K p e below m T1 5 #[rv oa] [(.ref oa), (.ref b1), (.ref b1)] _
    refine XS.aloadN X1.here hx rfl (hb hby d8_5) rfl rfl ?_
    show own_K p e below m T1 6 #[rv oa] [(.ref oa), (.ref oa), (.ref b1), (.ref b1)] _
    refine st6.trans ?_
    show own_K p e below m T6 9 #[rv oa] [(.int xn), (.ref oa), (.ref b1), (.ref b1)] _
    refine st10.trans ?_
    exact k
  have f12 : Exa Z T10.heap b1 "java/util/ImmutableCollections$ListItr" := (A1.keep Kc10)
  obtain ⟨fs, hr, hrun, hended, hW, hsame⟩ := X10.leave (v := some (.ref b1)) (fun h => by rw [Bd.returns] at h; cases h)
  refine ⟨_, _, hG _ (pre11 _ ?_), hrun, hended, _, _, rfl, ?_, ⟨_, rfl⟩, hW, hsame.mono (by decide) (by decide)⟩
  · show own_K p e below m T10 12 #[rv oa] [(.ref b1)] _
    exact retOut X10 hx Bd.returns rfl (Or.inr (Or.inr (Or.inr (Or.inr ⟨rfl, rfl, rfl⟩)))) (hb hby d8_12) hr
  · show Q8 Z oa oe rk xn vs dv h0 n0 _ T10.heap _
    exact ⟨b1, rfl, N10, K10, sz_b1, f12, Fs_10, Fc_10⟩

theorem d11_0 : decode jdk_53_method_3_code 0 = .ok (.aload_n 0, 1) := by decide +kernel
theorem d11_1 : decode jdk_53_method_3_code 1 = .ok (.getfield 17, 3) := by decide +kernel
theorem d11_4 : decode jdk_53_method_3_code 4 = .ok (.aload_n 0, 1) := by decide +kernel
theorem d11_5 : decode jdk_53_method_3_code 5 = .ok (.getfield 13, 3) := by decide +kernel
theorem d11_8 : decode jdk_53_method_3_code 8 = .ok (.if_icmp .eq 7, 3) := by decide +kernel
theorem d11_15 : decode jdk_53_method_3_code 15 = .ok (.iconst 0, 1) := by decide +kernel
theorem d11_16 : decode jdk_53_method_3_code 16 = .ok (.ireturn, 1) := by decide +kernel
theorem d11_11 : decode jdk_53_method_3_code 11 = .ok (.iconst 1, 1) := by decide +kernel
theorem d11_12 : decode jdk_53_method_3_code 12 = .ok (.goto 4, 3) := by decide +kernel
theorem ef_11 (m : MethodId) (x0 : Addr) : entryFrame m #[(.ref x0)] 1 = mkF m 0 #[rv x0] [] := by first | (simp [entryFrame, mkF, argsToLocals, Value.category]; done) | rfl
def Q11 (Z : State) (oa : Addr) (xc : Int32) (xs : Int32) (h0 : Heap) (n0 : Nat) (rv_ : Option Value) (h_ : Heap) (L_ : List Loc) : Prop := rv_ = some (.int (if xc = xs then (0 : Int32) else (1 : Int32))) ∧ Fr n0 L_ ∧ h_ = h0
set_option maxRecDepth 65536 in
set_option maxHeartbeats 40000000 in
theorem rm11 (l : Launch) (Z : State) (a0 : Array Value) (hw : ∀ d ∈ tables_1, d.before a0 Z = true) (ws : List Jvm.Cond) (oa : Addr) (xc : Int32) (xs : Int32) (h0 : Heap) (n0 : Nat) (Z0 : n0 ≤ h0.size) (Fc : Fld Z h0 oa "java/util/ImmutableCollections$ListItr" "cursor" "I" (.int xc)) (Fs : Fld Z h0 oa "java/util/ImmutableCollections$ListItr" "size" "I" (.int xs)) :
    MetFree l (⟨"java/util/ImmutableCollections$ListItr", "hasNext", "()Z"⟩ : MethodName) (head1 (Jvm.Cond.code (⟨"java/util/ImmutableCollections$ListItr", "hasNext", "()Z"⟩ : MethodName) jdk_53_method_3_code 1 (some .boolean) :: ws) ({ frames := 0, cells := 0, slots := 0, locals := 0 } : Room)) (fun a U => a = #[(.ref oa)] ∧ Z.Warmed39 U.vm ∧ U.heap = h0) (fun _ _ _ _ _ => True) (fun _ U o U' => ∃ v L, o = .returned v ∧ Q11 Z oa xc xs h0 n0 v U'.heap L ∧ FrameEnd U o U' L ({ frames := 0, cells := 0, slots := 0, locals := 0 } : Room).cells ({ frames := 0, cells := 0, slots := 0, locals := 0 } : Room).slots) := by
  refine MetFree.of_bodySF (plainFor_of_name pn_4) hisR ?_
  intro p e s m args below meth c s₁ Bd hml0 hP hK
  obtain ⟨rfl, hZ, hh⟩ := hP
  have hx := Bd.exec
  have hby := Bd.bytes
  have hml : c.maxLocals = 1 := hml0
  have hown : s.vm.findClass "java/util/ImmutableCollections$ListItr" = some m.cls := findClass_of_methodNamed Bd.named
  have hnm := (name_of_methodNamed Bd.named Bd.method).1
  have X0 : Stand p l e ({ frames := 0, cells := 0, slots := 0, locals := 0 } : Room) s m #[(.ref oa)] below meth c s₁ [] 0 0 := Stand.of_body Bd
  have e0 : s₁.heap = h0 := by rw [← hh, Bd.state]; rfl
  have N0 := Fr.nil n0
  obtain ⟨G, hG, pre0⟩ : ∃ G : State → Prop, (∀ t, G t → Steps p.tables e below (s₁.setTop (entryFrame m #[(.ref oa)] 1)) t) ∧ ∀ t, own_K p e below m s₁ 0 #[rv oa] [] t → G t := ⟨fun t => Steps p.tables e below (s₁.setTop (entryFrame m #[(.ref oa)] 1)) t, fun _ k => k, fun t k => castTop (ef_11 m oa) k⟩
  obtain ⟨T1, X1, e1, st1⟩ := getF X0 hx hZ hown (host := "") (Or.inl (hw _ (List.mem_of_getElem? (i := 75) rfl))) Via.refl e0 Fc (g := (mkF m 1 #[rv oa] [(.ref oa)])) rfl rfl (hb hby d11_1)
  obtain ⟨T2, X2, e2, st2⟩ := getF X1 hx hZ hown (host := "") (Or.inl (hw _ (List.mem_of_getElem? (i := 73) rfl))) Via.refl e1 Fs (g := (mkF m 5 #[rv oa] [(.ref oa), (.int xc)])) rfl rfl (hb hby d11_5)
  have pre3 : ∀ t, own_K p e below m T2 8 #[rv oa] [(.int xs), (.int xc)] t → G t := by
    intro t k
    refine pre0 t ?_
    show own_K p e below m s₁ 0 #[rv oa] [] _
    refine XS.aloadN X0.here hx rfl (hb hby d11_0) rfl rfl ?_
    show own_K p e below m s₁ 1 #[rv oa] [(.ref oa)] _
    refine st1 _ ?_
    show own_K p e below m T1 4 #[rv oa] [(.int xc)] _
    refine XS.aloadN X1.here hx rfl (hb hby d11_4) rfl rfl ?_
    show own_K p e below m T1 5 #[rv oa] [(.ref oa), (.int xc)] _
    refine st2 _ ?_
    exact k
  by_cases hc8_4 : xc = xs
  · have pre5 : ∀ t, own_K p e below m T2 16 #[rv oa] [(.int (0 : Int32))] t → G t := by
      intro t k
      refine pre3 t ?_
      show own_K p e below m T2 8 #[rv oa] [(.int xs), (.int xc)] _
      refine XS.icmpYes X2.here hx rfl (pc0 := 8) (pc' := 15) rfl (hb hby d11_8) rfl (teq hc8_4).1 (by decide) (by decide) ?_
      show own_K p e below m T2 15 #[rv oa] [] _
      refine XS.iconst X2.here hx rfl (hb hby d11_15) ?_
      exact k
    obtain ⟨fs, hr, hrun, hended, hW, hsame⟩ := X2.leave (v := some (.int (0 : Int32))) (fun h => by rw [Bd.returns] at h; cases h)
    refine ⟨_, _, hG _ (pre5 _ ?_), hrun, hended, _, _, rfl, ?_, ⟨_, rfl⟩, hW, hsame.mono (by decide) (by decide)⟩
    · show own_K p e below m T2 16 #[rv oa] [(.int (0 : Int32))] _
      exact retN X2 hx (t := .boolean) Bd.returns (by simp) (hb hby d11_16) hr
    · show Q11 Z oa xc xs h0 n0 _ T2.heap _
      rw [e2]
      exact ⟨(by simp only [if_pos hc8_4]), N0, rfl⟩
  · have pre6 : ∀ t, own_K p e below m T2 16 #[rv oa] [(.int (1 : Int32))] t → G t := by
      intro t k
      refine pre3 t ?_
      show own_K p e below m T2 8 #[rv oa] [(.int xs), (.int xc)] _
      refine XS.icmpNo X2.here hx rfl (hb hby d11_8) rfl (feq hc8_4).1 ?_
      show own_K p e below m T2 11 #[rv oa] [] _
      refine XS.iconst X2.here hx rfl (hb hby d11_11) ?_
      show own_K p e below m T2 12 #[rv oa] [(.int (1 : Int32))] _
      refine XS.goto X2.here hx rfl (pc0 := 12) (pc' := 16) rfl (hb hby d11_12) (by decide) (by decide) ?_
      exact k
    obtain ⟨fs, hr, hrun, hended, hW, hsame⟩ := X2.leave (v := some (.int (1 : Int32))) (fun h => by rw [Bd.returns] at h; cases h)
    refine ⟨_, _, hG _ (pre6 _ ?_), hrun, hended, _, _, rfl, ?_, ⟨_, rfl⟩, hW, hsame.mono (by decide) (by decide)⟩
    · show own_K p e below m T2 16 #[rv oa] [(.int (1 : Int32))] _
      exact retN X2 hx (t := .boolean) Bd.returns (by simp) (hb hby d11_16) hr
    · show Q11 Z oa xc xs h0 n0 _ T2.heap _
      rw [e2]
      exact ⟨(by simp only [if_neg hc8_4]), N0, rfl⟩

theorem d3_0 : decode prog_145_method_1_code 0 = .ok (.aload_n 0, 1) := by decide +kernel
theorem d3_1 : decode prog_145_method_1_code 1 = .ok (.invokespecial 1, 3) := by decide +kernel
theorem pd_3 : parseMethodDescriptor "()V" = some ⟨[], none⟩ := by decide +kernel
theorem d3_4 : decode prog_145_method_1_code 4 = .ok (.aload 4, 2) := by decide +kernel
theorem d3_6 : decode prog_145_method_1_code 6 = .ok (.invokestatic 7, 3) := by decide +kernel
theorem d3_9 : decode prog_145_method_1_code 9 = .ok (.astore 4, 2) := by decide +kernel
theorem d3_11 : decode prog_145_method_1_code 11 = .ok (.aload 5, 2) := by decide +kernel
theorem d3_13 : decode prog_145_method_1_code 13 = .ok (.invokestatic 7, 3) := by decide +kernel
theorem d3_16 : decode prog_145_method_1_code 16 = .ok (.astore 5, 2) := by decide +kernel
theorem d3_18 : decode prog_145_method_1_code 18 = .ok (.lload_n 2, 1) := by decide +kernel
theorem d3_19 : decode prog_145_method_1_code 19 = .ok (.lstore 6, 2) := by decide +kernel
theorem d3_21 : decode prog_145_method_1_code 21 = .ok (.aload 4, 2) := by decide +kernel
theorem d3_23 : decode prog_145_method_1_code 23 = .ok (.invokeinterface 13 1, 5) := by decide +kernel
theorem pd_4 : parseMethodDescriptor "()Ljava/util/Iterator;" = some ⟨[], some (.object "java/util/Iterator")⟩ := by decide +kernel
theorem d3_28 : decode prog_145_method_1_code 28 = .ok (.astore 8, 2) := by decide +kernel
theorem d3_30 : decode prog_145_method_1_code 30 = .ok (.aload 8, 2) := by decide +kernel
theorem d3_32 : decode prog_145_method_1_code 32 = .ok (.invokeinterface 17 1, 5) := by decide +kernel
theorem pd_5 : parseMethodDescriptor "()Z" = some ⟨[], some .boolean⟩ := by decide +kernel
theorem d3_37 : decode prog_145_method_1_code 37 = .ok (.ifCond .eq 29, 3) := by decide +kernel
theorem d3_66 : decode prog_145_method_1_code 66 = .ok (.lload_n 2, 1) := by decide +kernel
theorem d3_67 : decode prog_145_method_1_code 67 = .ok (.lstore 8, 2) := by decide +kernel
theorem d3_69 : decode prog_145_method_1_code 69 = .ok (.aload 5, 2) := by decide +kernel
theorem d3_71 : decode prog_145_method_1_code 71 = .ok (.invokeinterface 13 1, 5) := by decide +kernel
theorem d3_76 : decode prog_145_method_1_code 76 = .ok (.astore 10, 2) := by decide +kernel
theorem d3_78 : decode prog_145_method_1_code 78 = .ok (.aload 10, 2) := by decide +kernel
theorem d3_80 : decode prog_145_method_1_code 80 = .ok (.invokeinterface 17 1, 5) := by decide +kernel
theorem d3_85 : decode prog_145_method_1_code 85 = .ok (.ifCond .eq 29, 3) := by decide +kernel
theorem d3_114 : decode prog_145_method_1_code 114 = .ok (.aload_n 0, 1) := by decide +kernel
theorem d3_115 : decode prog_145_method_1_code 115 = .ok (.aload_n 1, 1) := by decide +kernel
theorem d3_116 : decode prog_145_method_1_code 116 = .ok (.putfield 41, 3) := by decide +kernel
theorem d3_119 : decode prog_145_method_1_code 119 = .ok (.aload_n 0, 1) := by decide +kernel
theorem d3_120 : decode prog_145_method_1_code 120 = .ok (.lload_n 2, 1) := by decide +kernel
theorem d3_121 : decode prog_145_method_1_code 121 = .ok (.putfield 45, 3) := by decide +kernel
theorem d3_124 : decode prog_145_method_1_code 124 = .ok (.aload_n 0, 1) := by decide +kernel
theorem d3_125 : decode prog_145_method_1_code 125 = .ok (.aload 4, 2) := by decide +kernel
theorem d3_127 : decode prog_145_method_1_code 127 = .ok (.putfield 48, 3) := by decide +kernel
theorem d3_130 : decode prog_145_method_1_code 130 = .ok (.aload_n 0, 1) := by decide +kernel
theorem d3_131 : decode prog_145_method_1_code 131 = .ok (.aload 5, 2) := by decide +kernel
theorem d3_133 : decode prog_145_method_1_code 133 = .ok (.putfield 52, 3) := by decide +kernel
theorem d3_136 : decode prog_145_method_1_code 136 = .ok (.return_, 1) := by decide +kernel
theorem pn_6 : plainName "evenkeel/model/CommittedOffset" = true := by first | (simp [plainName, overriddenIn]; done) | decide +kernel
theorem ef_3 (m : MethodId) (x0 : Addr) (x2 : Int64) (x3 : Addr) (x4 : Addr) : entryFrame m #[(.ref x0), .null, (.long x2), (.ref x3), (.ref x4)] 12 = mkF m 0 #[rv x0, .val .null, lv x2, .second, rv x3, rv x4, .unset, .unset, .unset, .unset, .unset, .unset] [] := by first | (simp [entryFrame, mkF, argsToLocals, Value.category]; done) | rfl
def Q3 (Z : State) (oa : Addr) (qn : Int64) (la : Addr) (lb : Addr) (u0 : Value) (u1 : Value) (u2 : Value) (u3 : Value) (ea : Addr) (ka : ClassId) (eb : Addr) (kb : ClassId) (h0 : Heap) (n0 : Nat) (rv_ : Option Value) (h_ : Heap) (L_ : List Loc) : Prop := rv_ = none ∧ Fr n0 L_ ∧ Keep h0 h_ [oa] ∧ Fld Z h_ oa "evenkeel/model/CommittedOffset" "next" "J" (.long qn) ∧ Fld Z h_ oa "evenkeel/model/CommittedOffset" "ahead" "Ljava/util/List;" (.ref la) ∧ Fld Z h_ oa "evenkeel/model/CommittedOffset" "failed" "Ljava/util/List;" (.ref lb)
set_option maxRecDepth 65536 in
set_option maxHeartbeats 40000000 in
theorem rm3 (l : Launch) (Z : State) (a0 : Array Value) (hw : ∀ d ∈ tables_1, d.before a0 Z = true) (ws : List Jvm.Cond) (oa : Addr) (qn : Int64) (la : Addr) (lb : Addr) (u0 : Value) (u1 : Value) (u2 : Value) (u3 : Value) (ea : Addr) (ka : ClassId) (eb : Addr) (kb : ClassId) (h0 : Heap) (n0 : Nat) (Z0 : n0 ≤ h0.size) (E_ : Exa Z h0 oa "evenkeel/model/CommittedOffset") (F0 : Fld Z h0 oa "evenkeel/model/CommittedOffset" "queue" "Levenkeel/model/TopicQueue;" u0) (F1 : Fld Z h0 oa "evenkeel/model/CommittedOffset" "next" "J" u1) (F2 : Fld Z h0 oa "evenkeel/model/CommittedOffset" "ahead" "Ljava/util/List;" u2) (F3 : Fld Z h0 oa "evenkeel/model/CommittedOffset" "failed" "Ljava/util/List;" u3) (g_ : n0 ≤ oa) (Ela : Exa Z h0 la "java/util/ImmutableCollections$ListN") (Ala : Fld Z h0 la "java/util/ImmutableCollections$ListN" "allowNulls" "Z" (.int (0 : Int32))) (Fla : Fld Z h0 la "java/util/ImmutableCollections$ListN" "elements" "[Ljava/lang/Object;" (.ref ea)) (Vla : Arv Z h0 ea ka (.object "java/lang/Object") (0 : Int32) [] .null) (Elb : Exa Z h0 lb "java/util/ImmutableCollections$ListN") (Alb : Fld Z h0 lb "java/util/ImmutableCollections$ListN" "allowNulls" "Z" (.int (0 : Int32))) (Flb : Fld Z h0 lb "java/util/ImmutableCollections$ListN" "elements" "[Ljava/lang/Object;" (.ref eb)) (Vlb : Arv Z h0 eb kb (.object "java/lang/Object") (0 : Int32) [] .null) :
    MetFree l (⟨"evenkeel/model/CommittedOffset", "<init>", "(Levenkeel/model/TopicQueue;JLjava/util/List;Ljava/util/List;)V"⟩ : MethodName) (head1 (Jvm.Cond.code (⟨"evenkeel/model/CommittedOffset", "<init>", "(Levenkeel/model/TopicQueue;JLjava/util/List;Ljava/util/List;)V"⟩ : MethodName) prog_145_method_1_code 12 none :: ws) ({ frames := 3, cells := 2, slots := 8, locals := 39 } : Room)) (fun a U => a = #[(.ref oa), .null, (.long qn), (.ref la), (.ref lb)] ∧ Z.Warmed39 U.vm ∧ U.heap = h0) (fun _ _ _ _ _ => True) (fun _ U o U' => ∃ v L, o = .returned v ∧ Q3 Z oa qn la lb u0 u1 u2 u3 ea ka eb kb h0 n0 v U'.heap L ∧ FrameEnd U o U' L ({ frames := 3, cells := 2, slots := 8, locals := 39 } : Room).cells ({ frames := 3, cells := 2, slots := 8, locals := 39 } : Room).slots) := by
  refine MetFree.of_bodySF (plainFor_of_name pn_6) hisR ?_
  intro p e s m args below meth c s₁ Bd hml0 hP hK
  obtain ⟨rfl, hZ, hh⟩ := hP
  have hx := Bd.exec
  have hby := Bd.bytes
  have hml : c.maxLocals = 12 := hml0
  have hown : s.vm.findClass "evenkeel/model/CommittedOffset" = some m.cls := findClass_of_methodNamed Bd.named
  have hnm := (name_of_methodNamed Bd.named Bd.method).1
  have X0 : Stand p l e ({ frames := 3, cells := 2, slots := 8, locals := 39 } : Room) s m #[(.ref oa), .null, (.long qn), (.ref la), (.ref lb)] below meth c s₁ [] 0 0 := Stand.of_body Bd
  have e0 : s₁.heap = h0 := by rw [← hh, Bd.state]; rfl
  have N0 := Fr.nil n0
  obtain ⟨G, hG, pre0⟩ : ∃ G : State → Prop, (∀ t, G t → Steps p.tables e below (s₁.setTop (entryFrame m #[(.ref oa), .null, (.long qn), (.ref la), (.ref lb)] 12)) t) ∧ ∀ t, own_K p e below m s₁ 0 #[rv oa, .val .null, lv qn, .second, rv la, rv lb, .unset, .unset, .unset, .unset, .unset, .unset] [] t → G t := ⟨fun t => Steps p.tables e below (s₁.setTop (entryFrame m #[(.ref oa), .null, (.long qn), (.ref la), (.ref lb)] 12)) t, fun _ k => k, fun t k => castTop (ef_3 m oa qn la lb) k⟩
  obtain ⟨_, _, ⟨T1, L1, k1, n1⟩, -, X1, ⟨Lc1, hQ1, l1, y1, z1⟩, st1⟩ := X0.specialBack hx (y := (⟨"java/lang/Record", "<init>", "()V"⟩ : MethodName)) rfl hown (mvT hZ (hw _ (List.mem_of_getElem? (i := 19) rfl))) (mvT hZ (hw _ (List.mem_of_getElem? (i := 20) rfl))) (mvT hZ (hw _ (List.mem_of_getElem? (i := 23) rfl))) (by decide) (backOf (W := 0) (rm4 l Z a0 hw [] oa h0 n0 Z0 ) hZ (hw _ (List.mem_of_getElem? (i := 23) rfl)) (hw _ (List.mem_of_getElem? (i := 22) rfl)) (by decide) (by decide)) (g := (mkF m 1 #[rv oa, .val .null, lv qn, .second, rv la, rv lb, .unset, .unset, .unset, .unset, .unset, .unset] [(.ref oa)])) rfl (by rw [hml]; rfl) (Steps.refl _) (a := oa) (argsL := []) (rest := []) (lenOf pd_3 rfl) rfl (by show 2 * 0 + _ ≤ _; exact Nat.le_of_eq rfl) (hb hby d3_1) (fun _ _ => ⟨rfl, e0, (by decide : 0 + 0 ≤ _), (by decide : 0 + 0 ≤ _)⟩)
  dsimp only [Pt.U, Pt.locs, Pt.cells, Pt.slots] at X1 l1 y1 z1 st1 hQ1
  subst l1 y1 z1
  obtain ⟨rfl, Nq1, eh1⟩ := hQ1
  have N1 := Fr.app N0 Nq1
  obtain ⟨_, _, ⟨T2, L2, k2, n2⟩, -, X2, ⟨Lc2, hQ2, l2, y2, z2⟩, st2⟩ := Jvm.LawKit.callS X1 hx (y := (⟨"java/util/List", "copyOf", "(Ljava/util/Collection;)Ljava/util/List;"⟩ : MethodName)) hown (mvT hZ (hw _ (List.mem_of_getElem? (i := 27) rfl))) (mvT hZ (hw _ (List.mem_of_getElem? (i := 28) rfl))) (mvT hZ (hw _ (List.mem_of_getElem? (i := 12) rfl))) (mvT hZ (hw _ (List.mem_of_getElem? (i := 29) rfl))) (by decide) (backOf (W := 0) (rm6 l Z a0 hw [] la h0 n0 Z0 Ela Ala) hZ (hw _ (List.mem_of_getElem? (i := 29) rfl)) (hw _ (List.mem_of_getElem? (i := 12) rfl)) (by decide) (by decide)) (g := (mkF m 6 #[rv oa, .val .null, lv qn, .second, rv la, rv lb, .unset, .unset, .unset, .unset, .unset, .unset] [(.ref la)])) rfl (by rw [hml]; rfl) (argsL := [(.ref la)]) (rest := []) (lenOf pd_0 rfl) rfl (by show 2 * 0 + _ ≤ _; exact Nat.le_of_eq rfl) (hb hby d3_6) (fun _ _ => ⟨rfl, eh1, (by decide : 0 + 0 ≤ _), (by decide : 0 + 0 ≤ _)⟩)
  dsimp only [Pt.U, Pt.locs, Pt.cells, Pt.slots] at X2 l2 y2 z2 st2 hQ2
  subst l2 y2 z2
  obtain ⟨rfl, Nq2, eh2⟩ := hQ2
  have N2 := Fr.app N1 Nq2
  obtain ⟨_, _, ⟨T3, L3, k3, n3⟩, -, X3, ⟨Lc3, hQ3, l3, y3, z3⟩, st3⟩ := Jvm.LawKit.callS X2 hx (y := (⟨"java/util/List", "copyOf", "(Ljava/util/Collection;)Ljava/util/List;"⟩ : MethodName)) hown (mvT hZ (hw _ (List.mem_of_getElem? (i := 27) rfl))) (mvT hZ (hw _ (List.mem_of_getElem? (i := 28) rfl))) (mvT hZ (hw _ (List.mem_of_getElem? (i := 12) rfl))) (mvT hZ (hw _ (List.mem_of_getElem? (i := 29) rfl))) (by decide) (backOf (W := 0) (rm6 l Z a0 hw [] lb h0 n0 Z0 Elb Alb) hZ (hw _ (List.mem_of_getElem? (i := 29) rfl)) (hw _ (List.mem_of_getElem? (i := 12) rfl)) (by decide) (by decide)) (g := (mkF m 13 #[rv oa, .val .null, lv qn, .second, rv la, rv lb, .unset, .unset, .unset, .unset, .unset, .unset] [(.ref lb)])) rfl (by rw [hml]; rfl) (argsL := [(.ref lb)]) (rest := []) (lenOf pd_0 rfl) rfl (by show 2 * 0 + _ ≤ _; exact Nat.le_of_eq rfl) (hb hby d3_13) (fun _ _ => ⟨rfl, eh2, (by decide : 0 + 0 ≤ _), (by decide : 0 + 0 ≤ _)⟩)
  dsimp only [Pt.U, Pt.locs, Pt.cells, Pt.slots] at X3 l3 y3 z3 st3 hQ3
  subst l3 y3 z3
  obtain ⟨rfl, Nq3, eh3⟩ := hQ3
  have N3 := Fr.app N2 Nq3
  obtain ⟨cq4, kq4, q4a, q4b, q4c⟩ := isOf hZ eh3 Ela
  obtain ⟨_, _, ⟨T4, L4, k4, n4⟩, -, X4, ⟨Lc4, hQ4, l4, y4, z4⟩, st4⟩ := X3.interfaceBack hx (xi := (⟨"java/util/List", "iterator", "()Ljava/util/Iterator;"⟩ : MethodName)) (y := (⟨"java/util/ImmutableCollections$AbstractImmutableList", "iterator", "()Ljava/util/Iterator;"⟩ : MethodName)) hown (mvT hZ (hw _ (List.mem_of_getElem? (i := 45) rfl))) (mvT hZ (hw _ (List.mem_of_getElem? (i := 46) rfl))) (mvT hZ (hw _ (List.mem_of_getElem? (i := 47) rfl))) (mvT hZ (hw _ (List.mem_of_getElem? (i := 48) rfl))) (mvT hZ (hw _ (List.mem_of_getElem? (i := 49) rfl))) (mvT hZ (hw _ (List.mem_of_getElem? (i := 50) rfl))) (mvT hZ (hw _ (List.mem_of_getElem? (i := 51) rfl))) (mvT hZ (hw _ (List.mem_of_getElem? (i := 44) rfl))) (by decide) (backOf (W := 0) (rm8 l Z a0 hw [] la ea ka (0 : Int32) [] .null h0 n0 Z0 Ela Fla Vla) hZ (hw _ (List.mem_of_getElem? (i := 53) rfl)) (hw _ (List.mem_of_getElem? (i := 52) rfl)) (by decide) (by decide)) q4a q4b q4c (g := (mkF m 23 #[rv oa, .val .null, lv qn, .second, rv la, rv lb, lv qn, .second, .unset, .unset, .unset, .unset] [(.ref la)])) rfl (by rw [hml]; rfl) (Steps.refl _) (argsL := []) (rest := []) (lenOf pd_4 rfl) rfl (by show 2 * 0 + _ ≤ _; exact Nat.le_of_eq rfl) (hb hby d3_23) (fun _ _ => ⟨rfl, eh3, (by decide : 0 + 1 ≤ _), (by decide : 0 + 4 ≤ _)⟩)
  dsimp only [Pt.U, Pt.locs, Pt.cells, Pt.slots] at X4 l4 y4 z4 st4 hQ4
  subst l4 y4 z4
  obtain ⟨ri4, rfl, Nq4, Kc4, gt_4, Ei_4, Fs_4, Fc_4⟩ := hQ4
  have N4 := Fr.app N3 Nq4
  have K4 : Keep h0 T4.heap [oa] := (Keep.refl h0 [oa]).trans Kc4 all0
  have sz4 : n0 ≤ T4.heap.size := Nat.le_trans Z0 Kc4.1
  have ge_ri4 : n0 ≤ ri4 := Nat.le_trans Z0 gt_4
  have sz_ri4 : h0.size ≤ ri4 := Nat.le_trans (Keep.refl h0 [oa]).1 gt_4
  have ne_oa_ri4 : oa ≠ ri4 := Nat.ne_of_lt (Nat.lt_of_lt_of_le E_.lt gt_4)
  have ne_la_ri4 : la ≠ ri4 := Nat.ne_of_lt (Nat.lt_of_lt_of_le Ela.lt gt_4)
  have ne_ea_ri4 : ea ≠ ri4 := Nat.ne_of_lt (Nat.lt_of_lt_of_le Vla.lt gt_4)
  have ne_lb_ri4 : lb ≠ ri4 := Nat.ne_of_lt (Nat.lt_of_lt_of_le Elb.lt gt_4)
  have ne_eb_ri4 : eb ≠ ri4 := Nat.ne_of_lt (Nat.lt_of_lt_of_le Vlb.lt gt_4)
  obtain ⟨cq5, kq5, q5a, q5b, q5c⟩ := isOf hZ rfl Ei_4
  obtain ⟨_, _, ⟨T5, L5, k5, n5⟩, -, X5, ⟨Lc5, hQ5, l5, y5, z5⟩, st5⟩ := X4.interfaceBack hx (xi := (⟨"java/util/Iterator", "hasNext", "()Z"⟩ : MethodName)) (y := (⟨"java/util/ImmutableCollections$ListItr", "hasNext", "()Z"⟩ : MethodName)) hown (mvT hZ (hw _ (List.mem_of_getElem? (i := 79) rfl))) (mvT hZ (hw _ (List.mem_of_getElem? (i := 80) rfl))) (mvT hZ (hw _ (List.mem_of_getElem? (i := 81) rfl))) (mvT hZ (hw _ (List.mem_of_getElem? (i := 82) rfl))) (mvT hZ (hw _ (List.mem_of_getElem? (i := 83) rfl))) (mvT hZ (hw _ (List.mem_of_getElem? (i := 84) rfl))) (mvT hZ (hw _ (List.mem_of_getElem? (i := 85) rfl))) (mvT hZ (hw _ (List.mem_of_getElem? (i := 86) rfl))) (by decide) (backOf (W := 0) (rm11 l Z a0 hw [] ri4 (0 : Int32) (0 : Int32) T4.heap n0 sz4 Fc_4 Fs_4) hZ (hw _ (List.mem_of_getElem? (i := 87) rfl)) (hw _ (List.mem_of_getElem? (i := 56) rfl)) (by decide) (by decide)) q5a q5b q5c (g := (mkF m 32 #[rv oa, .val .null, lv qn, .second, rv la, rv lb, lv qn, .second, rv ri4, .unset, .unset, .unset] [(.ref ri4)])) rfl (by rw [hml]; rfl) (Steps.refl _) (argsL := []) (rest := []) (lenOf pd_5 rfl) rfl (by show 2 * 0 + _ ≤ _; exact Nat.le_of_eq rfl) (hb hby d3_32) (fun _ _ => ⟨rfl, rfl, (by decide : 1 + 0 ≤ _), (by decide : 4 + 0 ≤ _)⟩)
  dsimp only [Pt.U, Pt.locs, Pt.cells, Pt.slots] at X5 l5 y5 z5 st5 hQ5
  subst l5 y5 z5
  obtain ⟨rfl, Nq5, eh5⟩ := hQ5
  have N5 := Fr.app N4 Nq5
  have f7 : Exa Z T4.heap lb "java/util/ImmutableCollections$ListN" := (Elb.keep Kc4)
  have f8 : Fld Z T4.heap lb "java/util/ImmutableCollections$ListN" "elements" "[Ljava/lang/Object;" (.ref eb) := (Flb.keep Kc4 nin0)
  have f9 : Arv Z T4.heap eb kb (.object "java/lang/Object") (0 : Int32) [] .null := (Vlb.keep Kc4 nin0)
  have f10 : Exa Z T4.heap oa "evenkeel/model/CommittedOffset" := (E_.keep Kc4)
  have f11 : Exa Z T4.heap la "java/util/ImmutableCollections$ListN" := (Ela.keep Kc4)
  have f12 : Arv Z T4.heap ea ka (.object "java/lang/Object") (0 : Int32) [] .null := (Vla.keep Kc4 nin0)
  obtain ⟨cq6, kq6, q6a, q6b, q6c⟩ := isOf hZ eh5 f7
  obtain ⟨_, _, ⟨T6, L6, k6, n6⟩, -, X6, ⟨Lc6, hQ6, l6, y6, z6⟩, st6⟩ := X5.interfaceBack hx (xi := (⟨"java/util/List", "iterator", "()Ljava/util/Iterator;"⟩ : MethodName)) (y := (⟨"java/util/ImmutableCollections$AbstractImmutableList", "iterator", "()Ljava/util/Iterator;"⟩ : MethodName)) hown (mvT hZ (hw _ (List.mem_of_getElem? (i := 45) rfl))) (mvT hZ (hw _ (List.mem_of_getElem? (i := 46) rfl))) (mvT hZ (hw _ (List.mem_of_getElem? (i := 47) rfl))) (mvT hZ (hw _ (List.mem_of_getElem? (i := 48) rfl))) (mvT hZ (hw _ (List.mem_of_getElem? (i := 49) rfl))) (mvT hZ (hw _ (List.mem_of_getElem? (i := 50) rfl))) (mvT hZ (hw _ (List.mem_of_getElem? (i := 51) rfl))) (mvT hZ (hw _ (List.mem_of_getElem? (i := 44) rfl))) (by decide) (backOf (W := 0) (rm8 l Z a0 hw [] lb eb kb (0 : Int32) [] .null T4.heap n0 sz4 f7 f8 f9) hZ (hw _ (List.mem_of_getElem? (i := 53) rfl)) (hw _ (List.mem_of_getElem? (i := 52) rfl)) (by decide) (by decide)) q6a q6b q6c (g := (mkF m 71 #[rv oa, .val .null, lv qn, .second, rv la, rv lb, lv qn, .second, lv qn, .second, .unset, .unset] [(.ref lb)])) rfl (by rw [hml]; rfl) (Steps.refl _) (argsL := []) (rest := []) (lenOf pd_4 rfl) rfl (by show 2 * 0 + _ ≤ _; exact Nat.le_of_eq rfl) (hb hby d3_71) (fun _ _ => ⟨rfl, eh5, (by decide : 1 + 1 ≤ _), (by decide : 4 + 4 ≤ _)⟩)
  dsimp only [Pt.U, Pt.locs, Pt.cells, Pt.slots] at X6 l6 y6 z6 st6 hQ6
  subst l6 y6 z6
  obtain ⟨ri6, rfl, Nq6, Kc6, gt_6, Ei_6, Fs_6, Fc_6⟩ := hQ6
  have N6 := Fr.app N5 Nq6
  have K6 : Keep h0 T6.heap [oa] := K4.trans Kc6 all0
  have sz6 : n0 ≤ T6.heap.size := Nat.le_trans sz4 Kc6.1
  have ge_ri6 : n0 ≤ ri6 := Nat.le_trans sz4 gt_6
  have sz_ri6 : h0.size ≤ ri6 := Nat.le_trans K4.1 gt_6
  have ne_oa_ri6 : oa ≠ ri6 := Nat.ne_of_lt (Nat.lt_of_lt_of_le f10.lt gt_6)
  have ne_la_ri6 : la ≠ ri6 := Nat.ne_of_lt (Nat.lt_of_lt_of_le f11.lt gt_6)
  have ne_ea_ri6 : ea ≠ ri6 := Nat.ne_of_lt (Nat.lt_of_lt_of_le f12.lt gt_6)
  have ne_lb_ri6 : lb ≠ ri6 := Nat.ne_of_lt (Nat.lt_of_lt_of_le f7.lt gt_6)
  have ne_eb_ri6 : eb ≠ ri6 := Nat.ne_of_lt (Nat.lt_of_lt_of_le f9.lt gt_6)
  have ne_ri4_ri6 : ri4 ≠ ri6 := Nat.ne_of_lt (Nat.lt_of_lt_of_le Ei_4.lt gt_6)
  obtain ⟨cq13, kq13, q13a, q13b, q13c⟩ := isOf hZ rfl Ei_6
  obtain ⟨_, _, ⟨T13, L13, k13, n13⟩, -, X13, ⟨Lc13, hQ13, l13, y13, z13⟩, st13⟩ := X6.interfaceBack hx (xi := (⟨"java/util/Iterator", "hasNext", "()Z"⟩ : MethodName)) (y := (⟨"java/util/ImmutableCollections$ListItr", "hasNext", "()Z"⟩ : MethodName)) hown (mvT hZ (hw _ (List.mem_of_getElem? (i := 79) rfl))) (mvT hZ (hw _ (List.mem_of_getElem? (i := 80) rfl))) (mvT hZ (hw _ (List.mem_of_getElem? (i := 81) rfl))) (mvT hZ (hw _ (List.mem_of_getElem? (i := 82) rfl))) (mvT hZ (hw _ (List.mem_of_getElem? (i := 83) rfl))) (mvT hZ (hw _ (List.mem_of_getElem? (i := 84) rfl))) (mvT hZ (hw _ (List.mem_of_getElem? (i := 85) rfl))) (mvT hZ (hw _ (List.mem_of_getElem? (i := 86) rfl))) (by decide) (backOf (W := 0) (rm11 l Z a0 hw [] ri6 (0 : Int32) (0 : Int32) T6.heap n0 sz6 Fc_6 Fs_6) hZ (hw _ (List.mem_of_getElem? (i := 87) rfl)) (hw _ (List.mem_of_getElem? (i := 56) rfl)) (by decide) (by decide)) q13a q13b q13c (g := (mkF m 80 #[rv oa, .val .null, lv qn, .second, rv la, rv lb, lv qn, .second, lv qn, .second, rv ri6, .unset] [(.ref ri6)])) rfl (by rw [hml]; rfl) (Steps.refl _) (argsL := []) (rest := []) (lenOf pd_5 rfl) rfl (by show 2 * 0 + _ ≤ _; exact Nat.le_of_eq rfl) (hb hby d3_80) (fun _ _ => ⟨rfl, rfl, (by decide : 2 + 0 ≤ _), (by decide : 8 + 0 ≤ _)⟩)
  dsimp only [Pt.U, Pt.locs, Pt.cells, Pt.slots] at X13 l13 y13 z13 st13 hQ13
  subst l13 y13 z13
  obtain ⟨rfl, Nq13, eh13⟩ := hQ13
  have N13 := Fr.app N6 Nq13
  have f15 : Fld Z T6.heap oa "evenkeel/model/CommittedOffset" "queue" "Levenkeel/model/TopicQueue;" u0 := ((F0.keep Kc4 nin0).keep Kc6 nin0)
  have f16 : Exa Z T6.heap oa "evenkeel/model/CommittedOffset" := (f10.keep Kc6)
  obtain ⟨T14, h14, X14, e14, W14, st14⟩ := putF X13 hx hZ hown (host := "") (Or.inl (hw _ (List.mem_of_getElem? (i := 88) rfl))) Via.refl eh13 f15 f16 (Or.inr ⟨(hw _ (List.mem_of_getElem? (i := 89) rfl)), rfl, hnm⟩) (hw _ (List.mem_of_getElem? (i := 5) rfl)) (ty := (.object "evenkeel/model/TopicQueue")) (by decide) rfl rfl (g := (mkF m 116 #[rv oa, .val .null, lv qn, .second, rv la, rv lb, lv qn, .second, lv qn, .second, rv ri6, .unset] [.null, (.ref oa)])) rfl rfl (hb hby d3_116)
  have f14w := f15.same W14
  have K14 : Keep h0 h14 [oa] := K6.wr W14 (Or.inl (List.mem_of_getElem? (i := 0) rfl))
  have N14 := Fr.snoc X14 N13 g_
  have sz14 : n0 ≤ h14.size := Nat.le_trans sz6 (Keep.of_wr W14).1
  have f18 : Fld Z h14 oa "evenkeel/model/CommittedOffset" "next" "J" u1 := (((F1.keep Kc4 nin0).keep Kc6 nin0).other W14 (Or.inr (slot_ne (Or.inr (hw _ (List.mem_of_getElem? (i := 91) rfl))) (Or.inr (hw _ (List.mem_of_getElem? (i := 89) rfl))) (by decide) (t := .long) (t' := (.object "evenkeel/model/TopicQueue")) (by decide) (by decide))))
  have f19 : Exa Z h14 oa "evenkeel/model/CommittedOffset" := (f16.wr W14)
  obtain ⟨T17, h17, X17, e17, W17, st17⟩ := putF X14 hx hZ hown (host := "") (Or.inl (hw _ (List.mem_of_getElem? (i := 90) rfl))) Via.refl e14 f18 f19 (Or.inr ⟨(hw _ (List.mem_of_getElem? (i := 91) rfl)), rfl, hnm⟩) (hw _ (List.mem_of_getElem? (i := 5) rfl)) (ty := .long) (by decide) rfl rfl (g := (mkF m 121 #[rv oa, .val .null, lv qn, .second, rv la, rv lb, lv qn, .second, lv qn, .second, rv ri6, .unset] [(.long qn), (.ref oa)])) rfl rfl (hb hby d3_121)
  have f17w := f18.same W17
  have K17 : Keep h0 h17 [oa] := K14.wr W17 (Or.inl (List.mem_of_getElem? (i := 0) rfl))
  have N17 := Fr.snoc X17 N14 g_
  have sz17 : n0 ≤ h17.size := Nat.le_trans sz14 (Keep.of_wr W17).1
  have f21 : Fld Z h17 oa "evenkeel/model/CommittedOffset" "ahead" "Ljava/util/List;" u2 := ((((F2.keep Kc4 nin0).keep Kc6 nin0).other W14 (Or.inr (slot_ne (Or.inr (hw _ (List.mem_of_getElem? (i := 93) rfl))) (Or.inr (hw _ (List.mem_of_getElem? (i := 89) rfl))) (by decide) (t := (.object "java/util/List")) (t' := (.object "evenkeel/model/TopicQueue")) (by decide) (by decide)))).other W17 (Or.inr (slot_ne (Or.inr (hw _ (List.mem_of_getElem? (i := 93) rfl))) (Or.inr (hw _ (List.mem_of_getElem? (i := 91) rfl))) (by decide) (t := (.object "java/util/List")) (t' := .long) (by decide) (by decide))))
  have f22 : Exa Z h17 oa "evenkeel/model/CommittedOffset" := (f19.wr W17)
  obtain ⟨T20, h20, X20, e20, W20, st20⟩ := putF X17 hx hZ hown (host := "") (Or.inl (hw _ (List.mem_of_getElem? (i := 92) rfl))) Via.refl e17 f21 f22 (Or.inr ⟨(hw _ (List.mem_of_getElem? (i := 93) rfl)), rfl, hnm⟩) (hw _ (List.mem_of_getElem? (i := 5) rfl)) (ty := (.object "java/util/List")) (by decide) rfl rfl (g := (mkF m 127 #[rv oa, .val .null, lv qn, .second, rv la, rv lb, lv qn, .second, lv qn, .second, rv ri6, .unset] [(.ref la), (.ref oa)])) rfl rfl (hb hby d3_127)
  have f20w := f21.same W20
  have K20 : Keep h0 h20 [oa] := K17.wr W20 (Or.inl (List.mem_of_getElem? (i := 0) rfl))
  have N20 := Fr.snoc X20 N17 g_
  have sz20 : n0 ≤ h20.size := Nat.le_trans sz17 (Keep.of_wr W20).1
  have f24 : Fld Z h20 oa "evenkeel/model/CommittedOffset" "failed" "Ljava/util/List;" u3 := (((((F3.keep Kc4 nin0).keep Kc6 nin0).other W14 (Or.inr (slot_ne (Or.inr (hw _ (List.mem_of_getElem? (i := 95) rfl))) (Or.inr (hw _ (List.mem_of_getElem? (i := 89) rfl))) (by decide) (t := (.object "java/util/List")) (t' := (.object "evenkeel/model/TopicQueue")) (by decide) (by decide)))).other W17 (Or.inr (slot_ne (Or.inr (hw _ (List.mem_of_getElem? (i := 95) rfl))) (Or.inr (hw _ (List.mem_of_getElem? (i := 91) rfl))) (by decide) (t := (.object "java/util/List")) (t' := .long) (by decide) (by decide)))).other W20 (Or.inr (slot_ne (Or.inr (hw _ (List.mem_of_getElem? (i := 95) rfl))) (Or.inr (hw _ (List.mem_of_getElem? (i := 93) rfl))) (by decide) (t := (.object "java/util/List")) (t' := (.object "java/util/List")) (by decide) (by decide))))
  have f25 : Exa Z h20 oa "evenkeel/model/CommittedOffset" := (f22.wr W20)
  obtain ⟨T23, h23, X23, e23, W23, st23⟩ := putF X20 hx hZ hown (host := "") (Or.inl (hw _ (List.mem_of_getElem? (i := 94) rfl))) Via.refl e20 f24 f25 (Or.inr ⟨(hw _ (List.mem_of_getElem? (i := 95) rfl)), rfl, hnm⟩) (hw _ (List.mem_of_getElem? (i := 5) rfl)) (ty := (.object "java/util/List")) (by decide) rfl rfl (g := (mkF m 133 #[rv oa, .val .null, lv qn, .second, rv la, rv lb, lv qn, .second, lv qn, .second, rv ri6, .unset] [(.ref lb), (.ref oa)])) rfl rfl (hb hby d3_133)
  have f23w := f24.same W23
  have K23 : Keep h0 h23 [oa] := K20.wr W23 (Or.inl (List.mem_of_getElem? (i := 0) rfl))
  have N23 := Fr.snoc X23 N20 g_
  have sz23 : n0 ≤ h23.size := Nat.le_trans sz20 (Keep.of_wr W23).1
  have pre26 : ∀ t, own_K p e below m T23 136 #[rv oa, .val .null, lv qn, .second, rv la, rv lb, lv qn, .second, lv qn, .second, rv ri6, .unset] [] t → G t := by
    intro t k
    refine pre0 t ?_
    show own_K p e below m s₁ 0 #[rv oa, .val .null, lv qn, .second, rv la, rv lb, .unset, .unset, .unset, .unset, .unset, .unset] [] _
    refine XS.aloadN X0.here hx rfl (hb hby d3_0) rfl rfl ?_
    show own_K p e below m s₁ 1 #[rv oa, .val .null, lv qn, .second, rv la, rv lb, .unset, .unset, .unset, .unset, .unset, .unset] [(.ref oa)] _
    refine st1.trans ?_
    show own_K p e below m T1 4 #[rv oa, .val .null, lv qn, .second, rv la, rv lb, .unset, .unset, .unset, .unset, .unset, .unset] [] _
    refine XS.aload X1.here hx rfl (hb hby d3_4) rfl rfl ?_
    show own_K p e below m T1 6 #[rv oa, .val .null, lv qn, .second, rv la, rv lb, .unset, .unset, .unset, .unset, .unset, .unset] [(.ref la)] _
    refine st2 _ ?_
    show own_K p e below m T2 9 #[rv oa, .val .null, lv qn, .second, rv la, rv lb, .unset, .unset, .unset, .unset, .unset, .unset] [(.ref la)] _
    refine XS.astore X2.here hx rfl (hb hby d3_9) rfl rfl (l' := #[rv oa, .val .null, lv qn, .second, rv la, rv lb, .unset, .unset, .unset, .unset, .unset, .unset]) rfl ?_
    show own_K p e below m T2 11 #[rv oa, .val .null, lv qn, .second, rv la, rv lb, .unset, .unset, .unset, .unset, .unset, .unset] [] _
    refine XS.aload X2.here hx rfl (hb hby d3_11) rfl rfl ?_
    show own_K p e below m T2 13 #[rv oa, .val .null, lv qn, .second, rv la, rv lb, .unset, .unset, .unset, .unset, .unset, .unset] [(.ref lb)] _
    refine st3 _ ?_
    show own_K p e below m T3 16 #[rv oa, .val .null, lv qn, .second, rv la, rv lb, .unset, .unset, .unset, .unset, .unset, .unset] [(.ref lb)] _
    refine XS.astore X3.here hx rfl (hb hby d3_16) rfl rfl (l' := #[rv oa, .val .null, lv qn, .second, rv la, rv lb, .unset, .unset, .unset, .unset, .unset, .unset]) rfl ?_
    show own_K p e below m T3 18 #[rv oa, .val .null, lv qn, .second, rv la, rv lb, .unset, .unset, .unset, .unset, .unset, .unset] [] _
    refine XS.lloadN X3.here hx rfl (hb hby d3_18) rfl ?_
    show own_K p e below m T3 19 #[rv oa, .val .null, lv qn, .second, rv la, rv lb, .unset, .unset, .unset, .unset, .unset, .unset] [(.long qn)] _
    refine XS.lstore X3.here hx rfl (hb hby d3_19) rfl (l' := #[rv oa, .val .null, lv qn, .second, rv la, rv lb, lv qn, .second, .unset, .unset, .unset, .unset]) rfl ?_
    show own_K p e below m T3 21 #[rv oa, .val .null, lv qn, .second, rv la, rv lb, lv qn, .second, .unset, .unset, .unset, .unset] [] _
    refine XS.aload X3.here hx rfl (hb hby d3_21) rfl rfl ?_
    show own_K p e below m T3 23 #[rv oa, .val .null, lv qn, .second, rv la, rv lb, lv qn, .second, .unset, .unset, .unset, .unset] [(.ref la)] _
    refine st4.trans ?_
    show own_K p e below m T4 28 #[rv oa, .val .null, lv qn, .second, rv la, rv lb, lv qn, .second, .unset, .unset, .unset, .unset] [(.ref ri4)] _
    refine XS.astore X4.here hx rfl (hb hby d3_28) rfl rfl (l' := #[rv oa, .val .null, lv qn, .second, rv la, rv lb, lv qn, .second, rv ri4, .unset, .unset, .unset]) rfl ?_
    show own_K p e below m T4 30 #[rv oa, .val .null, lv qn, .second, rv la, rv lb, lv qn, .second, rv ri4, .unset, .unset, .unset] [] _
    refine XS.aload X4.here hx rfl (hb hby d3_30) rfl rfl ?_
    show own_K p e below m T4 32 #[rv oa, .val .null, lv qn, .second, rv la, rv lb, lv qn, .second, rv ri4, .unset, .unset, .unset] [(.ref ri4)] _
    refine st5.trans ?_
    show own_K p e below m T5 37 #[rv oa, .val .null, lv qn, .second, rv la, rv lb, lv qn, .second, rv ri4, .unset, .unset, .unset] [(.int (if (0 : Int32) = (0 : Int32) then (0 : Int32) else (1 : Int32)))] _
    refine XS.ifYes X5.here hx rfl (pc0 := 37) (pc' := 66) rfl (hb hby d3_37) rfl ((if0 _ _).trans (teq (if_pos rfl)).1) (by decide) (by decide) ?_
    show own_K p e below m T5 66 #[rv oa, .val .null, lv qn, .second, rv la, rv lb, lv qn, .second, rv ri4, .unset, .unset, .unset] [] _
    refine XS.lloadN X5.here hx rfl (hb hby d3_66) rfl ?_
    show own_K p e below m T5 67 #[rv oa, .val .null, lv qn, .second, rv la, rv lb, lv qn, .second, rv ri4, .unset, .unset, .unset] [(.long qn)] _
    refine XS.lstore X5.here hx rfl (hb hby d3_67) rfl (l' := #[rv oa, .val .null, lv qn, .second, rv la, rv lb, lv qn, .second, lv qn, .second, .unset, .unset]) rfl ?_
    show own_K p e below m T5 69 #[rv oa, .val .null, lv qn, .second, rv la, rv lb, lv qn, .second, lv qn, .second, .unset, .unset] [] _
    refine XS.aload X5.here hx rfl (hb hby d3_69) rfl rfl ?_
    show own_K p e below m T5 71 #[rv oa, .val .null, lv qn, .second, rv la, rv lb, lv qn, .second, lv qn, .second, .unset, .unset] [(.ref lb)] _
    refine st6.trans ?_
    show own_K p e below m T6 76 #[rv oa, .val .null, lv qn, .second, rv la, rv lb, lv qn, .second, lv qn, .second, .unset, .unset] [(.ref ri6)] _
    refine XS.astore X6.here hx rfl (hb hby d3_76) rfl rfl (l' := #[rv oa, .val .null, lv qn, .second, rv la, rv lb, lv qn, .second, lv qn, .second, rv ri6, .unset]) rfl ?_
    show own_K p e below m T6 78 #[rv oa, .val .null, lv qn, .second, rv la, rv lb, lv qn, .second, lv qn, .second, rv ri6, .unset] [] _
    refine XS.aload X6.here hx rfl (hb hby d3_78) rfl rfl ?_
    show own_K p e below m T6 80 #[rv oa, .val .null, lv qn, .second, rv la, rv lb, lv qn, .second, lv qn, .second, rv ri6, .unset] [(.ref ri6)] _
    refine st13.trans ?_
    show own_K p e below m T13 85 #[rv oa, .val .null, lv qn, .second, rv la, rv lb, lv qn, .second, lv qn, .second, rv ri6, .unset] [(.int (if (0 : Int32) = (0 : Int32) then (0 : Int32) else (1 : Int32)))] _
    refine XS.ifYes X13.here hx rfl (pc0 := 85) (pc' := 114) rfl (hb hby d3_85) rfl ((if0 _ _).trans (teq (if_pos rfl)).1) (by decide) (by decide) ?_
    show own_K p e below m T13 114 #[rv oa, .val .null, lv qn, .second, rv la, rv lb, lv qn, .second, lv qn, .second, rv ri6, .unset] [] _
    refine XS.aloadN X13.here hx rfl (hb hby d3_114) rfl rfl ?_
    show own_K p e below m T13 115 #[rv oa, .val .null, lv qn, .second, rv la, rv lb, lv qn, .second, lv qn, .second, rv ri6, .unset] [(.ref oa)] _
    refine XS.aloadN X13.here hx rfl (hb hby d3_115) rfl rfl ?_
    show own_K p e below m T13 116 #[rv oa, .val .null, lv qn, .second, rv la, rv lb, lv qn, .second, lv qn, .second, rv ri6, .unset] [.null, (.ref oa)] _
    refine st14 _ ?_
    show own_K p e below m T14 119 #[rv oa, .val .null, lv qn, .second, rv la, rv lb, lv qn, .second, lv qn, .second, rv ri6, .unset] [] _
    refine XS.aloadN X14.here hx rfl (hb hby d3_119) rfl rfl ?_
    show own_K p e below m T14 120 #[rv oa, .val .null, lv qn, .second, rv la, rv lb, lv qn, .second, lv qn, .second, rv ri6, .unset] [(.ref oa)] _
    refine XS.lloadN X14.here hx rfl (hb hby d3_120) rfl ?_
    show own_K p e below m T14 121 #[rv oa, .val .null, lv qn, .second, rv la, rv lb, lv qn, .second, lv qn, .second, rv ri6, .unset] [(.long qn), (.ref oa)] _
    refine st17 _ ?_
    show own_K p e below m T17 124 #[rv oa, .val .null, lv qn, .second, rv la, rv lb, lv qn, .second, lv qn, .second, rv ri6, .unset] [] _
    refine XS.aloadN X17.here hx rfl (hb hby d3_124) rfl rfl ?_
    show own_K p e below m T17 125 #[rv oa, .val .null, lv qn, .second, rv la, rv lb, lv qn, .second, lv qn, .second, rv ri6, .unset] [(.ref oa)] _
    refine XS.aload X17.here hx rfl (hb hby d3_125) rfl rfl ?_
    show own_K p e below m T17 127 #[rv oa, .val .null, lv qn, .second, rv la, rv lb, lv qn, .second, lv qn, .second, rv ri6, .unset] [(.ref la), (.ref oa)] _
    refine st20 _ ?_
    show own_K p e below m T20 130 #[rv oa, .val .null, lv qn, .second, rv la, rv lb, lv qn, .second, lv qn, .second, rv ri6, .unset] [] _
    refine XS.aloadN X20.here hx rfl (hb hby d3_130) rfl rfl ?_
    show own_K p e below m T20 131 #[rv oa, .val .null, lv qn, .second, rv la, rv lb, lv qn, .second, lv qn, .second, rv ri6, .unset] [(.ref oa)] _
    refine XS.aload X20.here hx rfl (hb hby d3_131) rfl rfl ?_
    show own_K p e below m T20 133 #[rv oa, .val .null, lv qn, .second, rv la, rv lb, lv qn, .second, lv qn, .second, rv ri6, .unset] [(.ref lb), (.ref oa)] _
    refine st23 _ ?_
    exact k
  have f27 : Fld Z h23 oa "evenkeel/model/CommittedOffset" "next" "J" (.long qn) := ((f17w.other W20 (Or.inr (slot_ne (Or.inr (hw _ (List.mem_of_getElem? (i := 91) rfl))) (Or.inr (hw _ (List.mem_of_getElem? (i := 93) rfl))) (by decide) (t := .long) (t' := (.object "java/util/List")) (by decide) (by decide)))).other W23 (Or.inr (slot_ne (Or.inr (hw _ (List.mem_of_getElem? (i := 91) rfl))) (Or.inr (hw _ (List.mem_of_getElem? (i := 95) rfl))) (by decide) (t := .long) (t' := (.object "java/util/List")) (by decide) (by decide))))
  have f28 : Fld Z h23 oa "evenkeel/model/CommittedOffset" "ahead" "Ljava/util/List;" (.ref la) := (f20w.other W23 (Or.inr (slot_ne (Or.inr (hw _ (List.mem_of_getElem? (i := 93) rfl))) (Or.inr (hw _ (List.mem_of_getElem? (i := 95) rfl))) (by decide) (t := (.object "java/util/List")) (t' := (.object "java/util/List")) (by decide) (by decide))))
  obtain ⟨fs, hr, hrun, hended, hW, hsame⟩ := X23.leave (v := none) (fun _ => rfl)
  refine ⟨_, _, hG _ (pre26 _ ?_), hrun, hended, _, _, rfl, ?_, ⟨_, rfl⟩, hW, hsame.mono (by decide) (by decide)⟩
  · show own_K p e below m T23 136 #[rv oa, .val .null, lv qn, .second, rv la, rv lb, lv qn, .second, lv qn, .second, rv ri6, .unset] [] _
    exact X23.returnOut hx Bd.returns (hb hby d3_136) hr
  · show Q3 Z oa qn la lb u0 u1 u2 u3 ea ka eb kb h0 n0 _ T23.heap _
    rw [e23]
    exact ⟨rfl, N23, K23, f27, f28, f23w⟩

theorem d1_0 : decode prog_145_method_2_code 0 = .ok (.aload_n 0, 1) := by decide +kernel
theorem d1_1 : decode prog_145_method_2_code 1 = .ok (.aload_n 1, 1) := by decide +kernel
theorem d1_2 : decode prog_145_method_2_code 2 = .ok (.lload_n 2, 1) := by decide +kernel
theorem d1_3 : decode prog_145_method_2_code 3 = .ok (.invokestatic 93, 3) := by decide +kernel
theorem pd_6 : parseMethodDescriptor "()Ljava/util/List;" = some ⟨[], some (.object "java/util/List")⟩ := by decide +kernel
theorem d1_6 : decode prog_145_method_2_code 6 = .ok (.invokestatic 93, 3) := by decide +kernel
theorem d1_9 : decode prog_145_method_2_code 9 = .ok (.invokespecial 97, 3) := by decide +kernel
theorem pd_7 : parseMethodDescriptor "(Levenkeel/model/TopicQueue;JLjava/util/List;Ljava/util/List;)V" = some ⟨[(.object "evenkeel/model/TopicQueue"), .long, (.object "java/util/List"), (.object "java/util/List")], none⟩ := by decide +kernel
theorem d1_12 : decode prog_145_method_2_code 12 = .ok (.return_, 1) := by decide +kernel
theorem ef_1 (m : MethodId) (x0 : Addr) (x2 : Int64) : entryFrame m #[(.ref x0), .null, (.long x2)] 4 = mkF m 0 #[rv x0, .val .null, lv x2, .second] [] := by first | (simp [entryFrame, mkF, argsToLocals, Value.category]; done) | rfl
def Q1 (Z : State) (oa : Addr) (qn : Int64) (u0 : Value) (u1 : Value) (u2 : Value) (u3 : Value) (el : Addr) (ea : Addr) (kE : ClassId) (h0 : Heap) (n0 : Nat) (rv_ : Option Value) (h_ : Heap) (L_ : List Loc) : Prop := rv_ = none ∧ Fr n0 L_ ∧ Keep h0 h_ [oa] ∧ Fld Z h_ oa "evenkeel/model/CommittedOffset" "next" "J" (.long qn) ∧ Fld Z h_ oa "evenkeel/model/CommittedOffset" "ahead" "Ljava/util/List;" (.ref el) ∧ Fld Z h_ oa "evenkeel/model/CommittedOffset" "failed" "Ljava/util/List;" (.ref el)
set_option maxRecDepth 65536 in
set_option maxHeartbeats 40000000 in
theorem rm1 (l : Launch) (Z : State) (a0 : Array Value) (hw : ∀ d ∈ tables_1, d.before a0 Z = true) (ws : List Jvm.Cond) (oa : Addr) (qn : Int64) (u0 : Value) (u1 : Value) (u2 : Value) (u3 : Value) (el : Addr) (ea : Addr) (kE : ClassId) (h0 : Heap) (n0 : Nat) (Z0 : n0 ≤ h0.size) (E_ : Exa Z h0 oa "evenkeel/model/CommittedOffset") (F0 : Fld Z h0 oa "evenkeel/model/CommittedOffset" "queue" "Levenkeel/model/TopicQueue;" u0) (F1 : Fld Z h0 oa "evenkeel/model/CommittedOffset" "next" "J" u1) (F2 : Fld Z h0 oa "evenkeel/model/CommittedOffset" "ahead" "Ljava/util/List;" u2) (F3 : Fld Z h0 oa "evenkeel/model/CommittedOffset" "failed" "Ljava/util/List;" u3) (g_ : n0 ≤ oa) (O_ : Old Z n0 h0) (P_ : own_P Z el ea kE) :
    MetFree l (⟨"evenkeel/model/CommittedOffset", "<init>", "(Levenkeel/model/TopicQueue;J)V"⟩ : MethodName) (head1 (Jvm.Cond.code (⟨"evenkeel/model/CommittedOffset", "<init>", "(Levenkeel/model/TopicQueue;J)V"⟩ : MethodName) prog_145_method_2_code 4 none :: ws) ({ frames := 4, cells := 2, slots := 8, locals := 62 } : Room)) (fun a U => a = #[(.ref oa), .null, (.long qn)] ∧ Z.Warmed39 U.vm ∧ U.heap = h0) (fun _ _ _ _ _ => True) (fun _ U o U' => ∃ v L, o = .returned v ∧ Q1 Z oa qn u0 u1 u2 u3 el ea kE h0 n0 v U'.heap L ∧ FrameEnd U o U' L ({ frames := 4, cells := 2, slots := 8, locals := 62 } : Room).cells ({ frames := 4, cells := 2, slots := 8, locals := 62 } : Room).slots) := by
  refine MetFree.of_bodySF (plainFor_of_name pn_6) hisR ?_
  intro p e s m args below meth c s₁ Bd hml0 hP hK
  obtain ⟨rfl, hZ, hh⟩ := hP
  have hx := Bd.exec
  have hby := Bd.bytes
  have hml : c.maxLocals = 4 := hml0
  have hown : s.vm.findClass "evenkeel/model/CommittedOffset" = some m.cls := findClass_of_methodNamed Bd.named
  have hnm := (name_of_methodNamed Bd.named Bd.method).1
  have X0 : Stand p l e ({ frames := 4, cells := 2, slots := 8, locals := 62 } : Room) s m #[(.ref oa), .null, (.long qn)] below meth c s₁ [] 0 0 := Stand.of_body Bd
  have e0 : s₁.heap = h0 := by rw [← hh, Bd.state]; rfl
  have N0 := Fr.nil n0
  obtain ⟨G, hG, pre0⟩ : ∃ G : State → Prop, (∀ t, G t → Steps p.tables e below (s₁.setTop (entryFrame m #[(.ref oa), .null, (.long qn)] 4)) t) ∧ ∀ t, own_K p e below m s₁ 0 #[rv oa, .val .null, lv qn, .second] [] t → G t := ⟨fun t => Steps p.tables e below (s₁.setTop (entryFrame m #[(.ref oa), .null, (.long qn)] 4)) t, fun _ k => k, fun t k => castTop (ef_1 m oa qn) k⟩
  obtain ⟨_, _, ⟨T1, L1, k1, n1⟩, -, X1, ⟨Lc1, hQ1, l1, y1, z1⟩, st1⟩ := Jvm.LawKit.callS X0 hx (y := (⟨"java/util/List", "of", "()Ljava/util/List;"⟩ : MethodName)) hown (mvT hZ (hw _ (List.mem_of_getElem? (i := 10) rfl))) (mvT hZ (hw _ (List.mem_of_getElem? (i := 11) rfl))) (mvT hZ (hw _ (List.mem_of_getElem? (i := 12) rfl))) (mvT hZ (hw _ (List.mem_of_getElem? (i := 13) rfl))) (by decide) (backOf (W := 4) (rm2 l Z a0 hw [] el ea kE h0 n0 Z0 O_ P_) hZ (hw _ (List.mem_of_getElem? (i := 13) rfl)) (hw _ (List.mem_of_getElem? (i := 12) rfl)) (by decide) (by decide)) (g := (mkF m 3 #[rv oa, .val .null, lv qn, .second] [(.long qn), .null, (.ref oa)])) rfl (by rw [hml]; rfl) (argsL := []) (rest := [(.long qn), .null, (.ref oa)]) (lenOf pd_6 rfl) rfl (by show 2 * 0 + _ ≤ _; exact Nat.le_of_eq rfl) (hb hby d1_3) (fun _ _ => ⟨rfl, e0, (by decide : 0 + 0 ≤ _), (by decide : 0 + 0 ≤ _)⟩)
  dsimp only [Pt.U, Pt.locs, Pt.cells, Pt.slots] at X1 l1 y1 z1 st1 hQ1
  subst l1 y1 z1
  obtain ⟨rfl, Nq1, eh1⟩ := hQ1
  have N1 := Fr.app N0 Nq1
  obtain ⟨_, _, ⟨T2, L2, k2, n2⟩, -, X2, ⟨Lc2, hQ2, l2, y2, z2⟩, st2⟩ := Jvm.LawKit.callS X1 hx (y := (⟨"java/util/List", "of", "()Ljava/util/List;"⟩ : MethodName)) hown (mvT hZ (hw _ (List.mem_of_getElem? (i := 10) rfl))) (mvT hZ (hw _ (List.mem_of_getElem? (i := 11) rfl))) (mvT hZ (hw _ (List.mem_of_getElem? (i := 12) rfl))) (mvT hZ (hw _ (List.mem_of_getElem? (i := 13) rfl))) (by decide) (backOf (W := 5) (rm2 l Z a0 hw [] el ea kE h0 n0 Z0 O_ P_) hZ (hw _ (List.mem_of_getElem? (i := 13) rfl)) (hw _ (List.mem_of_getElem? (i := 12) rfl)) (by decide) (by decide)) (g := (mkF m 6 #[rv oa, .val .null, lv qn, .second] [(.ref el), (.long qn), .null, (.ref oa)])) rfl (by rw [hml]; rfl) (argsL := []) (rest := [(.ref el), (.long qn), .null, (.ref oa)]) (lenOf pd_6 rfl) rfl (by show 2 * 0 + _ ≤ _; exact Nat.le_of_eq rfl) (hb hby d1_6) (fun _ _ => ⟨rfl, eh1, (by decide : 0 + 0 ≤ _), (by decide : 0 + 0 ≤ _)⟩)
  dsimp only [Pt.U, Pt.locs, Pt.cells, Pt.slots] at X2 l2 y2 z2 st2 hQ2
  subst l2 y2 z2
  obtain ⟨rfl, Nq2, eh2⟩ := hQ2
  have N2 := Fr.app N1 Nq2
  have pre3 : ∀ t, own_K p e below m T2 9 #[rv oa, .val .null, lv qn, .second] [(.ref el), (.ref el), (.long qn), .null, (.ref oa)] t → G t := by
    intro t k
    refine pre0 t ?_
    show own_K p e below m s₁ 0 #[rv oa, .val .null, lv qn, .second] [] _
    refine XS.aloadN X0.here hx rfl (hb hby d1_0) rfl rfl ?_
    show own_K p e below m s₁ 1 #[rv oa, .val .null, lv qn, .second] [(.ref oa)] _
    refine XS.aloadN X0.here hx rfl (hb hby d1_1) rfl rfl ?_
    show own_K p e below m s₁ 2 #[rv oa, .val .null, lv qn, .second] [.null, (.ref oa)] _
    refine XS.lloadN X0.here hx rfl (hb hby d1_2) rfl ?_
    show own_K p e below m s₁ 3 #[rv oa, .val .null, lv qn, .second] [(.long qn), .null, (.ref oa)] _
    refine st1 _ ?_
    show own_K p e below m T1 6 #[rv oa, .val .null, lv qn, .second] [(.ref el), (.long qn), .null, (.ref oa)] _
    refine st2 _ ?_
    exact k
  obtain ⟨_, _, ⟨T4, L4, k4, n4⟩, -, X4, ⟨Lc4, hQ4, l4, y4, z4⟩, st4⟩ := X2.specialBack hx (y := (⟨"evenkeel/model/CommittedOffset", "<init>", "(Levenkeel/model/TopicQueue;JLjava/util/List;Ljava/util/List;)V"⟩ : MethodName)) rfl hown (mvT hZ (hw _ (List.mem_of_getElem? (i := 16) rfl))) (mvT hZ (hw _ (List.mem_of_getElem? (i := 17) rfl))) (mvT hZ (hw _ (List.mem_of_getElem? (i := 18) rfl))) (by decide) (backOf (W := 0) (rm3 l Z a0 hw [] oa qn el el u0 u1 u2 u3 ea kE ea kE h0 n0 Z0 E_ F0 F1 F2 F3 g_ (Exa.ext O_.2 P_.2.1) (Fld.ext O_.2 P_.2.2.2.2.1) (Fld.ext O_.2 P_.2.2.1) (P_.2.2.2.1.ext O_.2) (Exa.ext O_.2 P_.2.1) (Fld.ext O_.2 P_.2.2.2.2.1) (Fld.ext O_.2 P_.2.2.1) (P_.2.2.2.1.ext O_.2)) hZ (hw _ (List.mem_of_getElem? (i := 18) rfl)) (hw _ (List.mem_of_getElem? (i := 6) rfl)) (by decide) (by decide)) (g := (mkF m 9 #[rv oa, .val .null, lv qn, .second] [(.ref el), (.ref el), (.long qn), .null, (.ref oa)])) rfl (by rw [hml]; rfl) (Steps.refl _) (a := oa) (argsL := [.null, (.long qn), (.ref el), (.ref el)]) (rest := []) (lenOf pd_7 rfl) rfl (by show 2 * 0 + _ ≤ _; exact Nat.le_of_eq rfl) (hb hby d1_9) (fun _ _ => ⟨rfl, eh2, (by decide : 0 + 2 ≤ _), (by decide : 0 + 8 ≤ _)⟩)
  dsimp only [Pt.U, Pt.locs, Pt.cells, Pt.slots] at X4 l4 y4 z4 st4 hQ4
  subst l4 y4 z4
  obtain ⟨rfl, Nq4, Kc4, Fn_4, Fh_4, Ff_4⟩ := hQ4
  have N4 := Fr.app N2 Nq4
  have K4 : Keep h0 T4.heap [oa] := (Keep.refl h0 [oa]).trans Kc4 (allS (Or.inl (List.mem_of_getElem? (i := 0) rfl)) all0)
  have sz4 : n0 ≤ T4.heap.size := Nat.le_trans Z0 Kc4.1
  have pre5 : ∀ t, own_K p e below m T4 12 #[rv oa, .val .null, lv qn, .second] [] t → G t := by
    intro t k
    refine pre3 t ?_
    show own_K p e below m T2 9 #[rv oa, .val .null, lv qn, .second] [(.ref el), (.ref el), (.long qn), .null, (.ref oa)] _
    refine st4.trans ?_
    exact k
  obtain ⟨fs, hr, hrun, hended, hW, hsame⟩ := X4.leave (v := none) (fun _ => rfl)
  refine ⟨_, _, hG _ (pre5 _ ?_), hrun, hended, _, _, rfl, ?_, ⟨_, rfl⟩, hW, hsame.mono (by decide) (by decide)⟩
  · show own_K p e below m T4 12 #[rv oa, .val .null, lv qn, .second] [] _
    exact X4.returnOut hx Bd.returns (hb hby d1_12) hr
  · show Q1 Z oa qn u0 u1 u2 u3 el ea kE h0 n0 _ T4.heap _
    exact ⟨rfl, N4, K4, Fn_4, Fh_4, Ff_4⟩

theorem d16_0 : decode prog_145_method_17_code 0 = .ok (.aload_n 0, 1) := by decide +kernel
theorem d16_1 : decode prog_145_method_17_code 1 = .ok (.getfield 45, 3) := by decide +kernel
theorem d16_4 : decode prog_145_method_17_code 4 = .ok (.lreturn, 1) := by decide +kernel
theorem ef_16 (m : MethodId) (x0 : Addr) : entryFrame m #[(.ref x0)] 1 = mkF m 0 #[rv x0] [] := by first | (simp [entryFrame, mkF, argsToLocals, Value.category]; done) | rfl
def Q16 (Z : State) (oa : Addr) (xv : Int64) (h0 : Heap) (n0 : Nat) (rv_ : Option Value) (h_ : Heap) (L_ : List Loc) : Prop := rv_ = some (.long xv) ∧ Fr n0 L_ ∧ h_ = h0
set_option maxRecDepth 65536 in
set_option maxHeartbeats 40000000 in
theorem rm16 (l : Launch) (Z : State) (a0 : Array Value) (hw : ∀ d ∈ tables_1, d.before a0 Z = true) (ws : List Jvm.Cond) (oa : Addr) (xv : Int64) (h0 : Heap) (n0 : Nat) (Z0 : n0 ≤ h0.size) (Fv : Fld Z h0 oa "evenkeel/model/CommittedOffset" "next" "J" (.long xv)) :
    MetFree l (⟨"evenkeel/model/CommittedOffset", "next", "()J"⟩ : MethodName) (head1 (Jvm.Cond.code (⟨"evenkeel/model/CommittedOffset", "next", "()J"⟩ : MethodName) prog_145_method_17_code 1 (some .long) :: ws) ({ frames := 0, cells := 0, slots := 0, locals := 0 } : Room)) (fun a U => a = #[(.ref oa)] ∧ Z.Warmed39 U.vm ∧ U.heap = h0) (fun _ _ _ _ _ => True) (fun _ U o U' => ∃ v L, o = .returned v ∧ Q16 Z oa xv h0 n0 v U'.heap L ∧ FrameEnd U o U' L ({ frames := 0, cells := 0, slots := 0, locals := 0 } : Room).cells ({ frames := 0, cells := 0, slots := 0, locals := 0 } : Room).slots) := by
  refine MetFree.of_bodySF (plainFor_of_name pn_6) hisR ?_
  intro p e s m args below meth c s₁ Bd hml0 hP hK
  obtain ⟨rfl, hZ, hh⟩ := hP
  have hx := Bd.exec
  have hby := Bd.bytes
  have hml : c.maxLocals = 1 := hml0
  have hown : s.vm.findClass "evenkeel/model/CommittedOffset" = some m.cls := findClass_of_methodNamed Bd.named
  have hnm := (name_of_methodNamed Bd.named Bd.method).1
  have X0 : Stand p l e ({ frames := 0, cells := 0, slots := 0, locals := 0 } : Room) s m #[(.ref oa)] below meth c s₁ [] 0 0 := Stand.of_body Bd
  have e0 : s₁.heap = h0 := by rw [← hh, Bd.state]; rfl
  have N0 := Fr.nil n0
  obtain ⟨G, hG, pre0⟩ : ∃ G : State → Prop, (∀ t, G t → Steps p.tables e below (s₁.setTop (entryFrame m #[(.ref oa)] 1)) t) ∧ ∀ t, own_K p e below m s₁ 0 #[rv oa] [] t → G t := ⟨fun t => Steps p.tables e below (s₁.setTop (entryFrame m #[(.ref oa)] 1)) t, fun _ k => k, fun t k => castTop (ef_16 m oa) k⟩
  obtain ⟨T1, X1, e1, st1⟩ := getF X0 hx hZ hown (host := "") (Or.inl (hw _ (List.mem_of_getElem? (i := 90) rfl))) Via.refl e0 Fv (g := (mkF m 1 #[rv oa] [(.ref oa)])) rfl rfl (hb hby d16_1)
  have pre2 : ∀ t, own_K p e below m T1 4 #[rv oa] [(.long xv)] t → G t := by
    intro t k
    refine pre0 t ?_
    show own_K p e below m s₁ 0 #[rv oa] [] _
    refine XS.aloadN X0.here hx rfl (hb hby d16_0) rfl rfl ?_
    show own_K p e below m s₁ 1 #[rv oa] [(.ref oa)] _
    refine st1 _ ?_
    exact k
  obtain ⟨fs, hr, hrun, hended, hW, hsame⟩ := X1.leave (v := some (.long xv)) (fun h => by rw [Bd.returns] at h; cases h)
  refine ⟨_, _, hG _ (pre2 _ ?_), hrun, hended, _, _, rfl, ?_, ⟨_, rfl⟩, hW, hsame.mono (by decide) (by decide)⟩
  · show own_K p e below m T1 4 #[rv oa] [(.long xv)] _
    exact retOut X1 hx Bd.returns rfl (Or.inr (Or.inl ⟨rfl, rfl, _, rfl⟩)) (hb hby d16_4) hr
  · show Q16 Z oa xv h0 n0 _ T1.heap _
    rw [e1]
    exact ⟨rfl, N0, rfl⟩

theorem d17_0 : decode prog_145_method_18_code 0 = .ok (.aload_n 0, 1) := by decide +kernel
theorem d17_1 : decode prog_145_method_18_code 1 = .ok (.getfield 48, 3) := by decide +kernel
theorem d17_4 : decode prog_145_method_18_code 4 = .ok (.areturn, 1) := by decide +kernel
theorem ef_17 (m : MethodId) (x0 : Addr) : entryFrame m #[(.ref x0)] 1 = mkF m 0 #[rv x0] [] := by first | (simp [entryFrame, mkF, argsToLocals, Value.category]; done) | rfl
def Q17 (Z : State) (oa : Addr) (xv : Addr) (h0 : Heap) (n0 : Nat) (rv_ : Option Value) (h_ : Heap) (L_ : List Loc) : Prop := rv_ = some (.ref xv) ∧ Fr n0 L_ ∧ h_ = h0
set_option maxRecDepth 65536 in
set_option maxHeartbeats 40000000 in
theorem rm17 (l : Launch) (Z : State) (a0 : Array Value) (hw : ∀ d ∈ tables_1, d.before a0 Z = true) (ws : List Jvm.Cond) (oa : Addr) (xv : Addr) (h0 : Heap) (n0 : Nat) (Z0 : n0 ≤ h0.size) (Fv : Fld Z h0 oa "evenkeel/model/CommittedOffset" "ahead" "Ljava/util/List;" (.ref xv)) :
    MetFree l (⟨"evenkeel/model/CommittedOffset", "ahead", "()Ljava/util/List;"⟩ : MethodName) (head1 (Jvm.Cond.code (⟨"evenkeel/model/CommittedOffset", "ahead", "()Ljava/util/List;"⟩ : MethodName) prog_145_method_18_code 1 (some (.object "java/util/List")) :: ws) ({ frames := 0, cells := 0, slots := 0, locals := 0 } : Room)) (fun a U => a = #[(.ref oa)] ∧ Z.Warmed39 U.vm ∧ U.heap = h0) (fun _ _ _ _ _ => True) (fun _ U o U' => ∃ v L, o = .returned v ∧ Q17 Z oa xv h0 n0 v U'.heap L ∧ FrameEnd U o U' L ({ frames := 0, cells := 0, slots := 0, locals := 0 } : Room).cells ({ frames := 0, cells := 0, slots := 0, locals := 0 } : Room).slots) := by
  refine MetFree.of_bodySF (plainFor_of_name pn_6) hisR ?_
  intro p e s m args below meth c s₁ Bd hml0 hP hK
  obtain ⟨rfl, hZ, hh⟩ := hP
  have hx := Bd.exec
  have hby := Bd.bytes
  have hml : c.maxLocals = 1 := hml0
  have hown : s.vm.findClass "evenkeel/model/CommittedOffset" = some m.cls := findClass_of_methodNamed Bd.named
  have hnm := (name_of_methodNamed Bd.named Bd.method).1
  have X0 : Stand p l e ({ frames := 0, cells := 0, slots := 0, locals := 0 } : Room) s m #[(.ref oa)] below meth c s₁ [] 0 0 := Stand.of_body Bd
  have e0 : s₁.heap = h0 := by rw [← hh, Bd.state]; rfl
  have N0 := Fr.nil n0
  obtain ⟨G, hG, pre0⟩ : ∃ G : State → Prop, (∀ t, G t → Steps p.tables e below (s₁.setTop (entryFrame m #[(.ref oa)] 1)) t) ∧ ∀ t, own_K p e below m s₁ 0 #[rv oa] [] t → G t := ⟨fun t => Steps p.tables e below (s₁.setTop (entryFrame m #[(.ref oa)] 1)) t, fun _ k => k, fun t k => castTop (ef_17 m oa) k⟩
  obtain ⟨T1, X1, e1, st1⟩ := getF X0 hx hZ hown (host := "") (Or.inl (hw _ (List.mem_of_getElem? (i := 92) rfl))) Via.refl e0 Fv (g := (mkF m 1 #[rv oa] [(.ref oa)])) rfl rfl (hb hby d17_1)
  have pre2 : ∀ t, own_K p e below m T1 4 #[rv oa] [(.ref xv)] t → G t := by
    intro t k
    refine pre0 t ?_
    show own_K p e below m s₁ 0 #[rv oa] [] _
    refine XS.aloadN X0.here hx rfl (hb hby d17_0) rfl rfl ?_
    show own_K p e below m s₁ 1 #[rv oa] [(.ref oa)] _
    refine st1 _ ?_
    exact k
  obtain ⟨fs, hr, hrun, hended, hW, hsame⟩ := X1.leave (v := some (.ref xv)) (fun h => by rw [Bd.returns] at h; cases h)
  refine ⟨_, _, hG _ (pre2 _ ?_), hrun, hended, _, _, rfl, ?_, ⟨_, rfl⟩, hW, hsame.mono (by decide) (by decide)⟩
  · show own_K p e below m T1 4 #[rv oa] [(.ref xv)] _
    exact retOut X1 hx Bd.returns rfl (Or.inr (Or.inr (Or.inr (Or.inr ⟨rfl, rfl, rfl⟩)))) (hb hby d17_4) hr
  · show Q17 Z oa xv h0 n0 _ T1.heap _
    rw [e1]
    exact ⟨rfl, N0, rfl⟩

theorem d18_0 : decode prog_145_method_19_code 0 = .ok (.aload_n 0, 1) := by decide +kernel
theorem d18_1 : decode prog_145_method_19_code 1 = .ok (.getfield 52, 3) := by decide +kernel
theorem d18_4 : decode prog_145_method_19_code 4 = .ok (.areturn, 1) := by decide +kernel
theorem ef_18 (m : MethodId) (x0 : Addr) : entryFrame m #[(.ref x0)] 1 = mkF m 0 #[rv x0] [] := by first | (simp [entryFrame, mkF, argsToLocals, Value.category]; done) | rfl
def Q18 (Z : State) (oa : Addr) (xv : Addr) (h0 : Heap) (n0 : Nat) (rv_ : Option Value) (h_ : Heap) (L_ : List Loc) : Prop := rv_ = some (.ref xv) ∧ Fr n0 L_ ∧ h_ = h0
set_option maxRecDepth 65536 in
set_option maxHeartbeats 40000000 in
theorem rm18 (l : Launch) (Z : State) (a0 : Array Value) (hw : ∀ d ∈ tables_1, d.before a0 Z = true) (ws : List Jvm.Cond) (oa : Addr) (xv : Addr) (h0 : Heap) (n0 : Nat) (Z0 : n0 ≤ h0.size) (Fv : Fld Z h0 oa "evenkeel/model/CommittedOffset" "failed" "Ljava/util/List;" (.ref xv)) :
    MetFree l (⟨"evenkeel/model/CommittedOffset", "failed", "()Ljava/util/List;"⟩ : MethodName) (head1 (Jvm.Cond.code (⟨"evenkeel/model/CommittedOffset", "failed", "()Ljava/util/List;"⟩ : MethodName) prog_145_method_19_code 1 (some (.object "java/util/List")) :: ws) ({ frames := 0, cells := 0, slots := 0, locals := 0 } : Room)) (fun a U => a = #[(.ref oa)] ∧ Z.Warmed39 U.vm ∧ U.heap = h0) (fun _ _ _ _ _ => True) (fun _ U o U' => ∃ v L, o = .returned v ∧ Q18 Z oa xv h0 n0 v U'.heap L ∧ FrameEnd U o U' L ({ frames := 0, cells := 0, slots := 0, locals := 0 } : Room).cells ({ frames := 0, cells := 0, slots := 0, locals := 0 } : Room).slots) := by
  refine MetFree.of_bodySF (plainFor_of_name pn_6) hisR ?_
  intro p e s m args below meth c s₁ Bd hml0 hP hK
  obtain ⟨rfl, hZ, hh⟩ := hP
  have hx := Bd.exec
  have hby := Bd.bytes
  have hml : c.maxLocals = 1 := hml0
  have hown : s.vm.findClass "evenkeel/model/CommittedOffset" = some m.cls := findClass_of_methodNamed Bd.named
  have hnm := (name_of_methodNamed Bd.named Bd.method).1
  have X0 : Stand p l e ({ frames := 0, cells := 0, slots := 0, locals := 0 } : Room) s m #[(.ref oa)] below meth c s₁ [] 0 0 := Stand.of_body Bd
  have e0 : s₁.heap = h0 := by rw [← hh, Bd.state]; rfl
  have N0 := Fr.nil n0
  obtain ⟨G, hG, pre0⟩ : ∃ G : State → Prop, (∀ t, G t → Steps p.tables e below (s₁.setTop (entryFrame m #[(.ref oa)] 1)) t) ∧ ∀ t, own_K p e below m s₁ 0 #[rv oa] [] t → G t := ⟨fun t => Steps p.tables e below (s₁.setTop (entryFrame m #[(.ref oa)] 1)) t, fun _ k => k, fun t k => castTop (ef_18 m oa) k⟩
  obtain ⟨T1, X1, e1, st1⟩ := getF X0 hx hZ hown (host := "") (Or.inl (hw _ (List.mem_of_getElem? (i := 94) rfl))) Via.refl e0 Fv (g := (mkF m 1 #[rv oa] [(.ref oa)])) rfl rfl (hb hby d18_1)
  have pre2 : ∀ t, own_K p e below m T1 4 #[rv oa] [(.ref xv)] t → G t := by
    intro t k
    refine pre0 t ?_
    show own_K p e below m s₁ 0 #[rv oa] [] _
    refine XS.aloadN X0.here hx rfl (hb hby d18_0) rfl rfl ?_
    show own_K p e below m s₁ 1 #[rv oa] [(.ref oa)] _
    refine st1 _ ?_
    exact k
  obtain ⟨fs, hr, hrun, hended, hW, hsame⟩ := X1.leave (v := some (.ref xv)) (fun h => by rw [Bd.returns] at h; cases h)
  refine ⟨_, _, hG _ (pre2 _ ?_), hrun, hended, _, _, rfl, ?_, ⟨_, rfl⟩, hW, hsame.mono (by decide) (by decide)⟩
  · show own_K p e below m T1 4 #[rv oa] [(.ref xv)] _
    exact retOut X1 hx Bd.returns rfl (Or.inr (Or.inr (Or.inr (Or.inr ⟨rfl, rfl, rfl⟩)))) (hb hby d18_4) hr
  · show Q18 Z oa xv h0 n0 _ T1.heap _
    rw [e1]
    exact ⟨rfl, N0, rfl⟩

theorem d15_0 : decode jdk_92_method_1_code 0 = .ok (.iload_n 0, 1) := by decide +kernel
theorem d15_1 : decode jdk_92_method_1_code 1 = .ok (.bipush 6, 2) := by decide +kernel
theorem d15_3 : decode jdk_92_method_1_code 3 = .ok (.ishr, 1) := by decide +kernel
theorem d15_4 : decode jdk_92_method_1_code 4 = .ok (.ireturn, 1) := by decide +kernel
theorem pn_7 : plainName "java/util/BitSet" = true := by first | (simp [plainName, overriddenIn]; done) | decide +kernel
theorem ef_15 (m : MethodId) (x0 : Int32) : entryFrame m #[(.int x0)] 1 = mkF m 0 #[iv x0] [] := by first | (simp [entryFrame, mkF, argsToLocals, Value.category]; done) | rfl
def Q15 (Z : State) (xi : Int32) (h0 : Heap) (n0 : Nat) (rv_ : Option Value) (h_ : Heap) (L_ : List Loc) : Prop := rv_ = some (.int (xi >>> ((6 : Int32) &&& 31))) ∧ Fr n0 L_ ∧ h_ = h0
set_option maxRecDepth 65536 in
set_option maxHeartbeats 40000000 in
theorem rm15 (l : Launch) (Z : State) (a0 : Array Value) (hw : ∀ d ∈ tables_1, d.before a0 Z = true) (ws : List Jvm.Cond) (xi : Int32) (h0 : Heap) (n0 : Nat) (Z0 : n0 ≤ h0.size) :
    MetFree l (⟨"java/util/BitSet", "wordIndex", "(I)I"⟩ : MethodName) (head1 (Jvm.Cond.code (⟨"java/util/BitSet", "wordIndex", "(I)I"⟩ : MethodName) jdk_92_method_1_code 1 (some .int) :: ws) ({ frames := 0, cells := 0, slots := 0, locals := 0 } : Room)) (fun a U => a = #[(.int xi)] ∧ Z.Warmed39 U.vm ∧ U.heap = h0) (fun _ _ _ _ _ => True) (fun _ U o U' => ∃ v L, o = .returned v ∧ Q15 Z xi h0 n0 v U'.heap L ∧ FrameEnd U o U' L ({ frames := 0, cells := 0, slots := 0, locals := 0 } : Room).cells ({ frames := 0, cells := 0, slots := 0, locals := 0 } : Room).slots) := by
  refine MetFree.of_bodySF (plainFor_of_name pn_7) hisR ?_
  intro p e s m args below meth c s₁ Bd hml0 hP hK
  obtain ⟨rfl, hZ, hh⟩ := hP
  have hx := Bd.exec
  have hby := Bd.bytes
  have hml : c.maxLocals = 1 := hml0
  have hown : s.vm.findClass "java/util/BitSet" = some m.cls := findClass_of_methodNamed Bd.named
  have hnm := (name_of_methodNamed Bd.named Bd.method).1
  have X0 : Stand p l e ({ frames := 0, cells := 0, slots := 0, locals := 0 } : Room) s m #[(.int xi)] below meth c s₁ [] 0 0 := Stand.of_body Bd
  have e0 : s₁.heap = h0 := by rw [← hh, Bd.state]; rfl
  have N0 := Fr.nil n0
  obtain ⟨G, hG, pre0⟩ : ∃ G : State → Prop, (∀ t, G t → Steps p.tables e below (s₁.setTop (entryFrame m #[(.int xi)] 1)) t) ∧ ∀ t, own_K p e below m s₁ 0 #[iv xi] [] t → G t := ⟨fun t => Steps p.tables e below (s₁.setTop (entryFrame m #[(.int xi)] 1)) t, fun _ k => k, fun t k => castTop (ef_15 m xi) k⟩
  have pre1 : ∀ t, own_K p e below m s₁ 4 #[iv xi] [(.int (xi >>> ((6 : Int32) &&& 31)))] t → G t := by
    intro t k
    refine pre0 t ?_
    show own_K p e below m s₁ 0 #[iv xi] [] _
    refine XS.iloadN X0.here hx rfl (hb hby d15_0) rfl ?_
    show own_K p e below m s₁ 1 #[iv xi] [(.int xi)] _
    refine XS.bipush X0.here hx rfl (hb hby d15_1) ?_
    show own_K p e below m s₁ 3 #[iv xi] [(.int (6 : Int32)), (.int xi)] _
    refine XS.ishr X0.here hx rfl (hb hby d15_3) rfl ?_
    exact k
  obtain ⟨fs, hr, hrun, hended, hW, hsame⟩ := X0.leave (v := some (.int (xi >>> ((6 : Int32) &&& 31)))) (fun h => by rw [Bd.returns] at h; cases h)
  refine ⟨_, _, hG _ (pre1 _ ?_), hrun, hended, _, _, rfl, ?_, ⟨_, rfl⟩, hW, hsame.mono (by decide) (by decide)⟩
  · show own_K p e below m s₁ 4 #[iv xi] [(.int (xi >>> ((6 : Int32) &&& 31)))] _
    exact retI X0 hx Bd.returns (hb hby d15_4) hr
  · show Q15 Z xi h0 n0 _ s₁.heap _
    rw [e0]
    exact ⟨rfl, N0, rfl⟩

theorem d14_0 : decode jdk_92_method_6_code 0 = .ok (.aload_n 0, 1) := by decide +kernel
theorem d14_1 : decode jdk_92_method_6_code 1 = .ok (.iload_n 1, 1) := by decide +kernel
theorem d14_2 : decode jdk_92_method_6_code 2 = .ok (.iconst 1, 1) := by decide +kernel
theorem d14_3 : decode jdk_92_method_6_code 3 = .ok (.isub, 1) := by decide +kernel
theorem d14_4 : decode jdk_92_method_6_code 4 = .ok (.invokestatic 52, 3) := by decide +kernel
theorem pd_8 : parseMethodDescriptor "(I)I" = some ⟨[.int], some .int⟩ := by decide +kernel
theorem d14_7 : decode jdk_92_method_6_code 7 = .ok (.iconst 1, 1) := by decide +kernel
theorem d14_8 : decode jdk_92_method_6_code 8 = .ok (.iadd, 1) := by decide +kernel
theorem d14_9 : decode jdk_92_method_6_code 9 = .ok (.newarray .long, 2) := by decide +kernel
theorem d14_11 : decode jdk_92_method_6_code 11 = .ok (.putfield 11, 3) := by decide +kernel
theorem d14_14 : decode jdk_92_method_6_code 14 = .ok (.return_, 1) := by decide +kernel
theorem ef_14 (m : MethodId) (x0 : Addr) (x1 : Int32) : entryFrame m #[(.ref x0), (.int x1)] 2 = mkF m 0 #[rv x0, iv x1] [] := by first | (simp [entryFrame, mkF, argsToLocals, Value.category]; done) | rfl
def Q14 (Z : State) (oa : Addr) (xn : Int32) (u2 : Value) (uf_oa_wordsInUse : Value) (uf_oa_sizeIsSticky : Value) (h0 : Heap) (n0 : Nat) (rv_ : Option Value) (h_ : Heap) (L_ : List Loc) : Prop := ∃ (ow : Addr) (kw : ClassId), rv_ = none ∧ Fr n0 L_ ∧ Keep h0 h_ [oa] ∧ h0.size ≤ ow ∧ Fld Z h_ oa "java/util/BitSet" "words" "[J" (.ref ow) ∧ Arv Z h_ ow kw .long (1 : Int32) [(.long (0 : Int64))] (.long (0 : Int64)) ∧ Fld Z h_ oa "java/util/BitSet" "wordsInUse" "I" uf_oa_wordsInUse ∧ Fld Z h_ oa "java/util/BitSet" "sizeIsSticky" "Z" uf_oa_sizeIsSticky
set_option maxRecDepth 65536 in
set_option maxHeartbeats 40000000 in
theorem rm14 (l : Launch) (Z : State) (a0 : Array Value) (hw : ∀ d ∈ tables_1, d.before a0 Z = true) (ws : List Jvm.Cond) (oa : Addr) (xn : Int32) (u2 : Value) (uf_oa_wordsInUse : Value) (uf_oa_sizeIsSticky : Value) (h0 : Heap) (n0 : Nat) (Z0 : n0 ≤ h0.size) (E_ : Exa Z h0 oa "java/util/BitSet") (F2 : Fld Z h0 oa "java/util/BitSet" "words" "[J" u2) (g_ : n0 ≤ oa) (hn : xn = (64 : Int32)) (F_oa_wordsInUse : Fld Z h0 oa "java/util/BitSet" "wordsInUse" "I" uf_oa_wordsInUse) (F_oa_sizeIsSticky : Fld Z h0 oa "java/util/BitSet" "sizeIsSticky" "Z" uf_oa_sizeIsSticky) :
    MetFree l (⟨"java/util/BitSet", "initWords", "(I)V"⟩ : MethodName) (head1 (Jvm.Cond.code (⟨"java/util/BitSet", "initWords", "(I)V"⟩ : MethodName) jdk_92_method_6_code 2 none :: ws) ({ frames := 1, cells := 1, slots := 1, locals := 13 } : Room)) (fun a U => a = #[(.ref oa), (.int xn)] ∧ Z.Warmed39 U.vm ∧ U.heap = h0) (fun _ _ _ _ _ => True) (fun _ U o U' => ∃ v L, o = .returned v ∧ Q14 Z oa xn u2 uf_oa_wordsInUse uf_oa_sizeIsSticky h0 n0 v U'.heap L ∧ FrameEnd U o U' L ({ frames := 1, cells := 1, slots := 1, locals := 13 } : Room).cells ({ frames := 1, cells := 1, slots := 1, locals := 13 } : Room).slots) := by
  refine MetFree.of_bodySF (plainFor_of_name pn_7) hisR ?_
  intro p e s m args below meth c s₁ Bd hml0 hP hK
  obtain ⟨rfl, hZ, hh⟩ := hP
  have hx := Bd.exec
  have hby := Bd.bytes
  have hml : c.maxLocals = 2 := hml0
  have hown : s.vm.findClass "java/util/BitSet" = some m.cls := findClass_of_methodNamed Bd.named
  have hnm := (name_of_methodNamed Bd.named Bd.method).1
  have X0 : Stand p l e ({ frames := 1, cells := 1, slots := 1, locals := 13 } : Room) s m #[(.ref oa), (.int xn)] below meth c s₁ [] 0 0 := Stand.of_body Bd
  have e0 : s₁.heap = h0 := by rw [← hh, Bd.state]; rfl
  have N0 := Fr.nil n0
  obtain ⟨G, hG, pre0⟩ : ∃ G : State → Prop, (∀ t, G t → Steps p.tables e below (s₁.setTop (entryFrame m #[(.ref oa), (.int xn)] 2)) t) ∧ ∀ t, own_K p e below m s₁ 0 #[rv oa, iv xn] [] t → G t := ⟨fun t => Steps p.tables e below (s₁.setTop (entryFrame m #[(.ref oa), (.int xn)] 2)) t, fun _ k => k, fun t k => castTop (ef_14 m oa xn) k⟩
  obtain ⟨_, _, ⟨T1, L1, k1, n1⟩, -, X1, ⟨Lc1, hQ1, l1, y1, z1⟩, st1⟩ := Jvm.LawKit.callS X0 hx (y := (⟨"java/util/BitSet", "wordIndex", "(I)I"⟩ : MethodName)) hown (mvT hZ (hw _ (List.mem_of_getElem? (i := 119) rfl))) (mvT hZ (hw _ (List.mem_of_getElem? (i := 120) rfl))) (mvT hZ (hw _ (List.mem_of_getElem? (i := 105) rfl))) (mvT hZ (hw _ (List.mem_of_getElem? (i := 121) rfl))) (by decide) (backOf (W := 1) (rm15 l Z a0 hw [] (xn - (1 : Int32)) h0 n0 Z0 ) hZ (hw _ (List.mem_of_getElem? (i := 121) rfl)) (hw _ (List.mem_of_getElem? (i := 105) rfl)) (by decide) (by decide)) (g := (mkF m 4 #[rv oa, iv xn] [(.int (xn - (1 : Int32))), (.ref oa)])) rfl (by rw [hml]; rfl) (argsL := [(.int (xn - (1 : Int32)))]) (rest := [(.ref oa)]) (lenOf pd_8 rfl) rfl (by show 2 * 0 + _ ≤ _; exact Nat.le_of_eq rfl) (hb hby d14_4) (fun _ _ => ⟨rfl, e0, (by decide : 0 + 0 ≤ _), (by decide : 0 + 0 ≤ _)⟩)
  dsimp only [Pt.U, Pt.locs, Pt.cells, Pt.slots] at X1 l1 y1 z1 st1 hQ1
  subst l1 y1 z1
  obtain ⟨rfl, Nq1, eh1⟩ := hQ1
  have N1 := Fr.app N0 Nq1
  have pre2 : ∀ t, own_K p e below m T1 9 #[rv oa, iv xn] [(.int (((xn - (1 : Int32)) >>> ((6 : Int32) &&& 31)) + (1 : Int32))), (.ref oa)] t → G t := by
    intro t k
    refine pre0 t ?_
    show own_K p e below m s₁ 0 #[rv oa, iv xn] [] _
    refine XS.aloadN X0.here hx rfl (hb hby d14_0) rfl rfl ?_
    show own_K p e below m s₁ 1 #[rv oa, iv xn] [(.ref oa)] _
    refine XS.iloadN X0.here hx rfl (hb hby d14_1) rfl ?_
    show own_K p e below m s₁ 2 #[rv oa, iv xn] [(.int xn), (.ref oa)] _
    refine XS.iconst X0.here hx rfl (hb hby d14_2) ?_
    show own_K p e below m s₁ 3 #[rv oa, iv xn] [(.int (1 : Int32)), (.int xn), (.ref oa)] _
    refine XS.isub X0.here hx rfl (hb hby d14_3) rfl ?_
    show own_K p e below m s₁ 4 #[rv oa, iv xn] [(.int (xn - (1 : Int32))), (.ref oa)] _
    refine st1 _ ?_
    show own_K p e below m T1 7 #[rv oa, iv xn] [(.int ((xn - (1 : Int32)) >>> ((6 : Int32) &&& 31))), (.ref oa)] _
    refine XS.iconst X1.here hx rfl (hb hby d14_7) ?_
    show own_K p e below m T1 8 #[rv oa, iv xn] [(.int (1 : Int32)), (.int ((xn - (1 : Int32)) >>> ((6 : Int32) &&& 31))), (.ref oa)] _
    refine XS.iadd X1.here hx rfl (hb hby d14_8) rfl ?_
    exact k
  have hq3 : (((xn - (1 : Int32)) >>> ((6 : Int32) &&& 31)) + (1 : Int32)) = (1 : Int32) := (by rw [hn]; decide)
  have pre3 : ∀ t, own_K p e below m T1 9 #[rv oa, iv xn] [(.int (1 : Int32)), (.ref oa)] t → G t := fun t k => pre2 t (by rw [hq3]; exact k)
  obtain ⟨T4, h4, k4, X4, e4, E4, A4, st4⟩ := newP X1 hx hZ (hw _ (List.mem_of_getElem? (i := 122) rfl)) eh1 (g := (mkF m 9 #[rv oa, iv xn] [(.int (1 : Int32)), (.ref oa)])) rfl (hb hby d14_9) rfl (by decide) (cap := 1) (by decide) (by decide) (by decide) (by decide)
  obtain ⟨b4, g4⟩ : ∃ z, z = h0.size := ⟨_, rfl⟩
  rw [← g4] at A4 st4
  have ne4_oa : oa ≠ b4 := Nat.ne_of_lt (Nat.lt_of_lt_of_le E_.lt (Nat.le_of_eq g4.symm))
  have ge_b4 : n0 ≤ b4 := Nat.le_trans Z0 (Nat.le_of_eq g4.symm)
  have sz_b4 : h0.size ≤ b4 := Nat.le_trans (Keep.refl h0 [oa]).1 (Nat.le_of_eq g4.symm)
  have K4 : Keep h0 h4 [oa] := (Keep.refl h0 [oa]).ext E4
  have sz4 : n0 ≤ h4.size := Nat.le_trans Z0 E4.1
  have V4 : Arv Z h4 b4 k4 .long (1 : Int32) [(.long (0 : Int64))] (.long (0 : Int64)) := (Arv.new A4 (by decide)).pad (pad_rep [] (.long (0 : Int64)) 1)
  have f6 : Fld Z h4 oa "java/util/BitSet" "words" "[J" u2 := (F2.ext E4)
  have f7 : Exa Z h4 oa "java/util/BitSet" := (E_.ext E4)
  obtain ⟨T5, h5, X5, e5, W5, st5⟩ := putF X4 hx hZ hown (host := "") (Or.inl (hw _ (List.mem_of_getElem? (i := 123) rfl))) Via.refl e4 f6 f7 (Or.inl (hw _ (List.mem_of_getElem? (i := 124) rfl))) (hw _ (List.mem_of_getElem? (i := 104) rfl)) (ty := (.array .long)) (by decide) rfl rfl (g := (mkF m 11 #[rv oa, iv xn] [(.ref b4), (.ref oa)])) rfl rfl (hb hby d14_11)
  have f5w := f6.same W5
  have K5 : Keep h0 h5 [oa] := K4.wr W5 (Or.inl (List.mem_of_getElem? (i := 0) rfl))
  have N5 := Fr.snoc X5 N1 g_
  have sz5 : n0 ≤ h5.size := Nat.le_trans sz4 (Keep.of_wr W5).1
  have pre8 : ∀ t, own_K p e below m T5 14 #[rv oa, iv xn] [] t → G t := by
    intro t k
    refine pre3 t ?_
    show own_K p e below m T1 9 #[rv oa, iv xn] [(.int (1 : Int32)), (.ref oa)] _
    refine st4 _ ?_
    show own_K p e below m T4 11 #[rv oa, iv xn] [(.ref b4), (.ref oa)] _
    refine st5 _ ?_
    exact k
  have f9 : Arv Z h5 b4 k4 .long (1 : Int32) [(.long (0 : Int64))] (.long (0 : Int64)) := (V4.other W5 (Ne.symm ne4_oa))
  have f10 : Fld Z h5 oa "java/util/BitSet" "wordsInUse" "I" uf_oa_wordsInUse := ((F_oa_wordsInUse.ext E4).other W5 (Or.inr (slot_ne (Or.inl (hw _ (List.mem_of_getElem? (i := 111) rfl))) (Or.inl (hw _ (List.mem_of_getElem? (i := 124) rfl))) (by decide) (t := .int) (t' := (.array .long)) (by decide) (by decide))))
  have f11 : Fld Z h5 oa "java/util/BitSet" "sizeIsSticky" "Z" uf_oa_sizeIsSticky := ((F_oa_sizeIsSticky.ext E4).other W5 (Or.inr (slot_ne (Or.inl (hw _ (List.mem_of_getElem? (i := 113) rfl))) (Or.inl (hw _ (List.mem_of_getElem? (i := 124) rfl))) (by decide) (t := .boolean) (t' := (.array .long)) (by decide) (by decide))))
  obtain ⟨fs, hr, hrun, hended, hW, hsame⟩ := X5.leave (v := none) (fun _ => rfl)
  refine ⟨_, _, hG _ (pre8 _ ?_), hrun, hended, _, _, rfl, ?_, ⟨_, rfl⟩, hW, hsame.mono (by decide) (by decide)⟩
  · show own_K p e below m T5 14 #[rv oa, iv xn] [] _
    exact X5.returnOut hx Bd.returns (hb hby d14_14) hr
  · show Q14 Z oa xn u2 uf_oa_wordsInUse uf_oa_sizeIsSticky h0 n0 _ T5.heap _
    rw [e5]
    exact ⟨b4, k4, rfl, N5, K5, sz_b4, f5w, f9, f10, f11⟩

theorem d13_0 : decode jdk_92_method_4_code 0 = .ok (.aload_n 0, 1) := by decide +kernel
theorem d13_1 : decode jdk_92_method_4_code 1 = .ok (.invokespecial 21, 3) := by decide +kernel
theorem d13_4 : decode jdk_92_method_4_code 4 = .ok (.aload_n 0, 1) := by decide +kernel
theorem d13_5 : decode jdk_92_method_4_code 5 = .ok (.iconst 0, 1) := by decide +kernel
theorem d13_6 : decode jdk_92_method_4_code 6 = .ok (.putfield 7, 3) := by decide +kernel
theorem d13_9 : decode jdk_92_method_4_code 9 = .ok (.aload_n 0, 1) := by decide +kernel
theorem d13_10 : decode jdk_92_method_4_code 10 = .ok (.iconst 0, 1) := by decide +kernel
theorem d13_11 : decode jdk_92_method_4_code 11 = .ok (.putfield 24, 3) := by decide +kernel
theorem d13_14 : decode jdk_92_method_4_code 14 = .ok (.aload_n 0, 1) := by decide +kernel
theorem d13_15 : decode jdk_92_method_4_code 15 = .ok (.bipush 64, 2) := by decide +kernel
theorem d13_17 : decode jdk_92_method_4_code 17 = .ok (.invokevirtual 27, 3) := by decide +kernel
theorem pd_9 : parseMethodDescriptor "(I)V" = some ⟨[.int], none⟩ := by decide +kernel
theorem d13_20 : decode jdk_92_method_4_code 20 = .ok (.aload_n 0, 1) := by decide +kernel
theorem d13_21 : decode jdk_92_method_4_code 21 = .ok (.iconst 0, 1) := by decide +kernel
theorem d13_22 : decode jdk_92_method_4_code 22 = .ok (.putfield 24, 3) := by decide +kernel
theorem d13_25 : decode jdk_92_method_4_code 25 = .ok (.return_, 1) := by decide +kernel
theorem ef_13 (m : MethodId) (x0 : Addr) : entryFrame m #[(.ref x0)] 1 = mkF m 0 #[rv x0] [] := by first | (simp [entryFrame, mkF, argsToLocals, Value.category]; done) | rfl
def Q13 (Z : State) (oa : Addr) (u0 : Value) (u1 : Value) (u2 : Value) (h0 : Heap) (n0 : Nat) (rv_ : Option Value) (h_ : Heap) (L_ : List Loc) : Prop := ∃ (ow : Addr) (kw : ClassId), rv_ = none ∧ Fr n0 L_ ∧ Keep h0 h_ [oa] ∧ h0.size ≤ ow ∧ Fld Z h_ oa "java/util/BitSet" "words" "[J" (.ref ow) ∧ Arv Z h_ ow kw .long (1 : Int32) [(.long (0 : Int64))] (.long (0 : Int64)) ∧ Fld Z h_ oa "java/util/BitSet" "wordsInUse" "I" (.int (0 : Int32)) ∧ Fld Z h_ oa "java/util/BitSet" "sizeIsSticky" "Z" (.int (0 : Int32))
set_option maxRecDepth 65536 in
set_option maxHeartbeats 40000000 in
theorem rm13 (l : Launch) (Z : State) (a0 : Array Value) (hw : ∀ d ∈ tables_1, d.before a0 Z = true) (ws : List Jvm.Cond) (oa : Addr) (u0 : Value) (u1 : Value) (u2 : Value) (h0 : Heap) (n0 : Nat) (Z0 : n0 ≤ h0.size) (E_ : Exa Z h0 oa "java/util/BitSet") (F0 : Fld Z h0 oa "java/util/BitSet" "wordsInUse" "I" u0) (F1 : Fld Z h0 oa "java/util/BitSet" "sizeIsSticky" "Z" u1) (F2 : Fld Z h0 oa "java/util/BitSet" "words" "[J" u2) (g_ : n0 ≤ oa) :
    MetFree l (⟨"java/util/BitSet", "<init>", "()V"⟩ : MethodName) (head1 (Jvm.Cond.code (⟨"java/util/BitSet", "<init>", "()V"⟩ : MethodName) jdk_92_method_4_code 1 none :: ws) ({ frames := 2, cells := 1, slots := 1, locals := 26 } : Room)) (fun a U => a = #[(.ref oa)] ∧ Z.Warmed39 U.vm ∧ U.heap = h0) (fun _ _ _ _ _ => True) (fun _ U o U' => ∃ v L, o = .returned v ∧ Q13 Z oa u0 u1 u2 h0 n0 v U'.heap L ∧ FrameEnd U o U' L ({ frames := 2, cells := 1, slots := 1, locals := 26 } : Room).cells ({ frames := 2, cells := 1, slots := 1, locals := 26 } : Room).slots) := by
  refine MetFree.of_bodySF (plainFor_of_name pn_7) hisR ?_
  intro p e s m args below meth c s₁ Bd hml0 hP hK
  obtain ⟨rfl, hZ, hh⟩ := hP
  have hx := Bd.exec
  have hby := Bd.bytes
  have hml : c.maxLocals = 1 := hml0
  have hown : s.vm.findClass "java/util/BitSet" = some m.cls := findClass_of_methodNamed Bd.named
  have hnm := (name_of_methodNamed Bd.named Bd.method).1
  have X0 : Stand p l e ({ frames := 2, cells := 1, slots := 1, locals := 26 } : Room) s m #[(.ref oa)] below meth c s₁ [] 0 0 := Stand.of_body Bd
  have e0 : s₁.heap = h0 := by rw [← hh, Bd.state]; rfl
  have N0 := Fr.nil n0
  obtain ⟨G, hG, pre0⟩ : ∃ G : State → Prop, (∀ t, G t → Steps p.tables e below (s₁.setTop (entryFrame m #[(.ref oa)] 1)) t) ∧ ∀ t, own_K p e below m s₁ 0 #[rv oa] [] t → G t := ⟨fun t => Steps p.tables e below (s₁.setTop (entryFrame m #[(.ref oa)] 1)) t, fun _ k => k, fun t k => castTop (ef_13 m oa) k⟩
  obtain ⟨T1, X1, e1, st1⟩ := initO X0 hx hZ hown (hw _ (List.mem_of_getElem? (i := 109) rfl)) (hw _ (List.mem_of_getElem? (i := 25) rfl)) (hw _ (List.mem_of_getElem? (i := 26) rfl)) e0 (g := (mkF m 1 #[rv oa] [(.ref oa)])) rfl (by rw [hml]; rfl) rfl (hb hby d13_1) (by decide) (W := 0) (by show 2 * 0 + _ ≤ _; exact Nat.le_of_eq rfl) (by decide)
  obtain ⟨T2, h2, X2, e2, W2, st2⟩ := putF X1 hx hZ hown (host := "") (Or.inl (hw _ (List.mem_of_getElem? (i := 110) rfl))) Via.refl e1 F0 E_ (Or.inl (hw _ (List.mem_of_getElem? (i := 111) rfl))) (hw _ (List.mem_of_getElem? (i := 104) rfl)) (ty := .int) (by decide) rfl rfl (g := (mkF m 6 #[rv oa] [(.int (0 : Int32)), (.ref oa)])) rfl rfl (hb hby d13_6)
  have f2w := F0.same W2
  have K2 : Keep h0 h2 [oa] := (Keep.refl h0 [oa]).wr W2 (Or.inl (List.mem_of_getElem? (i := 0) rfl))
  have N2 := Fr.snoc X2 N0 g_
  have sz2 : n0 ≤ h2.size := Nat.le_trans Z0 (Keep.of_wr W2).1
  have f4 : Fld Z h2 oa "java/util/BitSet" "sizeIsSticky" "Z" u1 := (F1.other W2 (Or.inr (slot_ne (Or.inl (hw _ (List.mem_of_getElem? (i := 113) rfl))) (Or.inl (hw _ (List.mem_of_getElem? (i := 111) rfl))) (by decide) (t := .boolean) (t' := .int) (by decide) (by decide))))
  have f5 : Exa Z h2 oa "java/util/BitSet" := (E_.wr W2)
  obtain ⟨T3, h3, X3, e3, W3, st3⟩ := putFN X2 hx hZ hown (hw _ (List.mem_of_getElem? (i := 112) rfl)) Via.refl e2 f4 f5 (Or.inl (hw _ (List.mem_of_getElem? (i := 113) rfl))) (hw _ (List.mem_of_getElem? (i := 104) rfl)) (ty := .boolean) (v' := (.int (0 : Int32))) (by decide) rfl rfl (g := (mkF m 11 #[rv oa] [(.int (0 : Int32)), (.ref oa)])) rfl rfl (hb hby d13_11)
  have f3w := f4.same W3
  have K3 : Keep h0 h3 [oa] := K2.wr W3 (Or.inl (List.mem_of_getElem? (i := 0) rfl))
  have N3 := Fr.snoc X3 N2 g_
  have sz3 : n0 ≤ h3.size := Nat.le_trans sz2 (Keep.of_wr W3).1
  have f7 : Exa Z h3 oa "java/util/BitSet" := (f5.wr W3)
  have f8 : Fld Z h3 oa "java/util/BitSet" "words" "[J" u2 := ((F2.other W2 (Or.inr (slot_ne (Or.inl (hw _ (List.mem_of_getElem? (i := 124) rfl))) (Or.inl (hw _ (List.mem_of_getElem? (i := 111) rfl))) (by decide) (t := (.array .long)) (t' := .int) (by decide) (by decide)))).other W3 (Or.inr (slot_ne (Or.inl (hw _ (List.mem_of_getElem? (i := 124) rfl))) (Or.inl (hw _ (List.mem_of_getElem? (i := 113) rfl))) (by decide) (t := (.array .long)) (t' := .boolean) (by decide) (by decide))))
  have f9 : Fld Z h3 oa "java/util/BitSet" "wordsInUse" "I" (.int (0 : Int32)) := (f2w.other W3 (Or.inr (slot_ne (Or.inl (hw _ (List.mem_of_getElem? (i := 111) rfl))) (Or.inl (hw _ (List.mem_of_getElem? (i := 113) rfl))) (by decide) (t := .int) (t' := .boolean) (by decide) (by decide))))
  obtain ⟨cq6, q6, q6'⟩ := f7.cell
  obtain ⟨_, _, ⟨T6, L6, k6, n6⟩, -, X6, ⟨Lc6, hQ6, l6, y6, z6⟩, st6⟩ := X3.privateBack hx (y := (⟨"java/util/BitSet", "initWords", "(I)V"⟩ : MethodName)) hown (mvT hZ (hw _ (List.mem_of_getElem? (i := 114) rfl))) (mvT hZ (hw _ (List.mem_of_getElem? (i := 115) rfl))) (mvT hZ (hw _ (List.mem_of_getElem? (i := 117) rfl))) (Cond.privateMethod_at (mvP hZ (hw _ (List.mem_of_getElem? (i := 116) rfl)) (args := #[]))) (mvT hZ (hw _ (List.mem_of_getElem? (i := 118) rfl))) (by decide) (backOf (W := 0) (rm14 l Z a0 hw [] oa (64 : Int32) u2 (.int (0 : Int32)) (.int (0 : Int32)) h3 n0 sz3 f7 f8 g_ rfl f9 f3w) hZ (hw _ (List.mem_of_getElem? (i := 118) rfl)) (hw _ (List.mem_of_getElem? (i := 105) rfl)) (by decide) (by decide)) (g := (mkF m 17 #[rv oa] [(.int (64 : Int32)), (.ref oa)])) rfl (by rw [hml]; rfl) (Steps.refl _) (a := oa) (by rw [e3]; exact q6) q6' (argsL := [(.int (64 : Int32))]) (rest := []) (lenOf pd_9 rfl) rfl (by show 2 * 0 + _ ≤ _; exact Nat.le_of_eq rfl) (hb hby d13_17) (fun _ _ => ⟨rfl, e3, (by decide : 0 + 1 ≤ _), (by decide : 0 + 1 ≤ _)⟩)
  dsimp only [Pt.U, Pt.locs, Pt.cells, Pt.slots] at X6 l6 y6 z6 st6 hQ6
  subst l6 y6 z6
  obtain ⟨ow6, kw6, rfl, Nq6, Kc6, gt_6, Fw_6, Vw_6, P_oa_wordsInUse_6, P_oa_sizeIsSticky_6⟩ := hQ6
  have N6 := Fr.app N3 Nq6
  have K6 : Keep h0 T6.heap [oa] := K3.trans Kc6 (allS (Or.inl (List.mem_of_getElem? (i := 0) rfl)) all0)
  have sz6 : n0 ≤ T6.heap.size := Nat.le_trans sz3 Kc6.1
  have ge_ow6 : n0 ≤ ow6 := Nat.le_trans sz3 gt_6
  have sz_ow6 : h0.size ≤ ow6 := Nat.le_trans K3.1 gt_6
  have ne_oa_ow6 : oa ≠ ow6 := Nat.ne_of_lt (Nat.lt_of_lt_of_le f7.lt gt_6)
  have f11 : Exa Z T6.heap oa "java/util/BitSet" := (f7.keep Kc6)
  obtain ⟨T10, h10, X10, e10, W10, st10⟩ := putFN X6 hx hZ hown (hw _ (List.mem_of_getElem? (i := 112) rfl)) Via.refl rfl P_oa_sizeIsSticky_6 f11 (Or.inl (hw _ (List.mem_of_getElem? (i := 113) rfl))) (hw _ (List.mem_of_getElem? (i := 104) rfl)) (ty := .boolean) (v' := (.int (0 : Int32))) (by decide) rfl rfl (g := (mkF m 22 #[rv oa] [(.int (0 : Int32)), (.ref oa)])) rfl rfl (hb hby d13_22)
  have f10w := P_oa_sizeIsSticky_6.same W10
  have K10 : Keep h0 h10 [oa] := K6.wr W10 (Or.inl (List.mem_of_getElem? (i := 0) rfl))
  have N10 := Fr.snoc X10 N6 g_
  have sz10 : n0 ≤ h10.size := Nat.le_trans sz6 (Keep.of_wr W10).1
  have pre12 : ∀ t, own_K p e below m T10 25 #[rv oa] [] t → G t := by
    intro t k
    refine pre0 t ?_
    show own_K p e below m s₁ 0 #[rv oa] [] _
    refine XS.aloadN X0.here hx rfl (hb hby d13_0) rfl rfl ?_
    show own_K p e below m s₁ 1 #[rv oa] [(.ref oa)] _
    refine st1 _ ?_
    show own_K p e below m T1 4 #[rv oa] [] _
    refine XS.aloadN X1.here hx rfl (hb hby d13_4) rfl rfl ?_
    show own_K p e below m T1 5 #[rv oa] [(.ref oa)] _
    refine XS.iconst X1.here hx rfl (hb hby d13_5) ?_
    show own_K p e below m T1 6 #[rv oa] [(.int (0 : Int32)), (.ref oa)] _
    refine st2 _ ?_
    show own_K p e below m T2 9 #[rv oa] [] _
    refine XS.aloadN X2.here hx rfl (hb hby d13_9) rfl rfl ?_
    show own_K p e below m T2 10 #[rv oa] [(.ref oa)] _
    refine XS.iconst X2.here hx rfl (hb hby d13_10) ?_
    show own_K p e below m T2 11 #[rv oa] [(.int (0 : Int32)), (.ref oa)] _
    refine st3 _ ?_
    show own_K p e below m T3 14 #[rv oa] [] _
    refine XS.aloadN X3.here hx rfl (hb hby d13_14) rfl rfl ?_
    show own_K p e below m T3 15 #[rv oa] [(.ref oa)] _
    refine XS.bipush X3.here hx rfl (hb hby d13_15) ?_
    show own_K p e below m T3 17 #[rv oa] [(.int (64 : Int32)), (.ref oa)] _
    refine st6.trans ?_
    show own_K p e below m T6 20 #[rv oa] [] _
    refine XS.aloadN X6.here hx rfl (hb hby d13_20) rfl rfl ?_
    show own_K p e below m T6 21 #[rv oa] [(.ref oa)] _
    refine XS.iconst X6.here hx rfl (hb hby d13_21) ?_
    show own_K p e below m T6 22 #[rv oa] [(.int (0 : Int32)), (.ref oa)] _
    refine st10 _ ?_
    exact k
  have f13 : Fld Z h10 oa "java/util/BitSet" "words" "[J" (.ref ow6) := (Fw_6.other W10 (Or.inr (slot_ne (Or.inl (hw _ (List.mem_of_getElem? (i := 124) rfl))) (Or.inl (hw _ (List.mem_of_getElem? (i := 113) rfl))) (by decide) (t := (.array .long)) (t' := .boolean) (by decide) (by decide))))
  have f14 : Arv Z h10 ow6 kw6 .long (1 : Int32) [(.long (0 : Int64))] (.long (0 : Int64)) := (Vw_6.other W10 (Ne.symm ne_oa_ow6))
  have f15 : Fld Z h10 oa "java/util/BitSet" "wordsInUse" "I" (.int (0 : Int32)) := (P_oa_wordsInUse_6.other W10 (Or.inr (slot_ne (Or.inl (hw _ (List.mem_of_getElem? (i := 111) rfl))) (Or.inl (hw _ (List.mem_of_getElem? (i := 113) rfl))) (by decide) (t := .int) (t' := .boolean) (by decide) (by decide))))
  obtain ⟨fs, hr, hrun, hended, hW, hsame⟩ := X10.leave (v := none) (fun _ => rfl)
  refine ⟨_, _, hG _ (pre12 _ ?_), hrun, hended, _, _, rfl, ?_, ⟨_, rfl⟩, hW, hsame.mono (by decide) (by decide)⟩
  · show own_K p e below m T10 25 #[rv oa] [] _
    exact X10.returnOut hx Bd.returns (hb hby d13_25) hr
  · show Q13 Z oa u0 u1 u2 h0 n0 _ T10.heap _
    rw [e10]
    exact ⟨ow6, kw6, rfl, N10, K10, sz_ow6, f13, f14, f15, f10w⟩

theorem d12_0 : decode prog_141_method_1_code 0 = .ok (.aload_n 0, 1) := by decide +kernel
theorem d12_1 : decode prog_141_method_1_code 1 = .ok (.invokespecial 1, 3) := by decide +kernel
theorem d12_4 : decode prog_141_method_1_code 4 = .ok (.aload_n 0, 1) := by decide +kernel
theorem d12_5 : decode prog_141_method_1_code 5 = .ok (.invokestatic 7, 3) := by decide +kernel
theorem d12_8 : decode prog_141_method_1_code 8 = .ok (.putfield 13, 3) := by decide +kernel
theorem d12_11 : decode prog_141_method_1_code 11 = .ok (.aload_n 0, 1) := by decide +kernel
theorem d12_12 : decode prog_141_method_1_code 12 = .ok (.new 19, 3) := by decide +kernel
theorem d12_15 : decode prog_141_method_1_code 15 = .ok (.dup, 1) := by decide +kernel
theorem d12_16 : decode prog_141_method_1_code 16 = .ok (.invokespecial 21, 3) := by decide +kernel
theorem d12_19 : decode prog_141_method_1_code 19 = .ok (.putfield 22, 3) := by decide +kernel
theorem d12_22 : decode prog_141_method_1_code 22 = .ok (.aload_n 0, 1) := by decide +kernel
theorem d12_23 : decode prog_141_method_1_code 23 = .ok (.ldc2_w 26, 3) := by decide +kernel
theorem d12_26 : decode prog_141_method_1_code 26 = .ok (.putfield 28, 3) := by decide +kernel
theorem d12_29 : decode prog_141_method_1_code 29 = .ok (.aload_n 0, 1) := by decide +kernel
theorem d12_30 : decode prog_141_method_1_code 30 = .ok (.new 19, 3) := by decide +kernel
theorem d12_33 : decode prog_141_method_1_code 33 = .ok (.dup, 1) := by decide +kernel
theorem d12_34 : decode prog_141_method_1_code 34 = .ok (.invokespecial 21, 3) := by decide +kernel
theorem d12_37 : decode prog_141_method_1_code 37 = .ok (.putfield 32, 3) := by decide +kernel
theorem d12_40 : decode prog_141_method_1_code 40 = .ok (.aload_n 0, 1) := by decide +kernel
theorem d12_41 : decode prog_141_method_1_code 41 = .ok (.iload_n 1, 1) := by decide +kernel
theorem d12_42 : decode prog_141_method_1_code 42 = .ok (.putfield 35, 3) := by decide +kernel
theorem d12_45 : decode prog_141_method_1_code 45 = .ok (.aload_n 0, 1) := by decide +kernel
theorem d12_46 : decode prog_141_method_1_code 46 = .ok (.aload_n 2, 1) := by decide +kernel
theorem d12_47 : decode prog_141_method_1_code 47 = .ok (.invokevirtual 39, 3) := by decide +kernel
theorem pd_10 : parseMethodDescriptor "()J" = some ⟨[], some .long⟩ := by decide +kernel
theorem d12_50 : decode prog_141_method_1_code 50 = .ok (.putfield 45, 3) := by decide +kernel
theorem d12_53 : decode prog_141_method_1_code 53 = .ok (.aload_n 0, 1) := by decide +kernel
theorem d12_54 : decode prog_141_method_1_code 54 = .ok (.aload_n 0, 1) := by decide +kernel
theorem d12_55 : decode prog_141_method_1_code 55 = .ok (.getfield 45, 3) := by decide +kernel
theorem d12_58 : decode prog_141_method_1_code 58 = .ok (.putfield 48, 3) := by decide +kernel
theorem d12_61 : decode prog_141_method_1_code 61 = .ok (.aload_n 0, 1) := by decide +kernel
theorem d12_62 : decode prog_141_method_1_code 62 = .ok (.aload_n 0, 1) := by decide +kernel
theorem d12_63 : decode prog_141_method_1_code 63 = .ok (.getfield 45, 3) := by decide +kernel
theorem d12_66 : decode prog_141_method_1_code 66 = .ok (.putfield 51, 3) := by decide +kernel
theorem d12_69 : decode prog_141_method_1_code 69 = .ok (.aload_n 0, 1) := by decide +kernel
theorem d12_70 : decode prog_141_method_1_code 70 = .ok (.aload_n 2, 1) := by decide +kernel
theorem d12_71 : decode prog_141_method_1_code 71 = .ok (.invokevirtual 53, 3) := by decide +kernel
theorem d12_74 : decode prog_141_method_1_code 74 = .ok (.putfield 56, 3) := by decide +kernel
theorem d12_77 : decode prog_141_method_1_code 77 = .ok (.aload_n 0, 1) := by decide +kernel
theorem d12_78 : decode prog_141_method_1_code 78 = .ok (.aload_n 2, 1) := by decide +kernel
theorem d12_79 : decode prog_141_method_1_code 79 = .ok (.invokevirtual 59, 3) := by decide +kernel
theorem d12_82 : decode prog_141_method_1_code 82 = .ok (.putfield 62, 3) := by decide +kernel
theorem d12_85 : decode prog_141_method_1_code 85 = .ok (.aload_n 2, 1) := by decide +kernel
theorem d12_86 : decode prog_141_method_1_code 86 = .ok (.invokevirtual 59, 3) := by decide +kernel
theorem d12_89 : decode prog_141_method_1_code 89 = .ok (.invokeinterface 65 1, 5) := by decide +kernel
theorem d12_94 : decode prog_141_method_1_code 94 = .ok (.ifCond .ne 71, 3) := by decide +kernel
theorem d12_165 : decode prog_141_method_1_code 165 = .ok (.return_, 1) := by decide +kernel
theorem pn_8 : plainName "evenkeel/client/Window" = true := by first | (simp [plainName, overriddenIn]; done) | decide +kernel
theorem ef_12 (m : MethodId) (x0 : Addr) (x1 : Int32) (x2 : Addr) : entryFrame m #[(.ref x0), (.int x1), (.ref x2)] 5 = mkF m 0 #[rv x0, iv x1, rv x2, .unset, .unset] [] := by first | (simp [entryFrame, mkF, argsToLocals, Value.category]; done) | rfl
def Q12 (Z : State) (oa : Addr) (xs : Int32) (oc : Addr) (u0 : Value) (u1 : Value) (u2 : Value) (u3 : Value) (u4 : Value) (u5 : Value) (u6 : Value) (u7 : Value) (u9 : Value) (u11 : Value) (qn : Int64) (el : Addr) (ea : Addr) (kE : ClassId) (h0 : Heap) (n0 : Nat) (rv_ : Option Value) (h_ : Heap) (L_ : List Loc) : Prop := ∃ (bf : Addr) (wf : Addr) (kf : ClassId) (bl : Addr) (wl : Addr) (kl : ClassId), rv_ = none ∧ Fr n0 L_ ∧ Keep h0 h_ [oa] ∧ Fld Z h_ oa "evenkeel/client/Window" "size" "I" (.int xs) ∧ Fld Z h_ oa "evenkeel/client/Window" "committed" "J" (.long qn) ∧ Fld Z h_ oa "evenkeel/client/Window" "unfinished" "J" (.long qn) ∧ Fld Z h_ oa "evenkeel/client/Window" "next" "J" (.long qn) ∧ Fld Z h_ oa "evenkeel/client/Window" "restart" "J" (.long (-1 : Int64)) ∧ Fld Z h_ oa "evenkeel/client/Window" "consumed" "Ljava/util/List;" (.ref el) ∧ Fld Z h_ oa "evenkeel/client/Window" "consumedAt" "I" (.int (0 : Int32)) ∧ Fld Z h_ oa "evenkeel/client/Window" "failing" "Ljava/util/TreeMap;" .null ∧ Fld Z h_ oa "evenkeel/client/Window" "committedAhead" "Ljava/util/List;" (.ref el) ∧ Fld Z h_ oa "evenkeel/client/Window" "committedFailures" "Ljava/util/List;" (.ref el) ∧ h0.size ≤ bf ∧ h0.size ≤ wf ∧ Fld Z h_ oa "evenkeel/client/Window" "finished" "Ljava/util/BitSet;" (.ref bf) ∧ Exa Z h_ bf "java/util/BitSet" ∧ Fld Z h_ bf "java/util/BitSet" "wordsInUse" "I" (.int (0 : Int32)) ∧ Fld Z h_ bf "java/util/BitSet" "sizeIsSticky" "Z" (.int (0 : Int32)) ∧ Fld Z h_ bf "java/util/BitSet" "words" "[J" (.ref wf) ∧ Arv Z h_ wf kf .long (1 : Int32) [(.long (0 : Int64))] (.long (0 : Int64)) ∧ h0.size ≤ bl ∧ h0.size ≤ wl ∧ Fld Z h_ oa "evenkeel/client/Window" "left" "Ljava/util/BitSet;" (.ref bl) ∧ Exa Z h_ bl "java/util/BitSet" ∧ Fld Z h_ bl "java/util/BitSet" "wordsInUse" "I" (.int (0 : Int32)) ∧ Fld Z h_ bl "java/util/BitSet" "sizeIsSticky" "Z" (.int (0 : Int32)) ∧ Fld Z h_ bl "java/util/BitSet" "words" "[J" (.ref wl) ∧ Arv Z h_ wl kl .long (1 : Int32) [(.long (0 : Int64))] (.long (0 : Int64)) ∧ bf ≠ bl ∧ bf ≠ wl ∧ wf ≠ bl ∧ wf ≠ wl ∧ bf ≠ wf ∧ bl ≠ wl
set_option maxRecDepth 65536 in
set_option maxHeartbeats 40000000 in
theorem rm12 (l : Launch) (Z : State) (a0 : Array Value) (hw : ∀ d ∈ tables_1, d.before a0 Z = true) (ws : List Jvm.Cond) (oa : Addr) (xs : Int32) (oc : Addr) (u0 : Value) (u1 : Value) (u2 : Value) (u3 : Value) (u4 : Value) (u5 : Value) (u6 : Value) (u7 : Value) (u9 : Value) (u11 : Value) (qn : Int64) (el : Addr) (ea : Addr) (kE : ClassId) (h0 : Heap) (n0 : Nat) (Z0 : n0 ≤ h0.size) (E_ : Exa Z h0 oa "evenkeel/client/Window") (F0 : Fld Z h0 oa "evenkeel/client/Window" "size" "I" u0) (F1 : Fld Z h0 oa "evenkeel/client/Window" "committed" "J" u1) (F2 : Fld Z h0 oa "evenkeel/client/Window" "committedAhead" "Ljava/util/List;" u2) (F3 : Fld Z h0 oa "evenkeel/client/Window" "unfinished" "J" u3) (F4 : Fld Z h0 oa "evenkeel/client/Window" "next" "J" u4) (F5 : Fld Z h0 oa "evenkeel/client/Window" "finished" "Ljava/util/BitSet;" u5) (F6 : Fld Z h0 oa "evenkeel/client/Window" "restart" "J" u6) (F7 : Fld Z h0 oa "evenkeel/client/Window" "consumed" "Ljava/util/List;" u7) (F8 : Fld Z h0 oa "evenkeel/client/Window" "consumedAt" "I" (.int (0 : Int32))) (F9 : Fld Z h0 oa "evenkeel/client/Window" "left" "Ljava/util/BitSet;" u9) (F10 : Fld Z h0 oa "evenkeel/client/Window" "failing" "Ljava/util/TreeMap;" .null) (F11 : Fld Z h0 oa "evenkeel/client/Window" "committedFailures" "Ljava/util/List;" u11) (g_ : n0 ≤ oa) (Ec : Exa Z h0 oc "evenkeel/model/CommittedOffset") (Fn : Fld Z h0 oc "evenkeel/model/CommittedOffset" "next" "J" (.long qn)) (Fh : Fld Z h0 oc "evenkeel/model/CommittedOffset" "ahead" "Ljava/util/List;" (.ref el)) (Ff : Fld Z h0 oc "evenkeel/model/CommittedOffset" "failed" "Ljava/util/List;" (.ref el)) (nao : oa ≠ oc) (O_ : Old Z n0 h0) (P_ : own_P Z el ea kE) :
    MetFree l (⟨"evenkeel/client/Window", "<init>", "(ILevenkeel/model/CommittedOffset;)V"⟩ : MethodName) (head1 (Jvm.Cond.code (⟨"evenkeel/client/Window", "<init>", "(ILevenkeel/model/CommittedOffset;)V"⟩ : MethodName) prog_141_method_1_code 5 none :: ws) ({ frames := 3, cells := 4, slots := 8, locals := 40 } : Room)) (fun a U => a = #[(.ref oa), (.int xs), (.ref oc)] ∧ Z.Warmed39 U.vm ∧ U.heap = h0) (fun _ _ _ _ _ => True) (fun _ U o U' => ∃ v L, o = .returned v ∧ Q12 Z oa xs oc u0 u1 u2 u3 u4 u5 u6 u7 u9 u11 qn el ea kE h0 n0 v U'.heap L ∧ FrameEnd U o U' L ({ frames := 3, cells := 4, slots := 8, locals := 40 } : Room).cells ({ frames := 3, cells := 4, slots := 8, locals := 40 } : Room).slots) := by
  refine MetFree.of_bodySF (plainFor_of_name pn_8) hisR ?_
  intro p e s m args below meth c s₁ Bd hml0 hP hK
  obtain ⟨rfl, hZ, hh⟩ := hP
  have hx := Bd.exec
  have hby := Bd.bytes
  have hml : c.maxLocals = 5 := hml0
  have hown : s.vm.findClass "evenkeel/client/Window" = some m.cls := findClass_of_methodNamed Bd.named
  have hnm := (name_of_methodNamed Bd.named Bd.method).1
  have X0 : Stand p l e ({ frames := 3, cells := 4, slots := 8, locals := 40 } : Room) s m #[(.ref oa), (.int xs), (.ref oc)] below meth c s₁ [] 0 0 := Stand.of_body Bd
  have e0 : s₁.heap = h0 := by rw [← hh, Bd.state]; rfl
  have N0 := Fr.nil n0
  obtain ⟨G, hG, pre0⟩ : ∃ G : State → Prop, (∀ t, G t → Steps p.tables e below (s₁.setTop (entryFrame m #[(.ref oa), (.int xs), (.ref oc)] 5)) t) ∧ ∀ t, own_K p e below m s₁ 0 #[rv oa, iv xs, rv oc, .unset, .unset] [] t → G t := ⟨fun t => Steps p.tables e below (s₁.setTop (entryFrame m #[(.ref oa), (.int xs), (.ref oc)] 5)) t, fun _ k => k, fun t k => castTop (ef_12 m oa xs oc) k⟩
  obtain ⟨T1, X1, e1, st1⟩ := initO X0 hx hZ hown (hw _ (List.mem_of_getElem? (i := 99) rfl)) (hw _ (List.mem_of_getElem? (i := 25) rfl)) (hw _ (List.mem_of_getElem? (i := 26) rfl)) e0 (g := (mkF m 1 #[rv oa, iv xs, rv oc, .unset, .unset] [(.ref oa)])) rfl (by rw [hml]; rfl) rfl (hb hby d12_1) (by decide) (W := 0) (by show 2 * 0 + _ ≤ _; exact Nat.le_of_eq rfl) (by decide)
  obtain ⟨_, _, ⟨T2, L2, k2, n2⟩, -, X2, ⟨Lc2, hQ2, l2, y2, z2⟩, st2⟩ := Jvm.LawKit.callS X1 hx (y := (⟨"java/util/List", "of", "()Ljava/util/List;"⟩ : MethodName)) hown (mvT hZ (hw _ (List.mem_of_getElem? (i := 100) rfl))) (mvT hZ (hw _ (List.mem_of_getElem? (i := 11) rfl))) (mvT hZ (hw _ (List.mem_of_getElem? (i := 12) rfl))) (mvT hZ (hw _ (List.mem_of_getElem? (i := 13) rfl))) (by decide) (backOf (W := 1) (rm2 l Z a0 hw [] el ea kE h0 n0 Z0 O_ P_) hZ (hw _ (List.mem_of_getElem? (i := 13) rfl)) (hw _ (List.mem_of_getElem? (i := 12) rfl)) (by decide) (by decide)) (g := (mkF m 5 #[rv oa, iv xs, rv oc, .unset, .unset] [(.ref oa)])) rfl (by rw [hml]; rfl) (argsL := []) (rest := [(.ref oa)]) (lenOf pd_6 rfl) rfl (by show 2 * 0 + _ ≤ _; exact Nat.le_of_eq rfl) (hb hby d12_5) (fun _ _ => ⟨rfl, e1, (by decide : 0 + 0 ≤ _), (by decide : 0 + 0 ≤ _)⟩)
  dsimp only [Pt.U, Pt.locs, Pt.cells, Pt.slots] at X2 l2 y2 z2 st2 hQ2
  subst l2 y2 z2
  obtain ⟨rfl, Nq2, eh2⟩ := hQ2
  have N2 := Fr.app N0 Nq2
  obtain ⟨T3, h3, X3, e3, W3, st3⟩ := putF X2 hx hZ hown (host := "") (Or.inl (hw _ (List.mem_of_getElem? (i := 101) rfl))) Via.refl eh2 F2 E_ (Or.inl (hw _ (List.mem_of_getElem? (i := 102) rfl))) (hw _ (List.mem_of_getElem? (i := 2) rfl)) (ty := (.object "java/util/List")) (by decide) rfl rfl (g := (mkF m 8 #[rv oa, iv xs, rv oc, .unset, .unset] [(.ref el), (.ref oa)])) rfl rfl (hb hby d12_8)
  have f3w := F2.same W3
  have K3 : Keep h0 h3 [oa] := (Keep.refl h0 [oa]).wr W3 (Or.inl (List.mem_of_getElem? (i := 0) rfl))
  have N3 := Fr.snoc X3 N2 g_
  have sz3 : n0 ≤ h3.size := Nat.le_trans Z0 (Keep.of_wr W3).1
  obtain ⟨T4, h4, X4, e4, E4, A4, D4, -, st4⟩ := newO X3 hx hZ hown (hw _ (List.mem_of_getElem? (i := 103) rfl)) (hw _ (List.mem_of_getElem? (i := 104) rfl)) (hw _ (List.mem_of_getElem? (i := 105) rfl)) e3 (g := (mkF m 12 #[rv oa, iv xs, rv oc, .unset, .unset] [(.ref oa)])) rfl (hb hby d12_12) (by decide) (by decide)
  obtain ⟨b4, g4⟩ : ∃ z, z = h3.size := ⟨_, rfl⟩
  rw [← g4] at A4 D4 st4
  have f5 : Exa Z h3 oa "evenkeel/client/Window" := (E_.wr W3)
  have ne4_oa : oa ≠ b4 := Nat.ne_of_lt (Nat.lt_of_lt_of_le f5.lt (Nat.le_of_eq g4.symm))
  have f6 : Exa Z h3 oc "evenkeel/model/CommittedOffset" := (Ec.wr W3)
  have ne4_oc : oc ≠ b4 := Nat.ne_of_lt (Nat.lt_of_lt_of_le f6.lt (Nat.le_of_eq g4.symm))
  have ge_b4 : n0 ≤ b4 := Nat.le_trans sz3 (Nat.le_of_eq g4.symm)
  have sz_b4 : h0.size ≤ b4 := Nat.le_trans K3.1 (Nat.le_of_eq g4.symm)
  have K4 : Keep h0 h4 [oa] := K3.ext E4
  have sz4 : n0 ≤ h4.size := Nat.le_trans sz3 E4.1
  have f7 : Fld Z h4 b4 "java/util/BitSet" "wordsInUse" "I" (.int (0 : Int32)) := D4 (Or.inl (hw _ (List.mem_of_getElem? (i := 111) rfl))) (ty := .int) (by decide)
  have f8 : Fld Z h4 b4 "java/util/BitSet" "sizeIsSticky" "Z" (.int (0 : Int32)) := D4 (Or.inl (hw _ (List.mem_of_getElem? (i := 113) rfl))) (ty := .boolean) (by decide)
  have f9 : Fld Z h4 b4 "java/util/BitSet" "words" "[J" .null := D4 (Or.inl (hw _ (List.mem_of_getElem? (i := 124) rfl))) (ty := (.array .long)) (by decide)
  have f11 : Exa Z h4 oa "evenkeel/client/Window" := (f5.ext E4)
  have f12 : Exa Z h4 oc "evenkeel/model/CommittedOffset" := (f6.ext E4)
  obtain ⟨_, _, ⟨T10, L10, k10, n10⟩, -, X10, ⟨Lc10, hQ10, l10, y10, z10⟩, st10⟩ := X4.specialBack hx (y := (⟨"java/util/BitSet", "<init>", "()V"⟩ : MethodName)) rfl hown (mvT hZ (hw _ (List.mem_of_getElem? (i := 106) rfl))) (mvT hZ (hw _ (List.mem_of_getElem? (i := 107) rfl))) (mvT hZ (hw _ (List.mem_of_getElem? (i := 108) rfl))) (by decide) (backOf (W := 2) (rm13 l Z a0 hw [] b4 (.int (0 : Int32)) (.int (0 : Int32)) .null h4 n0 sz4 A4 f7 f8 f9 ge_b4) hZ (hw _ (List.mem_of_getElem? (i := 108) rfl)) (hw _ (List.mem_of_getElem? (i := 105) rfl)) (by decide) (by decide)) (g := (mkF m 16 #[rv oa, iv xs, rv oc, .unset, .unset] [(.ref b4), (.ref b4), (.ref oa)])) rfl (by rw [hml]; rfl) (Steps.refl _) (a := b4) (argsL := []) (rest := [(.ref b4), (.ref oa)]) (lenOf pd_3 rfl) rfl (by show 2 * 0 + _ ≤ _; exact Nat.le_of_eq rfl) (hb hby d12_16) (fun _ _ => ⟨rfl, e4, (by decide : 1 + 1 ≤ _), (by decide : 3 + 1 ≤ _)⟩)
  dsimp only [Pt.U, Pt.locs, Pt.cells, Pt.slots] at X10 l10 y10 z10 st10 hQ10
  subst l10 y10 z10
  obtain ⟨ow10, kw10, rfl, Nq10, Kc10, gt_10, Fw_10, Vw_10, Fu_10, Fy_10⟩ := hQ10
  have N10 := Fr.app N3 Nq10
  have K10 : Keep h0 T10.heap [oa] := K4.trans Kc10 (allS (Or.inr sz_b4) all0)
  have sz10 : n0 ≤ T10.heap.size := Nat.le_trans sz4 Kc10.1
  have ge_ow10 : n0 ≤ ow10 := Nat.le_trans sz4 gt_10
  have sz_ow10 : h0.size ≤ ow10 := Nat.le_trans K4.1 gt_10
  have ne_oa_ow10 : oa ≠ ow10 := Nat.ne_of_lt (Nat.lt_of_lt_of_le f11.lt gt_10)
  have ne_oc_ow10 : oc ≠ ow10 := Nat.ne_of_lt (Nat.lt_of_lt_of_le f12.lt gt_10)
  have ne_b4_ow10 : b4 ≠ ow10 := Nat.ne_of_lt (Nat.lt_of_lt_of_le A4.lt gt_10)
  have f14 : Fld Z T10.heap oa "evenkeel/client/Window" "finished" "Ljava/util/BitSet;" u5 := (((F5.other W3 (Or.inr (slot_ne (Or.inr (hw _ (List.mem_of_getElem? (i := 126) rfl))) (Or.inl (hw _ (List.mem_of_getElem? (i := 102) rfl))) (by decide) (t := (.object "java/util/BitSet")) (t' := (.object "java/util/List")) (by decide) (by decide)))).ext E4).keep Kc10 (ninS ne4_oa nin0))
  have f15 : Exa Z T10.heap oa "evenkeel/client/Window" := (f11.keep Kc10)
  obtain ⟨T13, h13, X13, e13, W13, st13⟩ := putF X10 hx hZ hown (host := "") (Or.inl (hw _ (List.mem_of_getElem? (i := 125) rfl))) Via.refl rfl f14 f15 (Or.inr ⟨(hw _ (List.mem_of_getElem? (i := 126) rfl)), rfl, hnm⟩) (hw _ (List.mem_of_getElem? (i := 2) rfl)) (ty := (.object "java/util/BitSet")) (by decide) rfl rfl (g := (mkF m 19 #[rv oa, iv xs, rv oc, .unset, .unset] [(.ref b4), (.ref oa)])) rfl rfl (hb hby d12_19)
  have f13w := f14.same W13
  have K13 : Keep h0 h13 [oa] := K10.wr W13 (Or.inl (List.mem_of_getElem? (i := 0) rfl))
  have N13 := Fr.snoc X13 N10 g_
  have sz13 : n0 ≤ h13.size := Nat.le_trans sz10 (Keep.of_wr W13).1
  have f17 : Fld Z h13 oa "evenkeel/client/Window" "restart" "J" u6 := ((((F6.other W3 (Or.inr (slot_ne (Or.inl (hw _ (List.mem_of_getElem? (i := 129) rfl))) (Or.inl (hw _ (List.mem_of_getElem? (i := 102) rfl))) (by decide) (t := .long) (t' := (.object "java/util/List")) (by decide) (by decide)))).ext E4).keep Kc10 (ninS ne4_oa nin0)).other W13 (Or.inr (slot_ne (Or.inl (hw _ (List.mem_of_getElem? (i := 129) rfl))) (Or.inr (hw _ (List.mem_of_getElem? (i := 126) rfl))) (by decide) (t := .long) (t' := (.object "java/util/BitSet")) (by decide) (by decide))))
  have f18 : Exa Z h13 oa "evenkeel/client/Window" := (f15.wr W13)
  obtain ⟨T16, h16, X16, e16, W16, st16⟩ := putF X13 hx hZ hown (host := "") (Or.inl (hw _ (List.mem_of_getElem? (i := 128) rfl))) Via.refl e13 f17 f18 (Or.inl (hw _ (List.mem_of_getElem? (i := 129) rfl))) (hw _ (List.mem_of_getElem? (i := 2) rfl)) (ty := .long) (by decide) rfl rfl (g := (mkF m 26 #[rv oa, iv xs, rv oc, .unset, .unset] [(.long (-1 : Int64)), (.ref oa)])) rfl rfl (hb hby d12_26)
  have f16w := f17.same W16
  have K16 : Keep h0 h16 [oa] := K13.wr W16 (Or.inl (List.mem_of_getElem? (i := 0) rfl))
  have N16 := Fr.snoc X16 N13 g_
  have sz16 : n0 ≤ h16.size := Nat.le_trans sz13 (Keep.of_wr W16).1
  obtain ⟨T19, h19, X19, e19, E19, A19, D19, -, st19⟩ := newO X16 hx hZ hown (hw _ (List.mem_of_getElem? (i := 103) rfl)) (hw _ (List.mem_of_getElem? (i := 104) rfl)) (hw _ (List.mem_of_getElem? (i := 105) rfl)) e16 (g := (mkF m 30 #[rv oa, iv xs, rv oc, .unset, .unset] [(.ref oa)])) rfl (hb hby d12_30) (by decide) (by decide)
  obtain ⟨b19, g19⟩ : ∃ z, z = h16.size := ⟨_, rfl⟩
  rw [← g19] at A19 D19 st19
  have f20 : Exa Z h16 oa "evenkeel/client/Window" := (f18.wr W16)
  have ne19_oa : oa ≠ b19 := Nat.ne_of_lt (Nat.lt_of_lt_of_le f20.lt (Nat.le_of_eq g19.symm))
  have f21 : Exa Z h16 oc "evenkeel/model/CommittedOffset" := (((f12.keep Kc10).wr W13).wr W16)
  have ne19_oc : oc ≠ b19 := Nat.ne_of_lt (Nat.lt_of_lt_of_le f21.lt (Nat.le_of_eq g19.symm))
  have f22 : Exa Z h16 b4 "java/util/BitSet" := (((A4.keep Kc10).wr W13).wr W16)
  have ne19_b4 : b4 ≠ b19 := Nat.ne_of_lt (Nat.lt_of_lt_of_le f22.lt (Nat.le_of_eq g19.symm))
  have f23 : Arv Z h16 ow10 kw10 .long (1 : Int32) [(.long (0 : Int64))] (.long (0 : Int64)) := ((Vw_10.other W13 (Ne.symm ne_oa_ow10)).other W16 (Ne.symm ne_oa_ow10))
  have ne19_ow10 : ow10 ≠ b19 := Nat.ne_of_lt (Nat.lt_of_lt_of_le f23.lt (Nat.le_of_eq g19.symm))
  have ge_b19 : n0 ≤ b19 := Nat.le_trans sz16 (Nat.le_of_eq g19.symm)
  have sz_b19 : h0.size ≤ b19 := Nat.le_trans K16.1 (Nat.le_of_eq g19.symm)
  have K19 : Keep h0 h19 [oa] := K16.ext E19
  have sz19 : n0 ≤ h19.size := Nat.le_trans sz16 E19.1
  have f24 : Fld Z h19 b19 "java/util/BitSet" "wordsInUse" "I" (.int (0 : Int32)) := D19 (Or.inl (hw _ (List.mem_of_getElem? (i := 111) rfl))) (ty := .int) (by decide)
  have f25 : Fld Z h19 b19 "java/util/BitSet" "sizeIsSticky" "Z" (.int (0 : Int32)) := D19 (Or.inl (hw _ (List.mem_of_getElem? (i := 113) rfl))) (ty := .boolean) (by decide)
  have f26 : Fld Z h19 b19 "java/util/BitSet" "words" "[J" .null := D19 (Or.inl (hw _ (List.mem_of_getElem? (i := 124) rfl))) (ty := (.array .long)) (by decide)
  have f28 : Exa Z h19 oa "evenkeel/client/Window" := (f20.ext E19)
  have f29 : Exa Z h19 oc "evenkeel/model/CommittedOffset" := (f21.ext E19)
  have f30 : Exa Z h19 b4 "java/util/BitSet" := (f22.ext E19)
  have f31 : Arv Z h19 ow10 kw10 .long (1 : Int32) [(.long (0 : Int64))] (.long (0 : Int64)) := (f23.ext E19)
  obtain ⟨_, _, ⟨T27, L27, k27, n27⟩, -, X27, ⟨Lc27, hQ27, l27, y27, z27⟩, st27⟩ := X19.specialBack hx (y := (⟨"java/util/BitSet", "<init>", "()V"⟩ : MethodName)) rfl hown (mvT hZ (hw _ (List.mem_of_getElem? (i := 106) rfl))) (mvT hZ (hw _ (List.mem_of_getElem? (i := 107) rfl))) (mvT hZ (hw _ (List.mem_of_getElem? (i := 108) rfl))) (by decide) (backOf (W := 2) (rm13 l Z a0 hw [] b19 (.int (0 : Int32)) (.int (0 : Int32)) .null h19 n0 sz19 A19 f24 f25 f26 ge_b19) hZ (hw _ (List.mem_of_getElem? (i := 108) rfl)) (hw _ (List.mem_of_getElem? (i := 105) rfl)) (by decide) (by decide)) (g := (mkF m 34 #[rv oa, iv xs, rv oc, .unset, .unset] [(.ref b19), (.ref b19), (.ref oa)])) rfl (by rw [hml]; rfl) (Steps.refl _) (a := b19) (argsL := []) (rest := [(.ref b19), (.ref oa)]) (lenOf pd_3 rfl) rfl (by show 2 * 0 + _ ≤ _; exact Nat.le_of_eq rfl) (hb hby d12_34) (fun _ _ => ⟨rfl, e19, (by decide : 3 + 1 ≤ _), (by decide : 7 + 1 ≤ _)⟩)
  dsimp only [Pt.U, Pt.locs, Pt.cells, Pt.slots] at X27 l27 y27 z27 st27 hQ27
  subst l27 y27 z27
  obtain ⟨ow27, kw27, rfl, Nq27, Kc27, gt_27, Fw_27, Vw_27, Fu_27, Fy_27⟩ := hQ27
  have N27 := Fr.app N16 Nq27
  have K27 : Keep h0 T27.heap [oa] := K19.trans Kc27 (allS (Or.inr sz_b19) all0)
  have sz27 : n0 ≤ T27.heap.size := Nat.le_trans sz19 Kc27.1
  have ge_ow27 : n0 ≤ ow27 := Nat.le_trans sz19 gt_27
  have sz_ow27 : h0.size ≤ ow27 := Nat.le_trans K19.1 gt_27
  have ne_oa_ow27 : oa ≠ ow27 := Nat.ne_of_lt (Nat.lt_of_lt_of_le f28.lt gt_27)
  have ne_oc_ow27 : oc ≠ ow27 := Nat.ne_of_lt (Nat.lt_of_lt_of_le f29.lt gt_27)
  have ne_b4_ow27 : b4 ≠ ow27 := Nat.ne_of_lt (Nat.lt_of_lt_of_le f30.lt gt_27)
  have ne_ow10_ow27 : ow10 ≠ ow27 := Nat.ne_of_lt (Nat.lt_of_lt_of_le f31.lt gt_27)
  have ne_b19_ow27 : b19 ≠ ow27 := Nat.ne_of_lt (Nat.lt_of_lt_of_le A19.lt gt_27)
  have f33 : Fld Z T27.heap oa "evenkeel/client/Window" "left" "Ljava/util/BitSet;" u9 := (((((((F9.other W3 (Or.inr (slot_ne (Or.inr (hw _ (List.mem_of_getElem? (i := 131) rfl))) (Or.inl (hw _ (List.mem_of_getElem? (i := 102) rfl))) (by decide) (t := (.object "java/util/BitSet")) (t' := (.object "java/util/List")) (by decide) (by decide)))).ext E4).keep Kc10 (ninS ne4_oa nin0)).other W13 (Or.inr (slot_ne (Or.inr (hw _ (List.mem_of_getElem? (i := 131) rfl))) (Or.inr (hw _ (List.mem_of_getElem? (i := 126) rfl))) (by decide) (t := (.object "java/util/BitSet")) (t' := (.object "java/util/BitSet")) (by decide) (by decide)))).other W16 (Or.inr (slot_ne (Or.inr (hw _ (List.mem_of_getElem? (i := 131) rfl))) (Or.inl (hw _ (List.mem_of_getElem? (i := 129) rfl))) (by decide) (t := (.object "java/util/BitSet")) (t' := .long) (by decide) (by decide)))).ext E19).keep Kc27 (ninS ne19_oa nin0))
  have f34 : Exa Z T27.heap oa "evenkeel/client/Window" := (f28.keep Kc27)
  obtain ⟨T32, h32, X32, e32, W32, st32⟩ := putF X27 hx hZ hown (host := "") (Or.inl (hw _ (List.mem_of_getElem? (i := 130) rfl))) Via.refl rfl f33 f34 (Or.inr ⟨(hw _ (List.mem_of_getElem? (i := 131) rfl)), rfl, hnm⟩) (hw _ (List.mem_of_getElem? (i := 2) rfl)) (ty := (.object "java/util/BitSet")) (by decide) rfl rfl (g := (mkF m 37 #[rv oa, iv xs, rv oc, .unset, .unset] [(.ref b19), (.ref oa)])) rfl rfl (hb hby d12_37)
  have f32w := f33.same W32
  have K32 : Keep h0 h32 [oa] := K27.wr W32 (Or.inl (List.mem_of_getElem? (i := 0) rfl))
  have N32 := Fr.snoc X32 N27 g_
  have sz32 : n0 ≤ h32.size := Nat.le_trans sz27 (Keep.of_wr W32).1
  have f36 : Fld Z h32 oa "evenkeel/client/Window" "size" "I" u0 := ((((((((F0.other W3 (Or.inr (slot_ne (Or.inr (hw _ (List.mem_of_getElem? (i := 133) rfl))) (Or.inl (hw _ (List.mem_of_getElem? (i := 102) rfl))) (by decide) (t := .int) (t' := (.object "java/util/List")) (by decide) (by decide)))).ext E4).keep Kc10 (ninS ne4_oa nin0)).other W13 (Or.inr (slot_ne (Or.inr (hw _ (List.mem_of_getElem? (i := 133) rfl))) (Or.inr (hw _ (List.mem_of_getElem? (i := 126) rfl))) (by decide) (t := .int) (t' := (.object "java/util/BitSet")) (by decide) (by decide)))).other W16 (Or.inr (slot_ne (Or.inr (hw _ (List.mem_of_getElem? (i := 133) rfl))) (Or.inl (hw _ (List.mem_of_getElem? (i := 129) rfl))) (by decide) (t := .int) (t' := .long) (by decide) (by decide)))).ext E19).keep Kc27 (ninS ne19_oa nin0)).other W32 (Or.inr (slot_ne (Or.inr (hw _ (List.mem_of_getElem? (i := 133) rfl))) (Or.inr (hw _ (List.mem_of_getElem? (i := 131) rfl))) (by decide) (t := .int) (t' := (.object "java/util/BitSet")) (by decide) (by decide))))
  have f37 : Exa Z h32 oa "evenkeel/client/Window" := (f34.wr W32)
  obtain ⟨T35, h35, X35, e35, W35, st35⟩ := putF X32 hx hZ hown (host := "") (Or.inl (hw _ (List.mem_of_getElem? (i := 132) rfl))) Via.refl e32 f36 f37 (Or.inr ⟨(hw _ (List.mem_of_getElem? (i := 133) rfl)), rfl, hnm⟩) (hw _ (List.mem_of_getElem? (i := 2) rfl)) (ty := .int) (by decide) rfl rfl (g := (mkF m 42 #[rv oa, iv xs, rv oc, .unset, .unset] [(.int xs), (.ref oa)])) rfl rfl (hb hby d12_42)
  have f35w := f36.same W35
  have K35 : Keep h0 h35 [oa] := K32.wr W35 (Or.inl (List.mem_of_getElem? (i := 0) rfl))
  have N35 := Fr.snoc X35 N32 g_
  have sz35 : n0 ≤ h35.size := Nat.le_trans sz32 (Keep.of_wr W35).1
  have f39 : Fld Z h35 oc "evenkeel/model/CommittedOffset" "next" "J" (.long qn) := (((((((((Fn.other W3 (Or.inl (Ne.symm nao))).ext E4).keep Kc10 (ninS ne4_oc nin0)).other W13 (Or.inl (Ne.symm nao))).other W16 (Or.inl (Ne.symm nao))).ext E19).keep Kc27 (ninS ne19_oc nin0)).other W32 (Or.inl (Ne.symm nao))).other W35 (Or.inl (Ne.symm nao)))
  have f40 : Exa Z h35 oc "evenkeel/model/CommittedOffset" := (((f29.keep Kc27).wr W32).wr W35)
  obtain ⟨cq38, kq38, q38a, q38b, q38c⟩ := isOf hZ e35 f40
  obtain ⟨_, _, ⟨T38, L38, k38, n38⟩, -, X38, ⟨Lc38, hQ38, l38, y38, z38⟩, st38⟩ := X35.virtualBack hx (y := (⟨"evenkeel/model/CommittedOffset", "next", "()J"⟩ : MethodName)) (z := (⟨"evenkeel/model/CommittedOffset", "next", "()J"⟩ : MethodName)) hown (mvT hZ (hw _ (List.mem_of_getElem? (i := 134) rfl))) (mvT hZ (hw _ (List.mem_of_getElem? (i := 135) rfl))) (notFace_of_selects (args := #[]) (mvT hZ (hw _ (List.mem_of_getElem? (i := 137) rfl)))) (mvT hZ (hw _ (List.mem_of_getElem? (i := 137) rfl))) (mvT hZ (hw _ (List.mem_of_getElem? (i := 136) rfl))) (by decide) (backOf (W := 1) (rm16 l Z a0 hw [] oc qn h35 n0 sz35 f39) hZ (hw _ (List.mem_of_getElem? (i := 138) rfl)) (hw _ (List.mem_of_getElem? (i := 6) rfl)) (by decide) (by decide)) q38a q38c (g := (mkF m 47 #[rv oa, iv xs, rv oc, .unset, .unset] [(.ref oc), (.ref oa)])) rfl (by rw [hml]; rfl) (Steps.refl _) (argsL := []) (rest := [(.ref oa)]) (lenOf pd_10 rfl) rfl (by show 2 * 0 + _ ≤ _; exact Nat.le_of_eq rfl) (hb hby d12_47) (fun _ _ => ⟨rfl, e35, (by decide : 4 + 0 ≤ _), (by decide : 8 + 0 ≤ _)⟩)
  dsimp only [Pt.U, Pt.locs, Pt.cells, Pt.slots] at X38 l38 y38 z38 st38 hQ38
  subst l38 y38 z38
  obtain ⟨rfl, Nq38, eh38⟩ := hQ38
  have N38 := Fr.app N35 Nq38
  have f42 : Fld Z h35 oa "evenkeel/client/Window" "committed" "J" u1 := (((((((((F1.other W3 (Or.inr (slot_ne (Or.inl (hw _ (List.mem_of_getElem? (i := 140) rfl))) (Or.inl (hw _ (List.mem_of_getElem? (i := 102) rfl))) (by decide) (t := .long) (t' := (.object "java/util/List")) (by decide) (by decide)))).ext E4).keep Kc10 (ninS ne4_oa nin0)).other W13 (Or.inr (slot_ne (Or.inl (hw _ (List.mem_of_getElem? (i := 140) rfl))) (Or.inr (hw _ (List.mem_of_getElem? (i := 126) rfl))) (by decide) (t := .long) (t' := (.object "java/util/BitSet")) (by decide) (by decide)))).other W16 (Or.inr (slot_ne (Or.inl (hw _ (List.mem_of_getElem? (i := 140) rfl))) (Or.inl (hw _ (List.mem_of_getElem? (i := 129) rfl))) (by decide) (t := .long) (t' := .long) (by decide) (by decide)))).ext E19).keep Kc27 (ninS ne19_oa nin0)).other W32 (Or.inr (slot_ne (Or.inl (hw _ (List.mem_of_getElem? (i := 140) rfl))) (Or.inr (hw _ (List.mem_of_getElem? (i := 131) rfl))) (by decide) (t := .long) (t' := (.object "java/util/BitSet")) (by decide) (by decide)))).other W35 (Or.inr (slot_ne (Or.inl (hw _ (List.mem_of_getElem? (i := 140) rfl))) (Or.inr (hw _ (List.mem_of_getElem? (i := 133) rfl))) (by decide) (t := .long) (t' := .int) (by decide) (by decide))))
  have f43 : Exa Z h35 oa "evenkeel/client/Window" := (f37.wr W35)
  obtain ⟨T41, h41, X41, e41, W41, st41⟩ := putF X38 hx hZ hown (host := "") (Or.inl (hw _ (List.mem_of_getElem? (i := 139) rfl))) Via.refl eh38 f42 f43 (Or.inl (hw _ (List.mem_of_getElem? (i := 140) rfl))) (hw _ (List.mem_of_getElem? (i := 2) rfl)) (ty := .long) (by decide) rfl rfl (g := (mkF m 50 #[rv oa, iv xs, rv oc, .unset, .unset] [(.long qn), (.ref oa)])) rfl rfl (hb hby d12_50)
  have f41w := f42.same W41
  have K41 : Keep h0 h41 [oa] := K35.wr W41 (Or.inl (List.mem_of_getElem? (i := 0) rfl))
  have N41 := Fr.snoc X41 N38 g_
  have sz41 : n0 ≤ h41.size := Nat.le_trans sz35 (Keep.of_wr W41).1
  obtain ⟨T44, X44, e44, st44⟩ := getF X41 hx hZ hown (host := "") (Or.inl (hw _ (List.mem_of_getElem? (i := 139) rfl))) Via.refl e41 f41w (g := (mkF m 55 #[rv oa, iv xs, rv oc, .unset, .unset] [(.ref oa), (.ref oa)])) rfl rfl (hb hby d12_55)
  have f46 : Fld Z h41 oa "evenkeel/client/Window" "unfinished" "J" u3 := ((((((((((F3.other W3 (Or.inr (slot_ne (Or.inl (hw _ (List.mem_of_getElem? (i := 142) rfl))) (Or.inl (hw _ (List.mem_of_getElem? (i := 102) rfl))) (by decide) (t := .long) (t' := (.object "java/util/List")) (by decide) (by decide)))).ext E4).keep Kc10 (ninS ne4_oa nin0)).other W13 (Or.inr (slot_ne (Or.inl (hw _ (List.mem_of_getElem? (i := 142) rfl))) (Or.inr (hw _ (List.mem_of_getElem? (i := 126) rfl))) (by decide) (t := .long) (t' := (.object "java/util/BitSet")) (by decide) (by decide)))).other W16 (Or.inr (slot_ne (Or.inl (hw _ (List.mem_of_getElem? (i := 142) rfl))) (Or.inl (hw _ (List.mem_of_getElem? (i := 129) rfl))) (by decide) (t := .long) (t' := .long) (by decide) (by decide)))).ext E19).keep Kc27 (ninS ne19_oa nin0)).other W32 (Or.inr (slot_ne (Or.inl (hw _ (List.mem_of_getElem? (i := 142) rfl))) (Or.inr (hw _ (List.mem_of_getElem? (i := 131) rfl))) (by decide) (t := .long) (t' := (.object "java/util/BitSet")) (by decide) (by decide)))).other W35 (Or.inr (slot_ne (Or.inl (hw _ (List.mem_of_getElem? (i := 142) rfl))) (Or.inr (hw _ (List.mem_of_getElem? (i := 133) rfl))) (by decide) (t := .long) (t' := .int) (by decide) (by decide)))).other W41 (Or.inr (slot_ne (Or.inl (hw _ (List.mem_of_getElem? (i := 142) rfl))) (Or.inl (hw _ (List.mem_of_getElem? (i := 140) rfl))) (by decide) (t := .long) (t' := .long) (by decide) (by decide))))
  have f47 : Exa Z h41 oa "evenkeel/client/Window" := (f43.wr W41)
  obtain ⟨T45, h45, X45, e45, W45, st45⟩ := putF X44 hx hZ hown (host := "") (Or.inl (hw _ (List.mem_of_getElem? (i := 141) rfl))) Via.refl e44 f46 f47 (Or.inl (hw _ (List.mem_of_getElem? (i := 142) rfl))) (hw _ (List.mem_of_getElem? (i := 2) rfl)) (ty := .long) (by decide) rfl rfl (g := (mkF m 58 #[rv oa, iv xs, rv oc, .unset, .unset] [(.long qn), (.ref oa)])) rfl rfl (hb hby d12_58)
  have f45w := f46.same W45
  have K45 : Keep h0 h45 [oa] := K41.wr W45 (Or.inl (List.mem_of_getElem? (i := 0) rfl))
  have N45 := Fr.snoc X45 N41 g_
  have sz45 : n0 ≤ h45.size := Nat.le_trans sz41 (Keep.of_wr W45).1
  have f49 : Fld Z h45 oa "evenkeel/client/Window" "committed" "J" (.long qn) := (f41w.other W45 (Or.inr (slot_ne (Or.inl (hw _ (List.mem_of_getElem? (i := 140) rfl))) (Or.inl (hw _ (List.mem_of_getElem? (i := 142) rfl))) (by decide) (t := .long) (t' := .long) (by decide) (by decide))))
  obtain ⟨T48, X48, e48, st48⟩ := getF X45 hx hZ hown (host := "") (Or.inl (hw _ (List.mem_of_getElem? (i := 139) rfl))) Via.refl e45 f49 (g := (mkF m 63 #[rv oa, iv xs, rv oc, .unset, .unset] [(.ref oa), (.ref oa)])) rfl rfl (hb hby d12_63)
  have f51 : Fld Z h45 oa "evenkeel/client/Window" "next" "J" u4 := (((((((((((F4.other W3 (Or.inr (slot_ne (Or.inl (hw _ (List.mem_of_getElem? (i := 144) rfl))) (Or.inl (hw _ (List.mem_of_getElem? (i := 102) rfl))) (by decide) (t := .long) (t' := (.object "java/util/List")) (by decide) (by decide)))).ext E4).keep Kc10 (ninS ne4_oa nin0)).other W13 (Or.inr (slot_ne (Or.inl (hw _ (List.mem_of_getElem? (i := 144) rfl))) (Or.inr (hw _ (List.mem_of_getElem? (i := 126) rfl))) (by decide) (t := .long) (t' := (.object "java/util/BitSet")) (by decide) (by decide)))).other W16 (Or.inr (slot_ne (Or.inl (hw _ (List.mem_of_getElem? (i := 144) rfl))) (Or.inl (hw _ (List.mem_of_getElem? (i := 129) rfl))) (by decide) (t := .long) (t' := .long) (by decide) (by decide)))).ext E19).keep Kc27 (ninS ne19_oa nin0)).other W32 (Or.inr (slot_ne (Or.inl (hw _ (List.mem_of_getElem? (i := 144) rfl))) (Or.inr (hw _ (List.mem_of_getElem? (i := 131) rfl))) (by decide) (t := .long) (t' := (.object "java/util/BitSet")) (by decide) (by decide)))).other W35 (Or.inr (slot_ne (Or.inl (hw _ (List.mem_of_getElem? (i := 144) rfl))) (Or.inr (hw _ (List.mem_of_getElem? (i := 133) rfl))) (by decide) (t := .long) (t' := .int) (by decide) (by decide)))).other W41 (Or.inr (slot_ne (Or.inl (hw _ (List.mem_of_getElem? (i := 144) rfl))) (Or.inl (hw _ (List.mem_of_getElem? (i := 140) rfl))) (by decide) (t := .long) (t' := .long) (by decide) (by decide)))).other W45 (Or.inr (slot_ne (Or.inl (hw _ (List.mem_of_getElem? (i := 144) rfl))) (Or.inl (hw _ (List.mem_of_getElem? (i := 142) rfl))) (by decide) (t := .long) (t' := .long) (by decide) (by decide))))
  have f52 : Exa Z h45 oa "evenkeel/client/Window" := (f47.wr W45)
  obtain ⟨T50, h50, X50, e50, W50, st50⟩ := putF X48 hx hZ hown (host := "") (Or.inl (hw _ (List.mem_of_getElem? (i := 143) rfl))) Via.refl e48 f51 f52 (Or.inl (hw _ (List.mem_of_getElem? (i := 144) rfl))) (hw _ (List.mem_of_getElem? (i := 2) rfl)) (ty := .long) (by decide) rfl rfl (g := (mkF m 66 #[rv oa, iv xs, rv oc, .unset, .unset] [(.long qn), (.ref oa)])) rfl rfl (hb hby d12_66)
  have f50w := f51.same W50
  have K50 : Keep h0 h50 [oa] := K45.wr W50 (Or.inl (List.mem_of_getElem? (i := 0) rfl))
  have N50 := Fr.snoc X50 N45 g_
  have sz50 : n0 ≤ h50.size := Nat.le_trans sz45 (Keep.of_wr W50).1
  have f54 : Fld Z h50 oc "evenkeel/model/CommittedOffset" "ahead" "Ljava/util/List;" (.ref el) := ((((((((((((Fh.other W3 (Or.inl (Ne.symm nao))).ext E4).keep Kc10 (ninS ne4_oc nin0)).other W13 (Or.inl (Ne.symm nao))).other W16 (Or.inl (Ne.symm nao))).ext E19).keep Kc27 (ninS ne19_oc nin0)).other W32 (Or.inl (Ne.symm nao))).other W35 (Or.inl (Ne.symm nao))).other W41 (Or.inl (Ne.symm nao))).other W45 (Or.inl (Ne.symm nao))).other W50 (Or.inl (Ne.symm nao)))
  have f55 : Exa Z h50 oc "evenkeel/model/CommittedOffset" := (((f40.wr W41).wr W45).wr W50)
  obtain ⟨cq53, kq53, q53a, q53b, q53c⟩ := isOf hZ e50 f55
  obtain ⟨_, _, ⟨T53, L53, k53, n53⟩, -, X53, ⟨Lc53, hQ53, l53, y53, z53⟩, st53⟩ := X50.virtualBack hx (y := (⟨"evenkeel/model/CommittedOffset", "ahead", "()Ljava/util/List;"⟩ : MethodName)) (z := (⟨"evenkeel/model/CommittedOffset", "ahead", "()Ljava/util/List;"⟩ : MethodName)) hown (mvT hZ (hw _ (List.mem_of_getElem? (i := 145) rfl))) (mvT hZ (hw _ (List.mem_of_getElem? (i := 146) rfl))) (notFace_of_selects (args := #[]) (mvT hZ (hw _ (List.mem_of_getElem? (i := 148) rfl)))) (mvT hZ (hw _ (List.mem_of_getElem? (i := 148) rfl))) (mvT hZ (hw _ (List.mem_of_getElem? (i := 147) rfl))) (by decide) (backOf (W := 1) (rm17 l Z a0 hw [] oc el h50 n0 sz50 f54) hZ (hw _ (List.mem_of_getElem? (i := 149) rfl)) (hw _ (List.mem_of_getElem? (i := 6) rfl)) (by decide) (by decide)) q53a q53c (g := (mkF m 71 #[rv oa, iv xs, rv oc, .unset, .unset] [(.ref oc), (.ref oa)])) rfl (by rw [hml]; rfl) (Steps.refl _) (argsL := []) (rest := [(.ref oa)]) (lenOf pd_6 rfl) rfl (by show 2 * 0 + _ ≤ _; exact Nat.le_of_eq rfl) (hb hby d12_71) (fun _ _ => ⟨rfl, e50, (by decide : 4 + 0 ≤ _), (by decide : 8 + 0 ≤ _)⟩)
  dsimp only [Pt.U, Pt.locs, Pt.cells, Pt.slots] at X53 l53 y53 z53 st53 hQ53
  subst l53 y53 z53
  obtain ⟨rfl, Nq53, eh53⟩ := hQ53
  have N53 := Fr.app N50 Nq53
  have f57 : Fld Z h50 oa "evenkeel/client/Window" "consumed" "Ljava/util/List;" u7 := ((((((((((((F7.other W3 (Or.inr (slot_ne (Or.inr (hw _ (List.mem_of_getElem? (i := 151) rfl))) (Or.inl (hw _ (List.mem_of_getElem? (i := 102) rfl))) (by decide) (t := (.object "java/util/List")) (t' := (.object "java/util/List")) (by decide) (by decide)))).ext E4).keep Kc10 (ninS ne4_oa nin0)).other W13 (Or.inr (slot_ne (Or.inr (hw _ (List.mem_of_getElem? (i := 151) rfl))) (Or.inr (hw _ (List.mem_of_getElem? (i := 126) rfl))) (by decide) (t := (.object "java/util/List")) (t' := (.object "java/util/BitSet")) (by decide) (by decide)))).other W16 (Or.inr (slot_ne (Or.inr (hw _ (List.mem_of_getElem? (i := 151) rfl))) (Or.inl (hw _ (List.mem_of_getElem? (i := 129) rfl))) (by decide) (t := (.object "java/util/List")) (t' := .long) (by decide) (by decide)))).ext E19).keep Kc27 (ninS ne19_oa nin0)).other W32 (Or.inr (slot_ne (Or.inr (hw _ (List.mem_of_getElem? (i := 151) rfl))) (Or.inr (hw _ (List.mem_of_getElem? (i := 131) rfl))) (by decide) (t := (.object "java/util/List")) (t' := (.object "java/util/BitSet")) (by decide) (by decide)))).other W35 (Or.inr (slot_ne (Or.inr (hw _ (List.mem_of_getElem? (i := 151) rfl))) (Or.inr (hw _ (List.mem_of_getElem? (i := 133) rfl))) (by decide) (t := (.object "java/util/List")) (t' := .int) (by decide) (by decide)))).other W41 (Or.inr (slot_ne (Or.inr (hw _ (List.mem_of_getElem? (i := 151) rfl))) (Or.inl (hw _ (List.mem_of_getElem? (i := 140) rfl))) (by decide) (t := (.object "java/util/List")) (t' := .long) (by decide) (by decide)))).other W45 (Or.inr (slot_ne (Or.inr (hw _ (List.mem_of_getElem? (i := 151) rfl))) (Or.inl (hw _ (List.mem_of_getElem? (i := 142) rfl))) (by decide) (t := (.object "java/util/List")) (t' := .long) (by decide) (by decide)))).other W50 (Or.inr (slot_ne (Or.inr (hw _ (List.mem_of_getElem? (i := 151) rfl))) (Or.inl (hw _ (List.mem_of_getElem? (i := 144) rfl))) (by decide) (t := (.object "java/util/List")) (t' := .long) (by decide) (by decide))))
  have f58 : Exa Z h50 oa "evenkeel/client/Window" := (f52.wr W50)
  obtain ⟨T56, h56, X56, e56, W56, st56⟩ := putF X53 hx hZ hown (host := "") (Or.inl (hw _ (List.mem_of_getElem? (i := 150) rfl))) Via.refl eh53 f57 f58 (Or.inr ⟨(hw _ (List.mem_of_getElem? (i := 151) rfl)), rfl, hnm⟩) (hw _ (List.mem_of_getElem? (i := 2) rfl)) (ty := (.object "java/util/List")) (by decide) rfl rfl (g := (mkF m 74 #[rv oa, iv xs, rv oc, .unset, .unset] [(.ref el), (.ref oa)])) rfl rfl (hb hby d12_74)
  have f56w := f57.same W56
  have K56 : Keep h0 h56 [oa] := K50.wr W56 (Or.inl (List.mem_of_getElem? (i := 0) rfl))
  have N56 := Fr.snoc X56 N53 g_
  have sz56 : n0 ≤ h56.size := Nat.le_trans sz50 (Keep.of_wr W56).1
  have f60 : Fld Z h56 oc "evenkeel/model/CommittedOffset" "failed" "Ljava/util/List;" (.ref el) := (((((((((((((Ff.other W3 (Or.inl (Ne.symm nao))).ext E4).keep Kc10 (ninS ne4_oc nin0)).other W13 (Or.inl (Ne.symm nao))).other W16 (Or.inl (Ne.symm nao))).ext E19).keep Kc27 (ninS ne19_oc nin0)).other W32 (Or.inl (Ne.symm nao))).other W35 (Or.inl (Ne.symm nao))).other W41 (Or.inl (Ne.symm nao))).other W45 (Or.inl (Ne.symm nao))).other W50 (Or.inl (Ne.symm nao))).other W56 (Or.inl (Ne.symm nao)))
  have f61 : Exa Z h56 oc "evenkeel/model/CommittedOffset" := (f55.wr W56)
  obtain ⟨cq59, kq59, q59a, q59b, q59c⟩ := isOf hZ e56 f61
  obtain ⟨_, _, ⟨T59, L59, k59, n59⟩, -, X59, ⟨Lc59, hQ59, l59, y59, z59⟩, st59⟩ := X56.virtualBack hx (y := (⟨"evenkeel/model/CommittedOffset", "failed", "()Ljava/util/List;"⟩ : MethodName)) (z := (⟨"evenkeel/model/CommittedOffset", "failed", "()Ljava/util/List;"⟩ : MethodName)) hown (mvT hZ (hw _ (List.mem_of_getElem? (i := 152) rfl))) (mvT hZ (hw _ (List.mem_of_getElem? (i := 153) rfl))) (notFace_of_selects (args := #[]) (mvT hZ (hw _ (List.mem_of_getElem? (i := 155) rfl)))) (mvT hZ (hw _ (List.mem_of_getElem? (i := 155) rfl))) (mvT hZ (hw _ (List.mem_of_getElem? (i := 154) rfl))) (by decide) (backOf (W := 1) (rm18 l Z a0 hw [] oc el h56 n0 sz56 f60) hZ (hw _ (List.mem_of_getElem? (i := 156) rfl)) (hw _ (List.mem_of_getElem? (i := 6) rfl)) (by decide) (by decide)) q59a q59c (g := (mkF m 79 #[rv oa, iv xs, rv oc, .unset, .unset] [(.ref oc), (.ref oa)])) rfl (by rw [hml]; rfl) (Steps.refl _) (argsL := []) (rest := [(.ref oa)]) (lenOf pd_6 rfl) rfl (by show 2 * 0 + _ ≤ _; exact Nat.le_of_eq rfl) (hb hby d12_79) (fun _ _ => ⟨rfl, e56, (by decide : 4 + 0 ≤ _), (by decide : 8 + 0 ≤ _)⟩)
  dsimp only [Pt.U, Pt.locs, Pt.cells, Pt.slots] at X59 l59 y59 z59 st59 hQ59
  subst l59 y59 z59
  obtain ⟨rfl, Nq59, eh59⟩ := hQ59
  have N59 := Fr.app N56 Nq59
  have f63 : Fld Z h56 oa "evenkeel/client/Window" "committedFailures" "Ljava/util/List;" u11 := (((((((((((((F11.other W3 (Or.inr (slot_ne (Or.inl (hw _ (List.mem_of_getElem? (i := 158) rfl))) (Or.inl (hw _ (List.mem_of_getElem? (i := 102) rfl))) (by decide) (t := (.object "java/util/List")) (t' := (.object "java/util/List")) (by decide) (by decide)))).ext E4).keep Kc10 (ninS ne4_oa nin0)).other W13 (Or.inr (slot_ne (Or.inl (hw _ (List.mem_of_getElem? (i := 158) rfl))) (Or.inr (hw _ (List.mem_of_getElem? (i := 126) rfl))) (by decide) (t := (.object "java/util/List")) (t' := (.object "java/util/BitSet")) (by decide) (by decide)))).other W16 (Or.inr (slot_ne (Or.inl (hw _ (List.mem_of_getElem? (i := 158) rfl))) (Or.inl (hw _ (List.mem_of_getElem? (i := 129) rfl))) (by decide) (t := (.object "java/util/List")) (t' := .long) (by decide) (by decide)))).ext E19).keep Kc27 (ninS ne19_oa nin0)).other W32 (Or.inr (slot_ne (Or.inl (hw _ (List.mem_of_getElem? (i := 158) rfl))) (Or.inr (hw _ (List.mem_of_getElem? (i := 131) rfl))) (by decide) (t := (.object "java/util/List")) (t' := (.object "java/util/BitSet")) (by decide) (by decide)))).other W35 (Or.inr (slot_ne (Or.inl (hw _ (List.mem_of_getElem? (i := 158) rfl))) (Or.inr (hw _ (List.mem_of_getElem? (i := 133) rfl))) (by decide) (t := (.object "java/util/List")) (t' := .int) (by decide) (by decide)))).other W41 (Or.inr (slot_ne (Or.inl (hw _ (List.mem_of_getElem? (i := 158) rfl))) (Or.inl (hw _ (List.mem_of_getElem? (i := 140) rfl))) (by decide) (t := (.object "java/util/List")) (t' := .long) (by decide) (by decide)))).other W45 (Or.inr (slot_ne (Or.inl (hw _ (List.mem_of_getElem? (i := 158) rfl))) (Or.inl (hw _ (List.mem_of_getElem? (i := 142) rfl))) (by decide) (t := (.object "java/util/List")) (t' := .long) (by decide) (by decide)))).other W50 (Or.inr (slot_ne (Or.inl (hw _ (List.mem_of_getElem? (i := 158) rfl))) (Or.inl (hw _ (List.mem_of_getElem? (i := 144) rfl))) (by decide) (t := (.object "java/util/List")) (t' := .long) (by decide) (by decide)))).other W56 (Or.inr (slot_ne (Or.inl (hw _ (List.mem_of_getElem? (i := 158) rfl))) (Or.inr (hw _ (List.mem_of_getElem? (i := 151) rfl))) (by decide) (t := (.object "java/util/List")) (t' := (.object "java/util/List")) (by decide) (by decide))))
  have f64 : Exa Z h56 oa "evenkeel/client/Window" := (f58.wr W56)
  obtain ⟨T62, h62, X62, e62, W62, st62⟩ := putF X59 hx hZ hown (host := "") (Or.inl (hw _ (List.mem_of_getElem? (i := 157) rfl))) Via.refl eh59 f63 f64 (Or.inl (hw _ (List.mem_of_getElem? (i := 158) rfl))) (hw _ (List.mem_of_getElem? (i := 2) rfl)) (ty := (.object "java/util/List")) (by decide) rfl rfl (g := (mkF m 82 #[rv oa, iv xs, rv oc, .unset, .unset] [(.ref el), (.ref oa)])) rfl rfl (hb hby d12_82)
  have f62w := f63.same W62
  have K62 : Keep h0 h62 [oa] := K56.wr W62 (Or.inl (List.mem_of_getElem? (i := 0) rfl))
  have N62 := Fr.snoc X62 N59 g_
  have sz62 : n0 ≤ h62.size := Nat.le_trans sz56 (Keep.of_wr W62).1
  have f66 : Fld Z h62 oc "evenkeel/model/CommittedOffset" "failed" "Ljava/util/List;" (.ref el) := (f60.other W62 (Or.inl (Ne.symm nao)))
  have f67 : Exa Z h62 oc "evenkeel/model/CommittedOffset" := (f61.wr W62)
  obtain ⟨cq65, kq65, q65a, q65b, q65c⟩ := isOf hZ e62 f67
  obtain ⟨_, _, ⟨T65, L65, k65, n65⟩, -, X65, ⟨Lc65, hQ65, l65, y65, z65⟩, st65⟩ := X62.virtualBack hx (y := (⟨"evenkeel/model/CommittedOffset", "failed", "()Ljava/util/List;"⟩ : MethodName)) (z := (⟨"evenkeel/model/CommittedOffset", "failed", "()Ljava/util/List;"⟩ : MethodName)) hown (mvT hZ (hw _ (List.mem_of_getElem? (i := 152) rfl))) (mvT hZ (hw _ (List.mem_of_getElem? (i := 153) rfl))) (notFace_of_selects (args := #[]) (mvT hZ (hw _ (List.mem_of_getElem? (i := 155) rfl)))) (mvT hZ (hw _ (List.mem_of_getElem? (i := 155) rfl))) (mvT hZ (hw _ (List.mem_of_getElem? (i := 154) rfl))) (by decide) (backOf (W := 0) (rm18 l Z a0 hw [] oc el h62 n0 sz62 f66) hZ (hw _ (List.mem_of_getElem? (i := 156) rfl)) (hw _ (List.mem_of_getElem? (i := 6) rfl)) (by decide) (by decide)) q65a q65c (g := (mkF m 86 #[rv oa, iv xs, rv oc, .unset, .unset] [(.ref oc)])) rfl (by rw [hml]; rfl) (Steps.refl _) (argsL := []) (rest := []) (lenOf pd_6 rfl) rfl (by show 2 * 0 + _ ≤ _; exact Nat.le_of_eq rfl) (hb hby d12_86) (fun _ _ => ⟨rfl, e62, (by decide : 4 + 0 ≤ _), (by decide : 8 + 0 ≤ _)⟩)
  dsimp only [Pt.U, Pt.locs, Pt.cells, Pt.slots] at X65 l65 y65 z65 st65 hQ65
  subst l65 y65 z65
  obtain ⟨rfl, Nq65, eh65⟩ := hQ65
  have N65 := Fr.app N62 Nq65
  have pre68 : ∀ t, own_K p e below m T65 89 #[rv oa, iv xs, rv oc, .unset, .unset] [(.ref el)] t → G t := by
    intro t k
    refine pre0 t ?_
    show own_K p e below m s₁ 0 #[rv oa, iv xs, rv oc, .unset, .unset] [] _
    refine XS.aloadN X0.here hx rfl (hb hby d12_0) rfl rfl ?_
    show own_K p e below m s₁ 1 #[rv oa, iv xs, rv oc, .unset, .unset] [(.ref oa)] _
    refine st1 _ ?_
    show own_K p e below m T1 4 #[rv oa, iv xs, rv oc, .unset, .unset] [] _
    refine XS.aloadN X1.here hx rfl (hb hby d12_4) rfl rfl ?_
    show own_K p e below m T1 5 #[rv oa, iv xs, rv oc, .unset, .unset] [(.ref oa)] _
    refine st2 _ ?_
    show own_K p e below m T2 8 #[rv oa, iv xs, rv oc, .unset, .unset] [(.ref el), (.ref oa)] _
    refine st3 _ ?_
    show own_K p e below m T3 11 #[rv oa, iv xs, rv oc, .unset, .unset] [] _
    refine XS.aloadN X3.here hx rfl (hb hby d12_11) rfl rfl ?_
    show own_K p e below m T3 12 #[rv oa, iv xs, rv oc, .unset, .unset] [(.ref oa)] _
    refine st4 _ ?_
    show own_K p e below m T4 15 #[rv oa, iv xs, rv oc, .unset, .unset] [(.ref b4), (.ref oa)] _
    refine XS.dup X4.here hx rfl (hb hby d12_15) rfl rfl ?_
    show own_K p e below m T4 16 #[rv oa, iv xs, rv oc, .unset, .unset] [(.ref b4), (.ref b4), (.ref oa)] _
    refine st10.trans ?_
    show own_K p e below m T10 19 #[rv oa, iv xs, rv oc, .unset, .unset] [(.ref b4), (.ref oa)] _
    refine st13 _ ?_
    show own_K p e below m T13 22 #[rv oa, iv xs, rv oc, .unset, .unset] [] _
    refine XS.aloadN X13.here hx rfl (hb hby d12_22) rfl rfl ?_
    show own_K p e below m T13 23 #[rv oa, iv xs, rv oc, .unset, .unset] [(.ref oa)] _
    refine X13.ldc2Long hx hown (mvT hZ (hw _ (List.mem_of_getElem? (i := 127) rfl))) (g := (mkF m 23 #[rv oa, iv xs, rv oc, .unset, .unset] [(.ref oa)])) rfl (hb hby d12_23) _ ?_
    show own_K p e below m T13 26 #[rv oa, iv xs, rv oc, .unset, .unset] [(.long (-1 : Int64)), (.ref oa)] _
    refine st16 _ ?_
    show own_K p e below m T16 29 #[rv oa, iv xs, rv oc, .unset, .unset] [] _
    refine XS.aloadN X16.here hx rfl (hb hby d12_29) rfl rfl ?_
    show own_K p e below m T16 30 #[rv oa, iv xs, rv oc, .unset, .unset] [(.ref oa)] _
    refine st19 _ ?_
    show own_K p e below m T19 33 #[rv oa, iv xs, rv oc, .unset, .unset] [(.ref b19), (.ref oa)] _
    refine XS.dup X19.here hx rfl (hb hby d12_33) rfl rfl ?_
    show own_K p e below m T19 34 #[rv oa, iv xs, rv oc, .unset, .unset] [(.ref b19), (.ref b19), (.ref oa)] _
    refine st27.trans ?_
    show own_K p e below m T27 37 #[rv oa, iv xs, rv oc, .unset, .unset] [(.ref b19), (.ref oa)] _
    refine st32 _ ?_
    show own_K p e below m T32 40 #[rv oa, iv xs, rv oc, .unset, .unset] [] _
    refine XS.aloadN X32.here hx rfl (hb hby d12_40) rfl rfl ?_
    show own_K p e below m T32 41 #[rv oa, iv xs, rv oc, .unset, .unset] [(.ref oa)] _
    refine XS.iloadN X32.here hx rfl (hb hby d12_41) rfl ?_
    show own_K p e below m T32 42 #[rv oa, iv xs, rv oc, .unset, .unset] [(.int xs), (.ref oa)] _
    refine st35 _ ?_
    show own_K p e below m T35 45 #[rv oa, iv xs, rv oc, .unset, .unset] [] _
    refine XS.aloadN X35.here hx rfl (hb hby d12_45) rfl rfl ?_
    show own_K p e below m T35 46 #[rv oa, iv xs, rv oc, .unset, .unset] [(.ref oa)] _
    refine XS.aloadN X35.here hx rfl (hb hby d12_46) rfl rfl ?_
    show own_K p e below m T35 47 #[rv oa, iv xs, rv oc, .unset, .unset] [(.ref oc), (.ref oa)] _
    refine st38.trans ?_
    show own_K p e below m T38 50 #[rv oa, iv xs, rv oc, .unset, .unset] [(.long qn), (.ref oa)] _
    refine st41 _ ?_
    show own_K p e below m T41 53 #[rv oa, iv xs, rv oc, .unset, .unset] [] _
    refine XS.aloadN X41.here hx rfl (hb hby d12_53) rfl rfl ?_
    show own_K p e below m T41 54 #[rv oa, iv xs, rv oc, .unset, .unset] [(.ref oa)] _
    refine XS.aloadN X41.here hx rfl (hb hby d12_54) rfl rfl ?_
    show own_K p e below m T41 55 #[rv oa, iv xs, rv oc, .unset, .unset] [(.ref oa), (.ref oa)] _
    refine st44 _ ?_
    show own_K p e below m T44 58 #[rv oa, iv xs, rv oc, .unset, .unset] [(.long qn), (.ref oa)] _
    refine st45 _ ?_
    show own_K p e below m T45 61 #[rv oa, iv xs, rv oc, .unset, .unset] [] _
    refine XS.aloadN X45.here hx rfl (hb hby d12_61) rfl rfl ?_
    show own_K p e below m T45 62 #[rv oa, iv xs, rv oc, .unset, .unset] [(.ref oa)] _
    refine XS.aloadN X45.here hx rfl (hb hby d12_62) rfl rfl ?_
    show own_K p e below m T45 63 #[rv oa, iv xs, rv oc, .unset, .unset] [(.ref oa), (.ref oa)] _
    refine st48 _ ?_
    show own_K p e below m T48 66 #[rv oa, iv xs, rv oc, .unset, .unset] [(.long qn), (.ref oa)] _
    refine st50 _ ?_
    show own_K p e below m T50 69 #[rv oa, iv xs, rv oc, .unset, .unset] [] _
    refine XS.aloadN X50.here hx rfl (hb hby d12_69) rfl rfl ?_
    show own_K p e below m T50 70 #[rv oa, iv xs, rv oc, .unset, .unset] [(.ref oa)] _
    refine XS.aloadN X50.here hx rfl (hb hby d12_70) rfl rfl ?_
    show own_K p e below m T50 71 #[rv oa, iv xs, rv oc, .unset, .unset] [(.ref oc), (.ref oa)] _
    refine st53.trans ?_
    show own_K p e below m T53 74 #[rv oa, iv xs, rv oc, .unset, .unset] [(.ref el), (.ref oa)] _
    refine st56 _ ?_
    show own_K p e below m T56 77 #[rv oa, iv xs, rv oc, .unset, .unset] [] _
    refine XS.aloadN X56.here hx rfl (hb hby d12_77) rfl rfl ?_
    show own_K p e below m T56 78 #[rv oa, iv xs, rv oc, .unset, .unset] [(.ref oa)] _
    refine XS.aloadN X56.here hx rfl (hb hby d12_78) rfl rfl ?_
    show own_K p e below m T56 79 #[rv oa, iv xs, rv oc, .unset, .unset] [(.ref oc), (.ref oa)] _
    refine st59.trans ?_
    show own_K p e below m T59 82 #[rv oa, iv xs, rv oc, .unset, .unset] [(.ref el), (.ref oa)] _
    refine st62 _ ?_
    show own_K p e below m T62 85 #[rv oa, iv xs, rv oc, .unset, .unset] [] _
    refine XS.aloadN X62.here hx rfl (hb hby d12_85) rfl rfl ?_
    show own_K p e below m T62 86 #[rv oa, iv xs, rv oc, .unset, .unset] [(.ref oc)] _
    refine st65.trans ?_
    exact k
  have f69 : Old Z n0 h62 := ((((((((((((((O_.wr W3 g_).ext E4).keep Kc10 (allS ge_b4 all0)).wr W13 g_).wr W16 g_).ext E19).keep Kc27 (allS ge_b19 all0)).wr W32 g_).wr W35 g_).wr W41 g_).wr W45 g_).wr W50 g_).wr W56 g_).wr W62 g_)
  obtain ⟨cq70, kq70, q70a, q70b, q70c⟩ := isOf hZ eh65 (Exa.ext f69.2 P_.2.1)
  obtain ⟨_, _, ⟨T70, L70, k70, n70⟩, -, X70, ⟨Lc70, hQ70, l70, y70, z70⟩, st70⟩ := X65.interfaceBack hx (xi := (⟨"java/util/List", "isEmpty", "()Z"⟩ : MethodName)) (y := (⟨"java/util/ImmutableCollections$ListN", "isEmpty", "()Z"⟩ : MethodName)) hown (mvT hZ (hw _ (List.mem_of_getElem? (i := 159) rfl))) (mvT hZ (hw _ (List.mem_of_getElem? (i := 160) rfl))) (mvT hZ (hw _ (List.mem_of_getElem? (i := 161) rfl))) (mvT hZ (hw _ (List.mem_of_getElem? (i := 162) rfl))) (mvT hZ (hw _ (List.mem_of_getElem? (i := 163) rfl))) (mvT hZ (hw _ (List.mem_of_getElem? (i := 164) rfl))) (mvT hZ (hw _ (List.mem_of_getElem? (i := 165) rfl))) (mvT hZ (hw _ (List.mem_of_getElem? (i := 44) rfl))) (by decide) (backOf (W := 0) (rm19 l Z a0 hw [] el ea kE (0 : Int32) [] .null h62 n0 sz62 (Fld.ext f69.2 P_.2.2.1) (P_.2.2.2.1.ext f69.2)) hZ (hw _ (List.mem_of_getElem? (i := 166) rfl)) (hw _ (List.mem_of_getElem? (i := 62) rfl)) (by decide) (by decide)) q70a q70b q70c (g := (mkF m 89 #[rv oa, iv xs, rv oc, .unset, .unset] [(.ref el)])) rfl (by rw [hml]; rfl) (Steps.refl _) (argsL := []) (rest := []) (lenOf pd_5 rfl) rfl (by show 2 * 0 + _ ≤ _; exact Nat.le_of_eq rfl) (hb hby d12_89) (fun _ _ => ⟨rfl, eh65, (by decide : 4 + 0 ≤ _), (by decide : 8 + 0 ≤ _)⟩)
  dsimp only [Pt.U, Pt.locs, Pt.cells, Pt.slots] at X70 l70 y70 z70 st70 hQ70
  subst l70 y70 z70
  obtain ⟨rfl, Nq70, eh70⟩ := hQ70
  have N70 := Fr.app N65 Nq70
  have pre71 : ∀ t, own_K p e below m T70 165 #[rv oa, iv xs, rv oc, .unset, .unset] [] t → G t := by
    intro t k
    refine pre68 t ?_
    show own_K p e below m T65 89 #[rv oa, iv xs, rv oc, .unset, .unset] [(.ref el)] _
    refine st70.trans ?_
    show own_K p e below m T70 94 #[rv oa, iv xs, rv oc, .unset, .unset] [(.int (if (0 : Int32) = (0 : Int32) then (1 : Int32) else (0 : Int32)))] _
    refine XS.ifYes X70.here hx rfl (pc0 := 94) (pc' := 165) rfl (hb hby d12_94) rfl ((if0 _ _).trans (feq (by rw [if_pos rfl]; decide)).2) (by decide) (by decide) ?_
    exact k
  have f72 : Fld Z h62 oa "evenkeel/client/Window" "size" "I" (.int xs) := (((((f35w.other W41 (Or.inr (slot_ne (Or.inr (hw _ (List.mem_of_getElem? (i := 133) rfl))) (Or.inl (hw _ (List.mem_of_getElem? (i := 140) rfl))) (by decide) (t := .int) (t' := .long) (by decide) (by decide)))).other W45 (Or.inr (slot_ne (Or.inr (hw _ (List.mem_of_getElem? (i := 133) rfl))) (Or.inl (hw _ (List.mem_of_getElem? (i := 142) rfl))) (by decide) (t := .int) (t' := .long) (by decide) (by decide)))).other W50 (Or.inr (slot_ne (Or.inr (hw _ (List.mem_of_getElem? (i := 133) rfl))) (Or.inl (hw _ (List.mem_of_getElem? (i := 144) rfl))) (by decide) (t := .int) (t' := .long) (by decide) (by decide)))).other W56 (Or.inr (slot_ne (Or.inr (hw _ (List.mem_of_getElem? (i := 133) rfl))) (Or.inr (hw _ (List.mem_of_getElem? (i := 151) rfl))) (by decide) (t := .int) (t' := (.object "java/util/List")) (by decide) (by decide)))).other W62 (Or.inr (slot_ne (Or.inr (hw _ (List.mem_of_getElem? (i := 133) rfl))) (Or.inl (hw _ (List.mem_of_getElem? (i := 158) rfl))) (by decide) (t := .int) (t' := (.object "java/util/List")) (by decide) (by decide))))
  have f73 : Fld Z h62 oa "evenkeel/client/Window" "committed" "J" (.long qn) := (((f49.other W50 (Or.inr (slot_ne (Or.inl (hw _ (List.mem_of_getElem? (i := 140) rfl))) (Or.inl (hw _ (List.mem_of_getElem? (i := 144) rfl))) (by decide) (t := .long) (t' := .long) (by decide) (by decide)))).other W56 (Or.inr (slot_ne (Or.inl (hw _ (List.mem_of_getElem? (i := 140) rfl))) (Or.inr (hw _ (List.mem_of_getElem? (i := 151) rfl))) (by decide) (t := .long) (t' := (.object "java/util/List")) (by decide) (by decide)))).other W62 (Or.inr (slot_ne (Or.inl (hw _ (List.mem_of_getElem? (i := 140) rfl))) (Or.inl (hw _ (List.mem_of_getElem? (i := 158) rfl))) (by decide) (t := .long) (t' := (.object "java/util/List")) (by decide) (by decide))))
  have f74 : Fld Z h62 oa "evenkeel/client/Window" "unfinished" "J" (.long qn) := (((f45w.other W50 (Or.inr (slot_ne (Or.inl (hw _ (List.mem_of_getElem? (i := 142) rfl))) (Or.inl (hw _ (List.mem_of_getElem? (i := 144) rfl))) (by decide) (t := .long) (t' := .long) (by decide) (by decide)))).other W56 (Or.inr (slot_ne (Or.inl (hw _ (List.mem_of_getElem? (i := 142) rfl))) (Or.inr (hw _ (List.mem_of_getElem? (i := 151) rfl))) (by decide) (t := .long) (t' := (.object "java/util/List")) (by decide) (by decide)))).other W62 (Or.inr (slot_ne (Or.inl (hw _ (List.mem_of_getElem? (i := 142) rfl))) (Or.inl (hw _ (List.mem_of_getElem? (i := 158) rfl))) (by decide) (t := .long) (t' := (.object "java/util/List")) (by decide) (by decide))))
  have f75 : Fld Z h62 oa "evenkeel/client/Window" "next" "J" (.long qn) := ((f50w.other W56 (Or.inr (slot_ne (Or.inl (hw _ (List.mem_of_getElem? (i := 144) rfl))) (Or.inr (hw _ (List.mem_of_getElem? (i := 151) rfl))) (by decide) (t := .long) (t' := (.object "java/util/List")) (by decide) (by decide)))).other W62 (Or.inr (slot_ne (Or.inl (hw _ (List.mem_of_getElem? (i := 144) rfl))) (Or.inl (hw _ (List.mem_of_getElem? (i := 158) rfl))) (by decide) (t := .long) (t' := (.object "java/util/List")) (by decide) (by decide))))
  have f76 : Fld Z h62 oa "evenkeel/client/Window" "restart" "J" (.long (-1 : Int64)) := (((((((((f16w.ext E19).keep Kc27 (ninS ne19_oa nin0)).other W32 (Or.inr (slot_ne (Or.inl (hw _ (List.mem_of_getElem? (i := 129) rfl))) (Or.inr (hw _ (List.mem_of_getElem? (i := 131) rfl))) (by decide) (t := .long) (t' := (.object "java/util/BitSet")) (by decide) (by decide)))).other W35 (Or.inr (slot_ne (Or.inl (hw _ (List.mem_of_getElem? (i := 129) rfl))) (Or.inr (hw _ (List.mem_of_getElem? (i := 133) rfl))) (by decide) (t := .long) (t' := .int) (by decide) (by decide)))).other W41 (Or.inr (slot_ne (Or.inl (hw _ (List.mem_of_getElem? (i := 129) rfl))) (Or.inl (hw _ (List.mem_of_getElem? (i := 140) rfl))) (by decide) (t := .long) (t' := .long) (by decide) (by decide)))).other W45 (Or.inr (slot_ne (Or.inl (hw _ (List.mem_of_getElem? (i := 129) rfl))) (Or.inl (hw _ (List.mem_of_getElem? (i := 142) rfl))) (by decide) (t := .long) (t' := .long) (by decide) (by decide)))).other W50 (Or.inr (slot_ne (Or.inl (hw _ (List.mem_of_getElem? (i := 129) rfl))) (Or.inl (hw _ (List.mem_of_getElem? (i := 144) rfl))) (by decide) (t := .long) (t' := .long) (by decide) (by decide)))).other W56 (Or.inr (slot_ne (Or.inl (hw _ (List.mem_of_getElem? (i := 129) rfl))) (Or.inr (hw _ (List.mem_of_getElem? (i := 151) rfl))) (by decide) (t := .long) (t' := (.object "java/util/List")) (by decide) (by decide)))).other W62 (Or.inr (slot_ne (Or.inl (hw _ (List.mem_of_getElem? (i := 129) rfl))) (Or.inl (hw _ (List.mem_of_getElem? (i := 158) rfl))) (by decide) (t := .long) (t' := (.object "java/util/List")) (by decide) (by decide))))
  have f77 : Fld Z h62 oa "evenkeel/client/Window" "consumed" "Ljava/util/List;" (.ref el) := (f56w.other W62 (Or.inr (slot_ne (Or.inr (hw _ (List.mem_of_getElem? (i := 151) rfl))) (Or.inl (hw _ (List.mem_of_getElem? (i := 158) rfl))) (by decide) (t := (.object "java/util/List")) (t' := (.object "java/util/List")) (by decide) (by decide))))
  have f78 : Fld Z h62 oa "evenkeel/client/Window" "consumedAt" "I" (.int (0 : Int32)) := ((((((((((((((F8.other W3 (Or.inr (slot_ne (Or.inl (hw _ (List.mem_of_getElem? (i := 182) rfl))) (Or.inl (hw _ (List.mem_of_getElem? (i := 102) rfl))) (by decide) (t := .int) (t' := (.object "java/util/List")) (by decide) (by decide)))).ext E4).keep Kc10 (ninS ne4_oa nin0)).other W13 (Or.inr (slot_ne (Or.inl (hw _ (List.mem_of_getElem? (i := 182) rfl))) (Or.inr (hw _ (List.mem_of_getElem? (i := 126) rfl))) (by decide) (t := .int) (t' := (.object "java/util/BitSet")) (by decide) (by decide)))).other W16 (Or.inr (slot_ne (Or.inl (hw _ (List.mem_of_getElem? (i := 182) rfl))) (Or.inl (hw _ (List.mem_of_getElem? (i := 129) rfl))) (by decide) (t := .int) (t' := .long) (by decide) (by decide)))).ext E19).keep Kc27 (ninS ne19_oa nin0)).other W32 (Or.inr (slot_ne (Or.inl (hw _ (List.mem_of_getElem? (i := 182) rfl))) (Or.inr (hw _ (List.mem_of_getElem? (i := 131) rfl))) (by decide) (t := .int) (t' := (.object "java/util/BitSet")) (by decide) (by decide)))).other W35 (Or.inr (slot_ne (Or.inl (hw _ (List.mem_of_getElem? (i := 182) rfl))) (Or.inr (hw _ (List.mem_of_getElem? (i := 133) rfl))) (by decide) (t := .int) (t' := .int) (by decide) (by decide)))).other W41 (Or.inr (slot_ne (Or.inl (hw _ (List.mem_of_getElem? (i := 182) rfl))) (Or.inl (hw _ (List.mem_of_getElem? (i := 140) rfl))) (by decide) (t := .int) (t' := .long) (by decide) (by decide)))).other W45 (Or.inr (slot_ne (Or.inl (hw _ (List.mem_of_getElem? (i := 182) rfl))) (Or.inl (hw _ (List.mem_of_getElem? (i := 142) rfl))) (by decide) (t := .int) (t' := .long) (by decide) (by decide)))).other W50 (Or.inr (slot_ne (Or.inl (hw _ (List.mem_of_getElem? (i := 182) rfl))) (Or.inl (hw _ (List.mem_of_getElem? (i := 144) rfl))) (by decide) (t := .int) (t' := .long) (by decide) (by decide)))).other W56 (Or.inr (slot_ne (Or.inl (hw _ (List.mem_of_getElem? (i := 182) rfl))) (Or.inr (hw _ (List.mem_of_getElem? (i := 151) rfl))) (by decide) (t := .int) (t' := (.object "java/util/List")) (by decide) (by decide)))).other W62 (Or.inr (slot_ne (Or.inl (hw _ (List.mem_of_getElem? (i := 182) rfl))) (Or.inl (hw _ (List.mem_of_getElem? (i := 158) rfl))) (by decide) (t := .int) (t' := (.object "java/util/List")) (by decide) (by decide))))
  have f79 : Fld Z h62 oa "evenkeel/client/Window" "failing" "Ljava/util/TreeMap;" .null := ((((((((((((((F10.other W3 (Or.inr (slot_ne (Or.inl (hw _ (List.mem_of_getElem? (i := 260) rfl))) (Or.inl (hw _ (List.mem_of_getElem? (i := 102) rfl))) (by decide) (t := (.object "java/util/TreeMap")) (t' := (.object "java/util/List")) (by decide) (by decide)))).ext E4).keep Kc10 (ninS ne4_oa nin0)).other W13 (Or.inr (slot_ne (Or.inl (hw _ (List.mem_of_getElem? (i := 260) rfl))) (Or.inr (hw _ (List.mem_of_getElem? (i := 126) rfl))) (by decide) (t := (.object "java/util/TreeMap")) (t' := (.object "java/util/BitSet")) (by decide) (by decide)))).other W16 (Or.inr (slot_ne (Or.inl (hw _ (List.mem_of_getElem? (i := 260) rfl))) (Or.inl (hw _ (List.mem_of_getElem? (i := 129) rfl))) (by decide) (t := (.object "java/util/TreeMap")) (t' := .long) (by decide) (by decide)))).ext E19).keep Kc27 (ninS ne19_oa nin0)).other W32 (Or.inr (slot_ne (Or.inl (hw _ (List.mem_of_getElem? (i := 260) rfl))) (Or.inr (hw _ (List.mem_of_getElem? (i := 131) rfl))) (by decide) (t := (.object "java/util/TreeMap")) (t' := (.object "java/util/BitSet")) (by decide) (by decide)))).other W35 (Or.inr (slot_ne (Or.inl (hw _ (List.mem_of_getElem? (i := 260) rfl))) (Or.inr (hw _ (List.mem_of_getElem? (i := 133) rfl))) (by decide) (t := (.object "java/util/TreeMap")) (t' := .int) (by decide) (by decide)))).other W41 (Or.inr (slot_ne (Or.inl (hw _ (List.mem_of_getElem? (i := 260) rfl))) (Or.inl (hw _ (List.mem_of_getElem? (i := 140) rfl))) (by decide) (t := (.object "java/util/TreeMap")) (t' := .long) (by decide) (by decide)))).other W45 (Or.inr (slot_ne (Or.inl (hw _ (List.mem_of_getElem? (i := 260) rfl))) (Or.inl (hw _ (List.mem_of_getElem? (i := 142) rfl))) (by decide) (t := (.object "java/util/TreeMap")) (t' := .long) (by decide) (by decide)))).other W50 (Or.inr (slot_ne (Or.inl (hw _ (List.mem_of_getElem? (i := 260) rfl))) (Or.inl (hw _ (List.mem_of_getElem? (i := 144) rfl))) (by decide) (t := (.object "java/util/TreeMap")) (t' := .long) (by decide) (by decide)))).other W56 (Or.inr (slot_ne (Or.inl (hw _ (List.mem_of_getElem? (i := 260) rfl))) (Or.inr (hw _ (List.mem_of_getElem? (i := 151) rfl))) (by decide) (t := (.object "java/util/TreeMap")) (t' := (.object "java/util/List")) (by decide) (by decide)))).other W62 (Or.inr (slot_ne (Or.inl (hw _ (List.mem_of_getElem? (i := 260) rfl))) (Or.inl (hw _ (List.mem_of_getElem? (i := 158) rfl))) (by decide) (t := (.object "java/util/TreeMap")) (t' := (.object "java/util/List")) (by decide) (by decide))))
  have f80 : Fld Z h62 oa "evenkeel/client/Window" "committedAhead" "Ljava/util/List;" (.ref el) := (((((((((((((f3w.ext E4).keep Kc10 (ninS ne4_oa nin0)).other W13 (Or.inr (slot_ne (Or.inl (hw _ (List.mem_of_getElem? (i := 102) rfl))) (Or.inr (hw _ (List.mem_of_getElem? (i := 126) rfl))) (by decide) (t := (.object "java/util/List")) (t' := (.object "java/util/BitSet")) (by decide) (by decide)))).other W16 (Or.inr (slot_ne (Or.inl (hw _ (List.mem_of_getElem? (i := 102) rfl))) (Or.inl (hw _ (List.mem_of_getElem? (i := 129) rfl))) (by decide) (t := (.object "java/util/List")) (t' := .long) (by decide) (by decide)))).ext E19).keep Kc27 (ninS ne19_oa nin0)).other W32 (Or.inr (slot_ne (Or.inl (hw _ (List.mem_of_getElem? (i := 102) rfl))) (Or.inr (hw _ (List.mem_of_getElem? (i := 131) rfl))) (by decide) (t := (.object "java/util/List")) (t' := (.object "java/util/BitSet")) (by decide) (by decide)))).other W35 (Or.inr (slot_ne (Or.inl (hw _ (List.mem_of_getElem? (i := 102) rfl))) (Or.inr (hw _ (List.mem_of_getElem? (i := 133) rfl))) (by decide) (t := (.object "java/util/List")) (t' := .int) (by decide) (by decide)))).other W41 (Or.inr (slot_ne (Or.inl (hw _ (List.mem_of_getElem? (i := 102) rfl))) (Or.inl (hw _ (List.mem_of_getElem? (i := 140) rfl))) (by decide) (t := (.object "java/util/List")) (t' := .long) (by decide) (by decide)))).other W45 (Or.inr (slot_ne (Or.inl (hw _ (List.mem_of_getElem? (i := 102) rfl))) (Or.inl (hw _ (List.mem_of_getElem? (i := 142) rfl))) (by decide) (t := (.object "java/util/List")) (t' := .long) (by decide) (by decide)))).other W50 (Or.inr (slot_ne (Or.inl (hw _ (List.mem_of_getElem? (i := 102) rfl))) (Or.inl (hw _ (List.mem_of_getElem? (i := 144) rfl))) (by decide) (t := (.object "java/util/List")) (t' := .long) (by decide) (by decide)))).other W56 (Or.inr (slot_ne (Or.inl (hw _ (List.mem_of_getElem? (i := 102) rfl))) (Or.inr (hw _ (List.mem_of_getElem? (i := 151) rfl))) (by decide) (t := (.object "java/util/List")) (t' := (.object "java/util/List")) (by decide) (by decide)))).other W62 (Or.inr (slot_ne (Or.inl (hw _ (List.mem_of_getElem? (i := 102) rfl))) (Or.inl (hw _ (List.mem_of_getElem? (i := 158) rfl))) (by decide) (t := (.object "java/util/List")) (t' := (.object "java/util/List")) (by decide) (by decide))))
  have f81 : Fld Z h62 oa "evenkeel/client/Window" "finished" "Ljava/util/BitSet;" (.ref b4) := ((((((((((f13w.other W16 (Or.inr (slot_ne (Or.inr (hw _ (List.mem_of_getElem? (i := 126) rfl))) (Or.inl (hw _ (List.mem_of_getElem? (i := 129) rfl))) (by decide) (t := (.object "java/util/BitSet")) (t' := .long) (by decide) (by decide)))).ext E19).keep Kc27 (ninS ne19_oa nin0)).other W32 (Or.inr (slot_ne (Or.inr (hw _ (List.mem_of_getElem? (i := 126) rfl))) (Or.inr (hw _ (List.mem_of_getElem? (i := 131) rfl))) (by decide) (t := (.object "java/util/BitSet")) (t' := (.object "java/util/BitSet")) (by decide) (by decide)))).other W35 (Or.inr (slot_ne (Or.inr (hw _ (List.mem_of_getElem? (i := 126) rfl))) (Or.inr (hw _ (List.mem_of_getElem? (i := 133) rfl))) (by decide) (t := (.object "java/util/BitSet")) (t' := .int) (by decide) (by decide)))).other W41 (Or.inr (slot_ne (Or.inr (hw _ (List.mem_of_getElem? (i := 126) rfl))) (Or.inl (hw _ (List.mem_of_getElem? (i := 140) rfl))) (by decide) (t := (.object "java/util/BitSet")) (t' := .long) (by decide) (by decide)))).other W45 (Or.inr (slot_ne (Or.inr (hw _ (List.mem_of_getElem? (i := 126) rfl))) (Or.inl (hw _ (List.mem_of_getElem? (i := 142) rfl))) (by decide) (t := (.object "java/util/BitSet")) (t' := .long) (by decide) (by decide)))).other W50 (Or.inr (slot_ne (Or.inr (hw _ (List.mem_of_getElem? (i := 126) rfl))) (Or.inl (hw _ (List.mem_of_getElem? (i := 144) rfl))) (by decide) (t := (.object "java/util/BitSet")) (t' := .long) (by decide) (by decide)))).other W56 (Or.inr (slot_ne (Or.inr (hw _ (List.mem_of_getElem? (i := 126) rfl))) (Or.inr (hw _ (List.mem_of_getElem? (i := 151) rfl))) (by decide) (t := (.object "java/util/BitSet")) (t' := (.object "java/util/List")) (by decide) (by decide)))).other W62 (Or.inr (slot_ne (Or.inr (hw _ (List.mem_of_getElem? (i := 126) rfl))) (Or.inl (hw _ (List.mem_of_getElem? (i := 158) rfl))) (by decide) (t := (.object "java/util/BitSet")) (t' := (.object "java/util/List")) (by decide) (by decide))))
  have f82 : Exa Z h62 b4 "java/util/BitSet" := ((((((((f30.keep Kc27).wr W32).wr W35).wr W41).wr W45).wr W50).wr W56).wr W62)
  have f83 : Fld Z h62 b4 "java/util/BitSet" "wordsInUse" "I" (.int (0 : Int32)) := (((((((((((Fu_10.other W13 (Or.inl (Ne.symm ne4_oa))).other W16 (Or.inl (Ne.symm ne4_oa))).ext E19).keep Kc27 (ninS ne19_b4 nin0)).other W32 (Or.inl (Ne.symm ne4_oa))).other W35 (Or.inl (Ne.symm ne4_oa))).other W41 (Or.inl (Ne.symm ne4_oa))).other W45 (Or.inl (Ne.symm ne4_oa))).other W50 (Or.inl (Ne.symm ne4_oa))).other W56 (Or.inl (Ne.symm ne4_oa))).other W62 (Or.inl (Ne.symm ne4_oa)))
  have f84 : Fld Z h62 b4 "java/util/BitSet" "sizeIsSticky" "Z" (.int (0 : Int32)) := (((((((((((Fy_10.other W13 (Or.inl (Ne.symm ne4_oa))).other W16 (Or.inl (Ne.symm ne4_oa))).ext E19).keep Kc27 (ninS ne19_b4 nin0)).other W32 (Or.inl (Ne.symm ne4_oa))).other W35 (Or.inl (Ne.symm ne4_oa))).other W41 (Or.inl (Ne.symm ne4_oa))).other W45 (Or.inl (Ne.symm ne4_oa))).other W50 (Or.inl (Ne.symm ne4_oa))).other W56 (Or.inl (Ne.symm ne4_oa))).other W62 (Or.inl (Ne.symm ne4_oa)))
  have f85 : Fld Z h62 b4 "java/util/BitSet" "words" "[J" (.ref ow10) := (((((((((((Fw_10.other W13 (Or.inl (Ne.symm ne4_oa))).other W16 (Or.inl (Ne.symm ne4_oa))).ext E19).keep Kc27 (ninS ne19_b4 nin0)).other W32 (Or.inl (Ne.symm ne4_oa))).other W35 (Or.inl (Ne.symm ne4_oa))).other W41 (Or.inl (Ne.symm ne4_oa))).other W45 (Or.inl (Ne.symm ne4_oa))).other W50 (Or.inl (Ne.symm ne4_oa))).other W56 (Or.inl (Ne.symm ne4_oa))).other W62 (Or.inl (Ne.symm ne4_oa)))
  have f86 : Arv Z h62 ow10 kw10 .long (1 : Int32) [(.long (0 : Int64))] (.long (0 : Int64)) := ((((((((f31.keep Kc27 (ninS ne19_ow10 nin0)).other W32 (Ne.symm ne_oa_ow10)).other W35 (Ne.symm ne_oa_ow10)).other W41 (Ne.symm ne_oa_ow10)).other W45 (Ne.symm ne_oa_ow10)).other W50 (Ne.symm ne_oa_ow10)).other W56 (Ne.symm ne_oa_ow10)).other W62 (Ne.symm ne_oa_ow10))
  have f87 : Fld Z h62 oa "evenkeel/client/Window" "left" "Ljava/util/BitSet;" (.ref b19) := ((((((f32w.other W35 (Or.inr (slot_ne (Or.inr (hw _ (List.mem_of_getElem? (i := 131) rfl))) (Or.inr (hw _ (List.mem_of_getElem? (i := 133) rfl))) (by decide) (t := (.object "java/util/BitSet")) (t' := .int) (by decide) (by decide)))).other W41 (Or.inr (slot_ne (Or.inr (hw _ (List.mem_of_getElem? (i := 131) rfl))) (Or.inl (hw _ (List.mem_of_getElem? (i := 140) rfl))) (by decide) (t := (.object "java/util/BitSet")) (t' := .long) (by decide) (by decide)))).other W45 (Or.inr (slot_ne (Or.inr (hw _ (List.mem_of_getElem? (i := 131) rfl))) (Or.inl (hw _ (List.mem_of_getElem? (i := 142) rfl))) (by decide) (t := (.object "java/util/BitSet")) (t' := .long) (by decide) (by decide)))).other W50 (Or.inr (slot_ne (Or.inr (hw _ (List.mem_of_getElem? (i := 131) rfl))) (Or.inl (hw _ (List.mem_of_getElem? (i := 144) rfl))) (by decide) (t := (.object "java/util/BitSet")) (t' := .long) (by decide) (by decide)))).other W56 (Or.inr (slot_ne (Or.inr (hw _ (List.mem_of_getElem? (i := 131) rfl))) (Or.inr (hw _ (List.mem_of_getElem? (i := 151) rfl))) (by decide) (t := (.object "java/util/BitSet")) (t' := (.object "java/util/List")) (by decide) (by decide)))).other W62 (Or.inr (slot_ne (Or.inr (hw _ (List.mem_of_getElem? (i := 131) rfl))) (Or.inl (hw _ (List.mem_of_getElem? (i := 158) rfl))) (by decide) (t := (.object "java/util/BitSet")) (t' := (.object "java/util/List")) (by decide) (by decide))))
  have f88 : Exa Z h62 b19 "java/util/BitSet" := ((((((((A19.keep Kc27).wr W32).wr W35).wr W41).wr W45).wr W50).wr W56).wr W62)
  have f89 : Fld Z h62 b19 "java/util/BitSet" "wordsInUse" "I" (.int (0 : Int32)) := (((((((Fu_27.other W32 (Or.inl (Ne.symm ne19_oa))).other W35 (Or.inl (Ne.symm ne19_oa))).other W41 (Or.inl (Ne.symm ne19_oa))).other W45 (Or.inl (Ne.symm ne19_oa))).other W50 (Or.inl (Ne.symm ne19_oa))).other W56 (Or.inl (Ne.symm ne19_oa))).other W62 (Or.inl (Ne.symm ne19_oa)))
  have f90 : Fld Z h62 b19 "java/util/BitSet" "sizeIsSticky" "Z" (.int (0 : Int32)) := (((((((Fy_27.other W32 (Or.inl (Ne.symm ne19_oa))).other W35 (Or.inl (Ne.symm ne19_oa))).other W41 (Or.inl (Ne.symm ne19_oa))).other W45 (Or.inl (Ne.symm ne19_oa))).other W50 (Or.inl (Ne.symm ne19_oa))).other W56 (Or.inl (Ne.symm ne19_oa))).other W62 (Or.inl (Ne.symm ne19_oa)))
  have f91 : Fld Z h62 b19 "java/util/BitSet" "words" "[J" (.ref ow27) := (((((((Fw_27.other W32 (Or.inl (Ne.symm ne19_oa))).other W35 (Or.inl (Ne.symm ne19_oa))).other W41 (Or.inl (Ne.symm ne19_oa))).other W45 (Or.inl (Ne.symm ne19_oa))).other W50 (Or.inl (Ne.symm ne19_oa))).other W56 (Or.inl (Ne.symm ne19_oa))).other W62 (Or.inl (Ne.symm ne19_oa)))
  have f92 : Arv Z h62 ow27 kw27 .long (1 : Int32) [(.long (0 : Int64))] (.long (0 : Int64)) := (((((((Vw_27.other W32 (Ne.symm ne_oa_ow27)).other W35 (Ne.symm ne_oa_ow27)).other W41 (Ne.symm ne_oa_ow27)).other W45 (Ne.symm ne_oa_ow27)).other W50 (Ne.symm ne_oa_ow27)).other W56 (Ne.symm ne_oa_ow27)).other W62 (Ne.symm ne_oa_ow27))
  obtain ⟨fs, hr, hrun, hended, hW, hsame⟩ := X70.leave (v := none) (fun _ => rfl)
  refine ⟨_, _, hG _ (pre71 _ ?_), hrun, hended, _, _, rfl, ?_, ⟨_, rfl⟩, hW, hsame.mono (by decide) (by decide)⟩
  · show own_K p e below m T70 165 #[rv oa, iv xs, rv oc, .unset, .unset] [] _
    exact X70.returnOut hx Bd.returns (hb hby d12_165) hr
  · show Q12 Z oa xs oc u0 u1 u2 u3 u4 u5 u6 u7 u9 u11 qn el ea kE h0 n0 _ T70.heap _
    rw [eh70]
    exact ⟨b4, ow10, kw10, b19, ow27, kw27, rfl, N70, K62, f72, f73, f74, f75, f76, f77, f78, f79, f80, f62w, sz_b4, sz_ow10, f81, f82, f83, f84, f85, f86, sz_b19, sz_ow27, f87, f88, f89, f90, f91, f92, ne19_b4, ne_b4_ow27, ne19_ow10, ne_ow10_ow27, ne_b4_ow10, ne_b19_ow27⟩

theorem d22_0 : decode prog_141_method_6_code 0 = .ok (.aload_n 0, 1) := by decide +kernel
theorem d22_1 : decode prog_141_method_6_code 1 = .ok (.dup, 1) := by decide +kernel
theorem d22_2 : decode prog_141_method_6_code 2 = .ok (.getfield 51, 3) := by decide +kernel
theorem d22_5 : decode prog_141_method_6_code 5 = .ok (.dup2_x1, 1) := by decide +kernel
theorem d22_6 : decode prog_141_method_6_code 6 = .ok (.lconst 1, 1) := by decide +kernel
theorem d22_7 : decode prog_141_method_6_code 7 = .ok (.ladd, 1) := by decide +kernel
theorem d22_8 : decode prog_141_method_6_code 8 = .ok (.putfield 51, 3) := by decide +kernel
theorem d22_11 : decode prog_141_method_6_code 11 = .ok (.lstore_n 1, 1) := by decide +kernel
theorem d22_12 : decode prog_141_method_6_code 12 = .ok (.aload_n 0, 1) := by decide +kernel
theorem d22_13 : decode prog_141_method_6_code 13 = .ok (.getfield 130, 3) := by decide +kernel
theorem d22_16 : decode prog_141_method_6_code 16 = .ok (.aload_n 0, 1) := by decide +kernel
theorem d22_17 : decode prog_141_method_6_code 17 = .ok (.getfield 56, 3) := by decide +kernel
theorem d22_20 : decode prog_141_method_6_code 20 = .ok (.invokeinterface 133 1, 5) := by decide +kernel
theorem d22_25 : decode prog_141_method_6_code 25 = .ok (.if_icmp .ge 40, 3) := by decide +kernel
theorem d22_65 : decode prog_141_method_6_code 65 = .ok (.aload_n 0, 1) := by decide +kernel
theorem d22_66 : decode prog_141_method_6_code 66 = .ok (.getfield 130, 3) := by decide +kernel
theorem d22_69 : decode prog_141_method_6_code 69 = .ok (.aload_n 0, 1) := by decide +kernel
theorem d22_70 : decode prog_141_method_6_code 70 = .ok (.getfield 56, 3) := by decide +kernel
theorem d22_73 : decode prog_141_method_6_code 73 = .ok (.invokeinterface 133 1, 5) := by decide +kernel
theorem d22_78 : decode prog_141_method_6_code 78 = .ok (.if_icmp .ge 31, 3) := by decide +kernel
theorem d22_109 : decode prog_141_method_6_code 109 = .ok (.iconst 0, 1) := by decide +kernel
theorem d22_110 : decode prog_141_method_6_code 110 = .ok (.istore_n 3, 1) := by decide +kernel
theorem d22_111 : decode prog_141_method_6_code 111 = .ok (.iload_n 3, 1) := by decide +kernel
theorem d22_112 : decode prog_141_method_6_code 112 = .ok (.ifCond .eq 9, 3) := by decide +kernel
theorem d22_121 : decode prog_141_method_6_code 121 = .ok (.iload_n 3, 1) := by decide +kernel
theorem d22_122 : decode prog_141_method_6_code 122 = .ok (.ifCond .ne 7, 3) := by decide +kernel
theorem d22_125 : decode prog_141_method_6_code 125 = .ok (.iconst 1, 1) := by decide +kernel
theorem d22_126 : decode prog_141_method_6_code 126 = .ok (.goto 4, 3) := by decide +kernel
theorem d22_130 : decode prog_141_method_6_code 130 = .ok (.ireturn, 1) := by decide +kernel
theorem ef_22 (m : MethodId) (x0 : Addr) : entryFrame m #[(.ref x0)] 4 = mkF m 0 #[rv x0, .unset, .unset, .unset] [] := by first | (simp [entryFrame, mkF, argsToLocals, Value.category]; done) | rfl
def Q22 (Z : State) (oa : Addr) (qn : Int64) (el : Addr) (ea : Addr) (kE : ClassId) (uf_oa_size : Value) (uf_oa_committed : Value) (uf_oa_committedAhead : Value) (uf_oa_unfinished : Value) (uf_oa_finished : Value) (uf_oa_restart : Value) (uf_oa_left : Value) (uf_oa_failing : Value) (uf_oa_committedFailures : Value) (h0 : Heap) (n0 : Nat) (rv_ : Option Value) (h_ : Heap) (L_ : List Loc) : Prop := rv_ = some (.int (1 : Int32)) ∧ Fr n0 L_ ∧ Keep h0 h_ [oa] ∧ Fld Z h_ oa "evenkeel/client/Window" "next" "J" (.long (qn + (1 : Int64))) ∧ Fld Z h_ oa "evenkeel/client/Window" "size" "I" uf_oa_size ∧ Fld Z h_ oa "evenkeel/client/Window" "committed" "J" uf_oa_committed ∧ Fld Z h_ oa "evenkeel/client/Window" "committedAhead" "Ljava/util/List;" uf_oa_committedAhead ∧ Fld Z h_ oa "evenkeel/client/Window" "unfinished" "J" uf_oa_unfinished ∧ Fld Z h_ oa "evenkeel/client/Window" "finished" "Ljava/util/BitSet;" uf_oa_finished ∧ Fld Z h_ oa "evenkeel/client/Window" "restart" "J" uf_oa_restart ∧ Fld Z h_ oa "evenkeel/client/Window" "consumed" "Ljava/util/List;" (.ref el) ∧ Fld Z h_ oa "evenkeel/client/Window" "consumedAt" "I" (.int (0 : Int32)) ∧ Fld Z h_ oa "evenkeel/client/Window" "left" "Ljava/util/BitSet;" uf_oa_left ∧ Fld Z h_ oa "evenkeel/client/Window" "failing" "Ljava/util/TreeMap;" uf_oa_failing ∧ Fld Z h_ oa "evenkeel/client/Window" "committedFailures" "Ljava/util/List;" uf_oa_committedFailures
set_option maxRecDepth 65536 in
set_option maxHeartbeats 40000000 in
theorem rm22 (l : Launch) (Z : State) (a0 : Array Value) (hw : ∀ d ∈ tables_1, d.before a0 Z = true) (ws : List Jvm.Cond) (oa : Addr) (qn : Int64) (el : Addr) (ea : Addr) (kE : ClassId) (uf_oa_size : Value) (uf_oa_committed : Value) (uf_oa_committedAhead : Value) (uf_oa_unfinished : Value) (uf_oa_finished : Value) (uf_oa_restart : Value) (uf_oa_left : Value) (uf_oa_failing : Value) (uf_oa_committedFailures : Value) (h0 : Heap) (n0 : Nat) (Z0 : n0 ≤ h0.size) (E_ : Exa Z h0 oa "evenkeel/client/Window") (Fn : Fld Z h0 oa "evenkeel/client/Window" "next" "J" (.long qn)) (Fc : Fld Z h0 oa "evenkeel/client/Window" "consumedAt" "I" (.int (0 : Int32))) (Fl : Fld Z h0 oa "evenkeel/client/Window" "consumed" "Ljava/util/List;" (.ref el)) (g_ : n0 ≤ oa) (O_ : Old Z n0 h0) (P_ : own_P Z el ea kE) (F_oa_size : Fld Z h0 oa "evenkeel/client/Window" "size" "I" uf_oa_size) (F_oa_committed : Fld Z h0 oa "evenkeel/client/Window" "committed" "J" uf_oa_committed) (F_oa_committedAhead : Fld Z h0 oa "evenkeel/client/Window" "committedAhead" "Ljava/util/List;" uf_oa_committedAhead) (F_oa_unfinished : Fld Z h0 oa "evenkeel/client/Window" "unfinished" "J" uf_oa_unfinished) (F_oa_finished : Fld Z h0 oa "evenkeel/client/Window" "finished" "Ljava/util/BitSet;" uf_oa_finished) (F_oa_restart : Fld Z h0 oa "evenkeel/client/Window" "restart" "J" uf_oa_restart) (F_oa_left : Fld Z h0 oa "evenkeel/client/Window" "left" "Ljava/util/BitSet;" uf_oa_left) (F_oa_failing : Fld Z h0 oa "evenkeel/client/Window" "failing" "Ljava/util/TreeMap;" uf_oa_failing) (F_oa_committedFailures : Fld Z h0 oa "evenkeel/client/Window" "committedFailures" "Ljava/util/List;" uf_oa_committedFailures) :
    MetFree l (⟨"evenkeel/client/Window", "take", "()Z"⟩ : MethodName) (head1 (Jvm.Cond.code (⟨"evenkeel/client/Window", "take", "()Z"⟩ : MethodName) prog_141_method_6_code 4 (some .boolean) :: ws) ({ frames := 1, cells := 0, slots := 0, locals := 13 } : Room)) (fun a U => a = #[(.ref oa)] ∧ Z.Warmed39 U.vm ∧ U.heap = h0) (fun _ _ _ _ _ => True) (fun _ U o U' => ∃ v L, o = .returned v ∧ Q22 Z oa qn el ea kE uf_oa_size uf_oa_committed uf_oa_committedAhead uf_oa_unfinished uf_oa_finished uf_oa_restart uf_oa_left uf_oa_failing uf_oa_committedFailures h0 n0 v U'.heap L ∧ FrameEnd U o U' L ({ frames := 1, cells := 0, slots := 0, locals := 13 } : Room).cells ({ frames := 1, cells := 0, slots := 0, locals := 13 } : Room).slots) := by
  refine MetFree.of_bodySF (plainFor_of_name pn_8) hisR ?_
  intro p e s m args below meth c s₁ Bd hml0 hP hK
  obtain ⟨rfl, hZ, hh⟩ := hP
  have hx := Bd.exec
  have hby := Bd.bytes
  have hml : c.maxLocals = 4 := hml0
  have hown : s.vm.findClass "evenkeel/client/Window" = some m.cls := findClass_of_methodNamed Bd.named
  have hnm := (name_of_methodNamed Bd.named Bd.method).1
  have X0 : Stand p l e ({ frames := 1, cells := 0, slots := 0, locals := 13 } : Room) s m #[(.ref oa)] below meth c s₁ [] 0 0 := Stand.of_body Bd
  have e0 : s₁.heap = h0 := by rw [← hh, Bd.state]; rfl
  have N0 := Fr.nil n0
  obtain ⟨G, hG, pre0⟩ : ∃ G : State → Prop, (∀ t, G t → Steps p.tables e below (s₁.setTop (entryFrame m #[(.ref oa)] 4)) t) ∧ ∀ t, own_K p e below m s₁ 0 #[rv oa, .unset, .unset, .unset] [] t → G t := ⟨fun t => Steps p.tables e below (s₁.setTop (entryFrame m #[(.ref oa)] 4)) t, fun _ k => k, fun t k => castTop (ef_22 m oa) k⟩
  obtain ⟨T1, X1, e1, st1⟩ := getF X0 hx hZ hown (host := "") (Or.inl (hw _ (List.mem_of_getElem? (i := 143) rfl))) Via.refl e0 Fn (g := (mkF m 2 #[rv oa, .unset, .unset, .unset] [(.ref oa), (.ref oa)])) rfl rfl (hb hby d22_2)
  obtain ⟨T2, h2, X2, e2, W2, st2⟩ := putF X1 hx hZ hown (host := "") (Or.inl (hw _ (List.mem_of_getElem? (i := 143) rfl))) Via.refl e1 Fn E_ (Or.inl (hw _ (List.mem_of_getElem? (i := 144) rfl))) (hw _ (List.mem_of_getElem? (i := 2) rfl)) (ty := .long) (by decide) rfl rfl (g := (mkF m 8 #[rv oa, .unset, .unset, .unset] [(.long (qn + (1 : Int64))), (.ref oa), (.long qn)])) rfl rfl (hb hby d22_8)
  have f2w := Fn.same W2
  have K2 : Keep h0 h2 [oa] := (Keep.refl h0 [oa]).wr W2 (Or.inl (List.mem_of_getElem? (i := 0) rfl))
  have N2 := Fr.snoc X2 N0 g_
  have sz2 : n0 ≤ h2.size := Nat.le_trans Z0 (Keep.of_wr W2).1
  have f4 : Fld Z h2 oa "evenkeel/client/Window" "consumedAt" "I" (.int (0 : Int32)) := (Fc.other W2 (Or.inr (slot_ne (Or.inl (hw _ (List.mem_of_getElem? (i := 182) rfl))) (Or.inl (hw _ (List.mem_of_getElem? (i := 144) rfl))) (by decide) (t := .int) (t' := .long) (by decide) (by decide))))
  obtain ⟨T3, X3, e3, st3⟩ := getF X2 hx hZ hown (host := "") (Or.inl (hw _ (List.mem_of_getElem? (i := 181) rfl))) Via.refl e2 f4 (g := (mkF m 13 #[rv oa, lv qn, .second, .unset] [(.ref oa)])) rfl rfl (hb hby d22_13)
  have f6 : Fld Z h2 oa "evenkeel/client/Window" "consumed" "Ljava/util/List;" (.ref el) := (Fl.other W2 (Or.inr (slot_ne (Or.inr (hw _ (List.mem_of_getElem? (i := 151) rfl))) (Or.inl (hw _ (List.mem_of_getElem? (i := 144) rfl))) (by decide) (t := (.object "java/util/List")) (t' := .long) (by decide) (by decide))))
  obtain ⟨T5, X5, e5, st5⟩ := getF X3 hx hZ hown (host := "") (Or.inl (hw _ (List.mem_of_getElem? (i := 150) rfl))) Via.refl e3 f6 (g := (mkF m 17 #[rv oa, lv qn, .second, .unset] [(.ref oa), (.int (0 : Int32))])) rfl rfl (hb hby d22_17)
  have pre7 : ∀ t, own_K p e below m T5 20 #[rv oa, lv qn, .second, .unset] [(.ref el), (.int (0 : Int32))] t → G t := by
    intro t k
    refine pre0 t ?_
    show own_K p e below m s₁ 0 #[rv oa, .unset, .unset, .unset] [] _
    refine XS.aloadN X0.here hx rfl (hb hby d22_0) rfl rfl ?_
    show own_K p e below m s₁ 1 #[rv oa, .unset, .unset, .unset] [(.ref oa)] _
    refine XS.dup X0.here hx rfl (hb hby d22_1) rfl rfl ?_
    show own_K p e below m s₁ 2 #[rv oa, .unset, .unset, .unset] [(.ref oa), (.ref oa)] _
    refine st1 _ ?_
    show own_K p e below m T1 5 #[rv oa, .unset, .unset, .unset] [(.long qn), (.ref oa)] _
    jvm_step X1.here [X1.here.top, hx, (hb hby d22_5), Value.category]
    show own_K p e below m T1 6 #[rv oa, .unset, .unset, .unset] [(.long qn), (.ref oa), (.long qn)] _
    refine XS.lconst X1.here hx rfl (hb hby d22_6) ?_
    show own_K p e below m T1 7 #[rv oa, .unset, .unset, .unset] [(.long (1 : Int64)), (.long qn), (.ref oa), (.long qn)] _
    refine XS.ladd X1.here hx rfl (hb hby d22_7) rfl ?_
    show own_K p e below m T1 8 #[rv oa, .unset, .unset, .unset] [(.long (qn + (1 : Int64))), (.ref oa), (.long qn)] _
    refine st2 _ ?_
    show own_K p e below m T2 11 #[rv oa, .unset, .unset, .unset] [(.long qn)] _
    refine XS.lstoreN X2.here hx rfl (hb hby d22_11) rfl (l' := #[rv oa, lv qn, .second, .unset]) rfl ?_
    show own_K p e below m T2 12 #[rv oa, lv qn, .second, .unset] [] _
    refine XS.aloadN X2.here hx rfl (hb hby d22_12) rfl rfl ?_
    show own_K p e below m T2 13 #[rv oa, lv qn, .second, .unset] [(.ref oa)] _
    refine st3 _ ?_
    show own_K p e below m T3 16 #[rv oa, lv qn, .second, .unset] [(.int (0 : Int32))] _
    refine XS.aloadN X3.here hx rfl (hb hby d22_16) rfl rfl ?_
    show own_K p e below m T3 17 #[rv oa, lv qn, .second, .unset] [(.ref oa), (.int (0 : Int32))] _
    refine st5 _ ?_
    exact k
  have f8 : Old Z n0 h2 := (O_.wr W2 g_)
  obtain ⟨cq9, kq9, q9a, q9b, q9c⟩ := isOf hZ e5 (Exa.ext f8.2 P_.2.1)
  obtain ⟨_, _, ⟨T9, L9, k9, n9⟩, -, X9, ⟨Lc9, hQ9, l9, y9, z9⟩, st9⟩ := X5.interfaceBack hx (xi := (⟨"java/util/List", "size", "()I"⟩ : MethodName)) (y := (⟨"java/util/ImmutableCollections$ListN", "size", "()I"⟩ : MethodName)) hown (mvT hZ (hw _ (List.mem_of_getElem? (i := 183) rfl))) (mvT hZ (hw _ (List.mem_of_getElem? (i := 184) rfl))) (mvT hZ (hw _ (List.mem_of_getElem? (i := 185) rfl))) (mvT hZ (hw _ (List.mem_of_getElem? (i := 186) rfl))) (mvT hZ (hw _ (List.mem_of_getElem? (i := 61) rfl))) (mvT hZ (hw _ (List.mem_of_getElem? (i := 187) rfl))) (mvT hZ (hw _ (List.mem_of_getElem? (i := 188) rfl))) (mvT hZ (hw _ (List.mem_of_getElem? (i := 44) rfl))) (by decide) (backOf (W := 1) (rm9 l Z a0 hw [] el ea kE (0 : Int32) [] .null h2 n0 sz2 (Fld.ext f8.2 P_.2.2.1) (P_.2.2.2.1.ext f8.2)) hZ (hw _ (List.mem_of_getElem? (i := 63) rfl)) (hw _ (List.mem_of_getElem? (i := 62) rfl)) (by decide) (by decide)) q9a q9b q9c (g := (mkF m 20 #[rv oa, lv qn, .second, .unset] [(.ref el), (.int (0 : Int32))])) rfl (by rw [hml]; rfl) (Steps.refl _) (argsL := []) (rest := [(.int (0 : Int32))]) (lenOf pd_1 rfl) rfl (by show 2 * 0 + _ ≤ _; exact Nat.le_of_eq rfl) (hb hby d22_20) (fun _ _ => ⟨rfl, e5, (by decide : 0 + 0 ≤ _), (by decide : 0 + 0 ≤ _)⟩)
  dsimp only [Pt.U, Pt.locs, Pt.cells, Pt.slots] at X9 l9 y9 z9 st9 hQ9
  subst l9 y9 z9
  obtain ⟨rfl, Nq9, eh9⟩ := hQ9
  have N9 := Fr.app N2 Nq9
  obtain ⟨T10, X10, e10, st10⟩ := getF X9 hx hZ hown (host := "") (Or.inl (hw _ (List.mem_of_getElem? (i := 181) rfl))) Via.refl eh9 f4 (g := (mkF m 66 #[rv oa, lv qn, .second, .unset] [(.ref oa)])) rfl rfl (hb hby d22_66)
  obtain ⟨T11, X11, e11, st11⟩ := getF X10 hx hZ hown (host := "") (Or.inl (hw _ (List.mem_of_getElem? (i := 150) rfl))) Via.refl e10 f6 (g := (mkF m 70 #[rv oa, lv qn, .second, .unset] [(.ref oa), (.int (0 : Int32))])) rfl rfl (hb hby d22_70)
  have pre12 : ∀ t, own_K p e below m T11 73 #[rv oa, lv qn, .second, .unset] [(.ref el), (.int (0 : Int32))] t → G t := by
    intro t k
    refine pre7 t ?_
    show own_K p e below m T5 20 #[rv oa, lv qn, .second, .unset] [(.ref el), (.int (0 : Int32))] _
    refine st9.trans ?_
    show own_K p e below m T9 25 #[rv oa, lv qn, .second, .unset] [(.int (0 : Int32)), (.int (0 : Int32))] _
    refine XS.icmpYes X9.here hx rfl (pc0 := 25) (pc' := 65) rfl (hb hby d22_25) rfl (flt (by decide : ¬ ((0 : Int32) < (0 : Int32)))).2.1 (by decide) (by decide) ?_
    show own_K p e below m T9 65 #[rv oa, lv qn, .second, .unset] [] _
    refine XS.aloadN X9.here hx rfl (hb hby d22_65) rfl rfl ?_
    show own_K p e below m T9 66 #[rv oa, lv qn, .second, .unset] [(.ref oa)] _
    refine st10 _ ?_
    show own_K p e below m T10 69 #[rv oa, lv qn, .second, .unset] [(.int (0 : Int32))] _
    refine XS.aloadN X10.here hx rfl (hb hby d22_69) rfl rfl ?_
    show own_K p e below m T10 70 #[rv oa, lv qn, .second, .unset] [(.ref oa), (.int (0 : Int32))] _
    refine st11 _ ?_
    exact k
  obtain ⟨cq13, kq13, q13a, q13b, q13c⟩ := isOf hZ e11 (Exa.ext f8.2 P_.2.1)
  obtain ⟨_, _, ⟨T13, L13, k13, n13⟩, -, X13, ⟨Lc13, hQ13, l13, y13, z13⟩, st13⟩ := X11.interfaceBack hx (xi := (⟨"java/util/List", "size", "()I"⟩ : MethodName)) (y := (⟨"java/util/ImmutableCollections$ListN", "size", "()I"⟩ : MethodName)) hown (mvT hZ (hw _ (List.mem_of_getElem? (i := 183) rfl))) (mvT hZ (hw _ (List.mem_of_getElem? (i := 184) rfl))) (mvT hZ (hw _ (List.mem_of_getElem? (i := 185) rfl))) (mvT hZ (hw _ (List.mem_of_getElem? (i := 186) rfl))) (mvT hZ (hw _ (List.mem_of_getElem? (i := 61) rfl))) (mvT hZ (hw _ (List.mem_of_getElem? (i := 187) rfl))) (mvT hZ (hw _ (List.mem_of_getElem? (i := 188) rfl))) (mvT hZ (hw _ (List.mem_of_getElem? (i := 44) rfl))) (by decide) (backOf (W := 1) (rm9 l Z a0 hw [] el ea kE (0 : Int32) [] .null h2 n0 sz2 (Fld.ext f8.2 P_.2.2.1) (P_.2.2.2.1.ext f8.2)) hZ (hw _ (List.mem_of_getElem? (i := 63) rfl)) (hw _ (List.mem_of_getElem? (i := 62) rfl)) (by decide) (by decide)) q13a q13b q13c (g := (mkF m 73 #[rv oa, lv qn, .second, .unset] [(.ref el), (.int (0 : Int32))])) rfl (by rw [hml]; rfl) (Steps.refl _) (argsL := []) (rest := [(.int (0 : Int32))]) (lenOf pd_1 rfl) rfl (by show 2 * 0 + _ ≤ _; exact Nat.le_of_eq rfl) (hb hby d22_73) (fun _ _ => ⟨rfl, e11, (by decide : 0 + 0 ≤ _), (by decide : 0 + 0 ≤ _)⟩)
  dsimp only [Pt.U, Pt.locs, Pt.cells, Pt.slots] at X13 l13 y13 z13 st13 hQ13
  subst l13 y13 z13
  obtain ⟨rfl, Nq13, eh13⟩ := hQ13
  have N13 := Fr.app N9 Nq13
  have pre14 : ∀ t, own_K p e below m T13 130 #[rv oa, lv qn, .second, iv (0 : Int32)] [(.int (1 : Int32))] t → G t := by
    intro t k
    refine pre12 t ?_
    show own_K p e below m T11 73 #[rv oa, lv qn, .second, .unset] [(.ref el), (.int (0 : Int32))] _
    refine st13.trans ?_
    show own_K p e below m T13 78 #[rv oa, lv qn, .second, .unset] [(.int (0 : Int32)), (.int (0 : Int32))] _
    refine XS.icmpYes X13.here hx rfl (pc0 := 78) (pc' := 109) rfl (hb hby d22_78) rfl (flt (by decide : ¬ ((0 : Int32) < (0 : Int32)))).2.1 (by decide) (by decide) ?_
    show own_K p e below m T13 109 #[rv oa, lv qn, .second, .unset] [] _
    refine XS.iconst X13.here hx rfl (hb hby d22_109) ?_
    show own_K p e below m T13 110 #[rv oa, lv qn, .second, .unset] [(.int (0 : Int32))] _
    refine XS.istoreN X13.here hx rfl (hb hby d22_110) rfl (l' := #[rv oa, lv qn, .second, iv (0 : Int32)]) rfl ?_
    show own_K p e below m T13 111 #[rv oa, lv qn, .second, iv (0 : Int32)] [] _
    refine XS.iloadN X13.here hx rfl (hb hby d22_111) rfl ?_
    show own_K p e below m T13 112 #[rv oa, lv qn, .second, iv (0 : Int32)] [(.int (0 : Int32))] _
    refine XS.ifYes X13.here hx rfl (pc0 := 112) (pc' := 121) rfl (hb hby d22_112) rfl ((if0 _ _).trans (teq (by decide : (0 : Int32) = (0 : Int32))).1) (by decide) (by decide) ?_
    show own_K p e below m T13 121 #[rv oa, lv qn, .second, iv (0 : Int32)] [] _
    refine XS.iloadN X13.here hx rfl (hb hby d22_121) rfl ?_
    show own_K p e below m T13 122 #[rv oa, lv qn, .second, iv (0 : Int32)] [(.int (0 : Int32))] _
    refine XS.ifNo X13.here hx rfl (hb hby d22_122) rfl ((if0 _ _).trans (teq (by decide : (0 : Int32) = (0 : Int32))).2) ?_
    show own_K p e below m T13 125 #[rv oa, lv qn, .second, iv (0 : Int32)] [] _
    refine XS.iconst X13.here hx rfl (hb hby d22_125) ?_
    show own_K p e below m T13 126 #[rv oa, lv qn, .second, iv (0 : Int32)] [(.int (1 : Int32))] _
    refine XS.goto X13.here hx rfl (pc0 := 126) (pc' := 130) rfl (hb hby d22_126) (by decide) (by decide) ?_
    exact k
  have f15 : Fld Z h2 oa "evenkeel/client/Window" "size" "I" uf_oa_size := (F_oa_size.other W2 (Or.inr (slot_ne (Or.inr (hw _ (List.mem_of_getElem? (i := 133) rfl))) (Or.inl (hw _ (List.mem_of_getElem? (i := 144) rfl))) (by decide) (t := .int) (t' := .long) (by decide) (by decide))))
  have f16 : Fld Z h2 oa "evenkeel/client/Window" "committed" "J" uf_oa_committed := (F_oa_committed.other W2 (Or.inr (slot_ne (Or.inl (hw _ (List.mem_of_getElem? (i := 140) rfl))) (Or.inl (hw _ (List.mem_of_getElem? (i := 144) rfl))) (by decide) (t := .long) (t' := .long) (by decide) (by decide))))
  have f17 : Fld Z h2 oa "evenkeel/client/Window" "committedAhead" "Ljava/util/List;" uf_oa_committedAhead := (F_oa_committedAhead.other W2 (Or.inr (slot_ne (Or.inl (hw _ (List.mem_of_getElem? (i := 102) rfl))) (Or.inl (hw _ (List.mem_of_getElem? (i := 144) rfl))) (by decide) (t := (.object "java/util/List")) (t' := .long) (by decide) (by decide))))
  have f18 : Fld Z h2 oa "evenkeel/client/Window" "unfinished" "J" uf_oa_unfinished := (F_oa_unfinished.other W2 (Or.inr (slot_ne (Or.inl (hw _ (List.mem_of_getElem? (i := 142) rfl))) (Or.inl (hw _ (List.mem_of_getElem? (i := 144) rfl))) (by decide) (t := .long) (t' := .long) (by decide) (by decide))))
  have f19 : Fld Z h2 oa "evenkeel/client/Window" "finished" "Ljava/util/BitSet;" uf_oa_finished := (F_oa_finished.other W2 (Or.inr (slot_ne (Or.inr (hw _ (List.mem_of_getElem? (i := 126) rfl))) (Or.inl (hw _ (List.mem_of_getElem? (i := 144) rfl))) (by decide) (t := (.object "java/util/BitSet")) (t' := .long) (by decide) (by decide))))
  have f20 : Fld Z h2 oa "evenkeel/client/Window" "restart" "J" uf_oa_restart := (F_oa_restart.other W2 (Or.inr (slot_ne (Or.inl (hw _ (List.mem_of_getElem? (i := 129) rfl))) (Or.inl (hw _ (List.mem_of_getElem? (i := 144) rfl))) (by decide) (t := .long) (t' := .long) (by decide) (by decide))))
  have f21 : Fld Z h2 oa "evenkeel/client/Window" "left" "Ljava/util/BitSet;" uf_oa_left := (F_oa_left.other W2 (Or.inr (slot_ne (Or.inr (hw _ (List.mem_of_getElem? (i := 131) rfl))) (Or.inl (hw _ (List.mem_of_getElem? (i := 144) rfl))) (by decide) (t := (.object "java/util/BitSet")) (t' := .long) (by decide) (by decide))))
  have f22 : Fld Z h2 oa "evenkeel/client/Window" "failing" "Ljava/util/TreeMap;" uf_oa_failing := (F_oa_failing.other W2 (Or.inr (slot_ne (Or.inl (hw _ (List.mem_of_getElem? (i := 260) rfl))) (Or.inl (hw _ (List.mem_of_getElem? (i := 144) rfl))) (by decide) (t := (.object "java/util/TreeMap")) (t' := .long) (by decide) (by decide))))
  have f23 : Fld Z h2 oa "evenkeel/client/Window" "committedFailures" "Ljava/util/List;" uf_oa_committedFailures := (F_oa_committedFailures.other W2 (Or.inr (slot_ne (Or.inl (hw _ (List.mem_of_getElem? (i := 158) rfl))) (Or.inl (hw _ (List.mem_of_getElem? (i := 144) rfl))) (by decide) (t := (.object "java/util/List")) (t' := .long) (by decide) (by decide))))
  obtain ⟨fs, hr, hrun, hended, hW, hsame⟩ := X13.leave (v := some (.int (1 : Int32))) (fun h => by rw [Bd.returns] at h; cases h)
  refine ⟨_, _, hG _ (pre14 _ ?_), hrun, hended, _, _, rfl, ?_, ⟨_, rfl⟩, hW, hsame.mono (by decide) (by decide)⟩
  · show own_K p e below m T13 130 #[rv oa, lv qn, .second, iv (0 : Int32)] [(.int (1 : Int32))] _
    exact retN X13 hx (t := .boolean) Bd.returns (by simp) (hb hby d22_130) hr
  · show Q22 Z oa qn el ea kE uf_oa_size uf_oa_committed uf_oa_committedAhead uf_oa_unfinished uf_oa_finished uf_oa_restart uf_oa_left uf_oa_failing uf_oa_committedFailures h0 n0 _ T13.heap _
    rw [eh13]
    exact ⟨rfl, N13, K2, f2w, f15, f16, f17, f18, f19, f20, f6, f4, f21, f22, f23⟩

theorem d29_0 : decode jdk_29_method_66_code 0 = .ok (.lload_n 0, 1) := by decide +kernel
theorem d29_1 : decode jdk_29_method_66_code 1 = .ok (.lload_n 2, 1) := by decide +kernel
theorem d29_2 : decode jdk_29_method_66_code 2 = .ok (.lcmp, 1) := by decide +kernel
theorem d29_3 : decode jdk_29_method_66_code 3 = .ok (.ifCond .lt 7, 3) := by decide +kernel
theorem d29_10 : decode jdk_29_method_66_code 10 = .ok (.lload_n 2, 1) := by decide +kernel
theorem d29_11 : decode jdk_29_method_66_code 11 = .ok (.lreturn, 1) := by decide +kernel
theorem d29_6 : decode jdk_29_method_66_code 6 = .ok (.lload_n 0, 1) := by decide +kernel
theorem d29_7 : decode jdk_29_method_66_code 7 = .ok (.goto 4, 3) := by decide +kernel
theorem ef_29 (m : MethodId) (x0 : Int64) (x1 : Int64) : entryFrame m #[(.long x0), (.long x1)] 4 = mkF m 0 #[lv x0, .second, lv x1, .second] [] := by first | (simp [entryFrame, mkF, argsToLocals, Value.category]; done) | rfl
def Q29 (Z : State) (xa : Int64) (xb : Int64) (h0 : Heap) (n0 : Nat) (rv_ : Option Value) (h_ : Heap) (L_ : List Loc) : Prop := rv_ = some (.long (if xa < xb then xb else xa)) ∧ Fr n0 L_ ∧ h_ = h0
set_option maxRecDepth 65536 in
set_option maxHeartbeats 40000000 in
theorem rm29 (l : Launch) (Z : State) (a0 : Array Value) (hw : ∀ d ∈ tables_1, d.before a0 Z = true) (ws : List Jvm.Cond) (xa : Int64) (xb : Int64) (h0 : Heap) (n0 : Nat) (Z0 : n0 ≤ h0.size) :
    MetFree l (⟨"java/lang/Math", "max", "(JJ)J"⟩ : MethodName) (head1 (Jvm.Cond.code (⟨"java/lang/Math", "max", "(JJ)J"⟩ : MethodName) jdk_29_method_66_code 4 (some .long) :: ws) ({ frames := 0, cells := 0, slots := 0, locals := 0 } : Room)) (fun a U => a = #[(.long xa), (.long xb)] ∧ Z.Warmed39 U.vm ∧ U.heap = h0) (fun _ _ _ _ _ => True) (fun _ U o U' => ∃ v L, o = .returned v ∧ Q29 Z xa xb h0 n0 v U'.heap L ∧ FrameEnd U o U' L ({ frames := 0, cells := 0, slots := 0, locals := 0 } : Room).cells ({ frames := 0, cells := 0, slots := 0, locals := 0 } : Room).slots) := by
  refine MetFree.of_bodySF (Jvm.Free.JP.mathPlain rfl (by decide +kernel)) hisR ?_
  intro p e s m args below meth c s₁ Bd hml0 hP hK
  obtain ⟨rfl, hZ, hh⟩ := hP
  have hx := Bd.exec
  have hby := Bd.bytes
  have hml : c.maxLocals = 4 := hml0
  have hown : s.vm.findClass "java/lang/Math" = some m.cls := findClass_of_methodNamed Bd.named
  have hnm := (name_of_methodNamed Bd.named Bd.method).1
  have X0 : Stand p l e ({ frames := 0, cells := 0, slots := 0, locals := 0 } : Room) s m #[(.long xa), (.long xb)] below meth c s₁ [] 0 0 := Stand.of_body Bd
  have e0 : s₁.heap = h0 := by rw [← hh, Bd.state]; rfl
  have N0 := Fr.nil n0
  obtain ⟨G, hG, pre0⟩ : ∃ G : State → Prop, (∀ t, G t → Steps p.tables e below (s₁.setTop (entryFrame m #[(.long xa), (.long xb)] 4)) t) ∧ ∀ t, own_K p e below m s₁ 0 #[lv xa, .second, lv xb, .second] [] t → G t := ⟨fun t => Steps p.tables e below (s₁.setTop (entryFrame m #[(.long xa), (.long xb)] 4)) t, fun _ k => k, fun t k => castTop (ef_29 m xa xb) k⟩
  have pre1 : ∀ t, own_K p e below m s₁ 3 #[lv xa, .second, lv xb, .second] [(.int (lcmpW xa xb))] t → G t := by
    intro t k
    refine pre0 t ?_
    show own_K p e below m s₁ 0 #[lv xa, .second, lv xb, .second] [] _
    refine XS.lloadN X0.here hx rfl (hb hby d29_0) rfl ?_
    show own_K p e below m s₁ 1 #[lv xa, .second, lv xb, .second] [(.long xa)] _
    refine XS.lloadN X0.here hx rfl (hb hby d29_1) rfl ?_
    show own_K p e below m s₁ 2 #[lv xa, .second, lv xb, .second] [(.long xb), (.long xa)] _
    refine XS.lcmp X0.here hx rfl (hb hby d29_2) rfl ?_
    exact k
  by_cases hc3_2 : xa < xb
  · have pre3 : ∀ t, own_K p e below m s₁ 11 #[lv xa, .second, lv xb, .second] [(.long xb)] t → G t := by
      intro t k
      refine pre1 t ?_
      show own_K p e below m s₁ 3 #[lv xa, .second, lv xb, .second] [(.int (lcmpW xa xb))] _
      refine XS.ifYes X0.here hx rfl (pc0 := 3) (pc' := 10) rfl (hb hby d29_3) rfl ((if0 _ _).trans (tlt ((lw_lt _ _).mpr hc3_2)).1) (by decide) (by decide) ?_
      show own_K p e below m s₁ 10 #[lv xa, .second, lv xb, .second] [] _
      refine XS.lloadN X0.here hx rfl (hb hby d29_10) rfl ?_
      exact k
    obtain ⟨fs, hr, hrun, hended, hW, hsame⟩ := X0.leave (v := some (.long xb)) (fun h => by rw [Bd.returns] at h; cases h)
    refine ⟨_, _, hG _ (pre3 _ ?_), hrun, hended, _, _, rfl, ?_, ⟨_, rfl⟩, hW, hsame.mono (by decide) (by decide)⟩
    · show own_K p e below m s₁ 11 #[lv xa, .second, lv xb, .second] [(.long xb)] _
      exact retOut X0 hx Bd.returns rfl (Or.inr (Or.inl ⟨rfl, rfl, _, rfl⟩)) (hb hby d29_11) hr
    · show Q29 Z xa xb h0 n0 _ s₁.heap _
      rw [e0]
      exact ⟨(by simp only [if_pos hc3_2]), N0, rfl⟩
  · have pre4 : ∀ t, own_K p e below m s₁ 11 #[lv xa, .second, lv xb, .second] [(.long xa)] t → G t := by
      intro t k
      refine pre1 t ?_
      show own_K p e below m s₁ 3 #[lv xa, .second, lv xb, .second] [(.int (lcmpW xa xb))] _
      refine XS.ifNo X0.here hx rfl (hb hby d29_3) rfl ((if0 _ _).trans (flt (mt (lw_lt _ _).mp hc3_2)).1) ?_
      show own_K p e below m s₁ 6 #[lv xa, .second, lv xb, .second] [] _
      refine XS.lloadN X0.here hx rfl (hb hby d29_6) rfl ?_
      show own_K p e below m s₁ 7 #[lv xa, .second, lv xb, .second] [(.long xa)] _
      refine XS.goto X0.here hx rfl (pc0 := 7) (pc' := 11) rfl (hb hby d29_7) (by decide) (by decide) ?_
      exact k
    obtain ⟨fs, hr, hrun, hended, hW, hsame⟩ := X0.leave (v := some (.long xa)) (fun h => by rw [Bd.returns] at h; cases h)
    refine ⟨_, _, hG _ (pre4 _ ?_), hrun, hended, _, _, rfl, ?_, ⟨_, rfl⟩, hW, hsame.mono (by decide) (by decide)⟩
    · show own_K p e below m s₁ 11 #[lv xa, .second, lv xb, .second] [(.long xa)] _
      exact retOut X0 hx Bd.returns rfl (Or.inr (Or.inl ⟨rfl, rfl, _, rfl⟩)) (hb hby d29_11) hr
    · show Q29 Z xa xb h0 n0 _ s₁.heap _
      rw [e0]
      exact ⟨(by simp only [if_neg hc3_2]), N0, rfl⟩

theorem d28_0 : decode prog_141_method_20_code 0 = .ok (.aload_n 0, 1) := by decide +kernel
theorem d28_1 : decode prog_141_method_20_code 1 = .ok (.getfield 48, 3) := by decide +kernel
theorem d28_4 : decode prog_141_method_20_code 4 = .ok (.aload_n 0, 1) := by decide +kernel
theorem d28_5 : decode prog_141_method_20_code 5 = .ok (.getfield 51, 3) := by decide +kernel
theorem d28_8 : decode prog_141_method_20_code 8 = .ok (.lcmp, 1) := by decide +kernel
theorem d28_9 : decode prog_141_method_20_code 9 = .ok (.ifCond .ne 7, 3) := by decide +kernel
theorem d28_12 : decode prog_141_method_20_code 12 = .ok (.iconst 1, 1) := by decide +kernel
theorem d28_13 : decode prog_141_method_20_code 13 = .ok (.goto 4, 3) := by decide +kernel
theorem d28_17 : decode prog_141_method_20_code 17 = .ok (.ireturn, 1) := by decide +kernel
theorem d28_16 : decode prog_141_method_20_code 16 = .ok (.iconst 0, 1) := by decide +kernel
theorem ef_28 (m : MethodId) (x0 : Addr) : entryFrame m #[(.ref x0)] 1 = mkF m 0 #[rv x0] [] := by first | (simp [entryFrame, mkF, argsToLocals, Value.category]; done) | rfl
def Q28 (Z : State) (oa : Addr) (qu : Int64) (qn : Int64) (h0 : Heap) (n0 : Nat) (rv_ : Option Value) (h_ : Heap) (L_ : List Loc) : Prop := rv_ = some (.int (if qu = qn then (1 : Int32) else (0 : Int32))) ∧ Fr n0 L_ ∧ h_ = h0
set_option maxRecDepth 65536 in
set_option maxHeartbeats 40000000 in
theorem rm28 (l : Launch) (Z : State) (a0 : Array Value) (hw : ∀ d ∈ tables_1, d.before a0 Z = true) (ws : List Jvm.Cond) (oa : Addr) (qu : Int64) (qn : Int64) (h0 : Heap) (n0 : Nat) (Z0 : n0 ≤ h0.size) (Fu : Fld Z h0 oa "evenkeel/client/Window" "unfinished" "J" (.long qu)) (Fn : Fld Z h0 oa "evenkeel/client/Window" "next" "J" (.long qn)) :
    MetFree l (⟨"evenkeel/client/Window", "allFinished", "()Z"⟩ : MethodName) (head1 (Jvm.Cond.code (⟨"evenkeel/client/Window", "allFinished", "()Z"⟩ : MethodName) prog_141_method_20_code 1 (some .boolean) :: ws) ({ frames := 0, cells := 0, slots := 0, locals := 0 } : Room)) (fun a U => a = #[(.ref oa)] ∧ Z.Warmed39 U.vm ∧ U.heap = h0) (fun _ _ _ _ _ => True) (fun _ U o U' => ∃ v L, o = .returned v ∧ Q28 Z oa qu qn h0 n0 v U'.heap L ∧ FrameEnd U o U' L ({ frames := 0, cells := 0, slots := 0, locals := 0 } : Room).cells ({ frames := 0, cells := 0, slots := 0, locals := 0 } : Room).slots) := by
  refine MetFree.of_bodySF (plainFor_of_name pn_8) hisR ?_
  intro p e s m args below meth c s₁ Bd hml0 hP hK
  obtain ⟨rfl, hZ, hh⟩ := hP
  have hx := Bd.exec
  have hby := Bd.bytes
  have hml : c.maxLocals = 1 := hml0
  have hown : s.vm.findClass "evenkeel/client/Window" = some m.cls := findClass_of_methodNamed Bd.named
  have hnm := (name_of_methodNamed Bd.named Bd.method).1
  have X0 : Stand p l e ({ frames := 0, cells := 0, slots := 0, locals := 0 } : Room) s m #[(.ref oa)] below meth c s₁ [] 0 0 := Stand.of_body Bd
  have e0 : s₁.heap = h0 := by rw [← hh, Bd.state]; rfl
  have N0 := Fr.nil n0
  obtain ⟨G, hG, pre0⟩ : ∃ G : State → Prop, (∀ t, G t → Steps p.tables e below (s₁.setTop (entryFrame m #[(.ref oa)] 1)) t) ∧ ∀ t, own_K p e below m s₁ 0 #[rv oa] [] t → G t := ⟨fun t => Steps p.tables e below (s₁.setTop (entryFrame m #[(.ref oa)] 1)) t, fun _ k => k, fun t k => castTop (ef_28 m oa) k⟩
  obtain ⟨T1, X1, e1, st1⟩ := getF X0 hx hZ hown (host := "") (Or.inl (hw _ (List.mem_of_getElem? (i := 141) rfl))) Via.refl e0 Fu (g := (mkF m 1 #[rv oa] [(.ref oa)])) rfl rfl (hb hby d28_1)
  obtain ⟨T2, X2, e2, st2⟩ := getF X1 hx hZ hown (host := "") (Or.inl (hw _ (List.mem_of_getElem? (i := 143) rfl))) Via.refl e1 Fn (g := (mkF m 5 #[rv oa] [(.ref oa), (.long qu)])) rfl rfl (hb hby d28_5)
  have pre3 : ∀ t, own_K p e below m T2 9 #[rv oa] [(.int (lcmpW qu qn))] t → G t := by
    intro t k
    refine pre0 t ?_
    show own_K p e below m s₁ 0 #[rv oa] [] _
    refine XS.aloadN X0.here hx rfl (hb hby d28_0) rfl rfl ?_
    show own_K p e below m s₁ 1 #[rv oa] [(.ref oa)] _
    refine st1 _ ?_
    show own_K p e below m T1 4 #[rv oa] [(.long qu)] _
    refine XS.aloadN X1.here hx rfl (hb hby d28_4) rfl rfl ?_
    show own_K p e below m T1 5 #[rv oa] [(.ref oa), (.long qu)] _
    refine st2 _ ?_
    show own_K p e below m T2 8 #[rv oa] [(.long qn), (.long qu)] _
    refine XS.lcmp X2.here hx rfl (hb hby d28_8) rfl ?_
    exact k
  by_cases hc9_4 : qu = qn
  · have pre5 : ∀ t, own_K p e below m T2 17 #[rv oa] [(.int (1 : Int32))] t → G t := by
      intro t k
      refine pre3 t ?_
      show own_K p e below m T2 9 #[rv oa] [(.int (lcmpW qu qn))] _
      refine XS.ifNo X2.here hx rfl (hb hby d28_9) rfl ((if0 _ _).trans (teq ((lw_eq _ _).mpr hc9_4)).2) ?_
      show own_K p e below m T2 12 #[rv oa] [] _
      refine XS.iconst X2.here hx rfl (hb hby d28_12) ?_
      show own_K p e below m T2 13 #[rv oa] [(.int (1 : Int32))] _
      refine XS.goto X2.here hx rfl (pc0 := 13) (pc' := 17) rfl (hb hby d28_13) (by decide) (by decide) ?_
      exact k
    obtain ⟨fs, hr, hrun, hended, hW, hsame⟩ := X2.leave (v := some (.int (1 : Int32))) (fun h => by rw [Bd.returns] at h; cases h)
    refine ⟨_, _, hG _ (pre5 _ ?_), hrun, hended, _, _, rfl, ?_, ⟨_, rfl⟩, hW, hsame.mono (by decide) (by decide)⟩
    · show own_K p e below m T2 17 #[rv oa] [(.int (1 : Int32))] _
      exact retN X2 hx (t := .boolean) Bd.returns (by simp) (hb hby d28_17) hr
    · show Q28 Z oa qu qn h0 n0 _ T2.heap _
      rw [e2]
      exact ⟨(by simp only [if_pos hc9_4]), N0, rfl⟩
  · have pre6 : ∀ t, own_K p e below m T2 17 #[rv oa] [(.int (0 : Int32))] t → G t := by
      intro t k
      refine pre3 t ?_
      show own_K p e below m T2 9 #[rv oa] [(.int (lcmpW qu qn))] _
      refine XS.ifYes X2.here hx rfl (pc0 := 9) (pc' := 16) rfl (hb hby d28_9) rfl ((if0 _ _).trans (feq (mt (lw_eq _ _).mp hc9_4)).2) (by decide) (by decide) ?_
      show own_K p e below m T2 16 #[rv oa] [] _
      refine XS.iconst X2.here hx rfl (hb hby d28_16) ?_
      exact k
    obtain ⟨fs, hr, hrun, hended, hW, hsame⟩ := X2.leave (v := some (.int (0 : Int32))) (fun h => by rw [Bd.returns] at h; cases h)
    refine ⟨_, _, hG _ (pre6 _ ?_), hrun, hended, _, _, rfl, ?_, ⟨_, rfl⟩, hW, hsame.mono (by decide) (by decide)⟩
    · show own_K p e below m T2 17 #[rv oa] [(.int (0 : Int32))] _
      exact retN X2 hx (t := .boolean) Bd.returns (by simp) (hb hby d28_17) hr
    · show Q28 Z oa qu qn h0 n0 _ T2.heap _
      rw [e2]
      exact ⟨(by simp only [if_neg hc9_4]), N0, rfl⟩

theorem d27_0 : decode prog_141_method_5_code 0 = .ok (.aload_n 0, 1) := by decide +kernel
theorem d27_1 : decode prog_141_method_5_code 1 = .ok (.invokevirtual 112, 3) := by decide +kernel
theorem d27_4 : decode prog_141_method_5_code 4 = .ok (.ifCond .eq 50, 3) := by decide +kernel
theorem d27_7 : decode prog_141_method_5_code 7 = .ok (.aload_n 0, 1) := by decide +kernel
theorem d27_8 : decode prog_141_method_5_code 8 = .ok (.lload_n 1, 1) := by decide +kernel
theorem d27_9 : decode prog_141_method_5_code 9 = .ok (.putfield 45, 3) := by decide +kernel
theorem d27_12 : decode prog_141_method_5_code 12 = .ok (.aload_n 0, 1) := by decide +kernel
theorem d27_13 : decode prog_141_method_5_code 13 = .ok (.lload_n 1, 1) := by decide +kernel
theorem d27_14 : decode prog_141_method_5_code 14 = .ok (.putfield 48, 3) := by decide +kernel
theorem d27_17 : decode prog_141_method_5_code 17 = .ok (.aload_n 0, 1) := by decide +kernel
theorem d27_18 : decode prog_141_method_5_code 18 = .ok (.lload_n 1, 1) := by decide +kernel
theorem d27_19 : decode prog_141_method_5_code 19 = .ok (.putfield 51, 3) := by decide +kernel
theorem d27_22 : decode prog_141_method_5_code 22 = .ok (.aload_n 0, 1) := by decide +kernel
theorem d27_23 : decode prog_141_method_5_code 23 = .ok (.ldc2_w 26, 3) := by decide +kernel
theorem d27_26 : decode prog_141_method_5_code 26 = .ok (.putfield 28, 3) := by decide +kernel
theorem d27_29 : decode prog_141_method_5_code 29 = .ok (.aload_n 0, 1) := by decide +kernel
theorem d27_30 : decode prog_141_method_5_code 30 = .ok (.getfield 72, 3) := by decide +kernel
theorem d27_33 : decode prog_141_method_5_code 33 = .ok (.ifnull 19, 3) := by decide +kernel
theorem d27_52 : decode prog_141_method_5_code 52 = .ok (.iconst 1, 1) := by decide +kernel
theorem d27_53 : decode prog_141_method_5_code 53 = .ok (.ireturn, 1) := by decide +kernel
theorem d27_54 : decode prog_141_method_5_code 54 = .ok (.aload_n 0, 1) := by decide +kernel
theorem d27_55 : decode prog_141_method_5_code 55 = .ok (.aload_n 0, 1) := by decide +kernel
theorem d27_56 : decode prog_141_method_5_code 56 = .ok (.getfield 28, 3) := by decide +kernel
theorem d27_59 : decode prog_141_method_5_code 59 = .ok (.lload_n 1, 1) := by decide +kernel
theorem d27_60 : decode prog_141_method_5_code 60 = .ok (.invokestatic 124, 3) := by decide +kernel
theorem pd_11 : parseMethodDescriptor "(JJ)J" = some ⟨[.long, .long], some .long⟩ := by decide +kernel
theorem d27_63 : decode prog_141_method_5_code 63 = .ok (.putfield 28, 3) := by decide +kernel
theorem d27_66 : decode prog_141_method_5_code 66 = .ok (.iconst 0, 1) := by decide +kernel
theorem d27_67 : decode prog_141_method_5_code 67 = .ok (.ireturn, 1) := by decide +kernel
theorem ef_27 (m : MethodId) (x0 : Addr) (x1 : Int64) : entryFrame m #[(.ref x0), (.long x1)] 3 = mkF m 0 #[rv x0, lv x1, .second] [] := by first | (simp [entryFrame, mkF, argsToLocals, Value.category]; done) | rfl
def Q27 (Z : State) (oa : Addr) (qo : Int64) (qc : Int64) (qu : Int64) (qn : Int64) (qr : Int64) (uf_oa_size : Value) (uf_oa_committedAhead : Value) (uf_oa_finished : Value) (uf_oa_consumed : Value) (uf_oa_consumedAt : Value) (uf_oa_left : Value) (uf_oa_committedFailures : Value) (h0 : Heap) (n0 : Nat) (rv_ : Option Value) (h_ : Heap) (L_ : List Loc) : Prop := rv_ = some (.int (if qu = qn then (1 : Int32) else (0 : Int32))) ∧ Fr n0 L_ ∧ Keep h0 h_ [oa] ∧ Fld Z h_ oa "evenkeel/client/Window" "committed" "J" (.long (if qu = qn then qo else qc)) ∧ Fld Z h_ oa "evenkeel/client/Window" "unfinished" "J" (.long (if qu = qn then qo else qu)) ∧ Fld Z h_ oa "evenkeel/client/Window" "next" "J" (.long (if qu = qn then qo else qn)) ∧ Fld Z h_ oa "evenkeel/client/Window" "restart" "J" (.long (if qu = qn then (-1 : Int64) else (if qr < qo then qo else qr))) ∧ Fld Z h_ oa "evenkeel/client/Window" "failing" "Ljava/util/TreeMap;" .null ∧ Fld Z h_ oa "evenkeel/client/Window" "size" "I" uf_oa_size ∧ Fld Z h_ oa "evenkeel/client/Window" "committedAhead" "Ljava/util/List;" uf_oa_committedAhead ∧ Fld Z h_ oa "evenkeel/client/Window" "finished" "Ljava/util/BitSet;" uf_oa_finished ∧ Fld Z h_ oa "evenkeel/client/Window" "consumed" "Ljava/util/List;" uf_oa_consumed ∧ Fld Z h_ oa "evenkeel/client/Window" "consumedAt" "I" uf_oa_consumedAt ∧ Fld Z h_ oa "evenkeel/client/Window" "left" "Ljava/util/BitSet;" uf_oa_left ∧ Fld Z h_ oa "evenkeel/client/Window" "committedFailures" "Ljava/util/List;" uf_oa_committedFailures
set_option maxRecDepth 65536 in
set_option maxHeartbeats 40000000 in
theorem rm27 (l : Launch) (Z : State) (a0 : Array Value) (hw : ∀ d ∈ tables_1, d.before a0 Z = true) (ws : List Jvm.Cond) (oa : Addr) (qo : Int64) (qc : Int64) (qu : Int64) (qn : Int64) (qr : Int64) (uf_oa_size : Value) (uf_oa_committedAhead : Value) (uf_oa_finished : Value) (uf_oa_consumed : Value) (uf_oa_consumedAt : Value) (uf_oa_left : Value) (uf_oa_committedFailures : Value) (h0 : Heap) (n0 : Nat) (Z0 : n0 ≤ h0.size) (E_ : Exa Z h0 oa "evenkeel/client/Window") (Fc : Fld Z h0 oa "evenkeel/client/Window" "committed" "J" (.long qc)) (Fu : Fld Z h0 oa "evenkeel/client/Window" "unfinished" "J" (.long qu)) (Fn : Fld Z h0 oa "evenkeel/client/Window" "next" "J" (.long qn)) (Fr_ : Fld Z h0 oa "evenkeel/client/Window" "restart" "J" (.long qr)) (Ff : Fld Z h0 oa "evenkeel/client/Window" "failing" "Ljava/util/TreeMap;" .null) (g_ : n0 ≤ oa) (F_oa_size : Fld Z h0 oa "evenkeel/client/Window" "size" "I" uf_oa_size) (F_oa_committedAhead : Fld Z h0 oa "evenkeel/client/Window" "committedAhead" "Ljava/util/List;" uf_oa_committedAhead) (F_oa_finished : Fld Z h0 oa "evenkeel/client/Window" "finished" "Ljava/util/BitSet;" uf_oa_finished) (F_oa_consumed : Fld Z h0 oa "evenkeel/client/Window" "consumed" "Ljava/util/List;" uf_oa_consumed) (F_oa_consumedAt : Fld Z h0 oa "evenkeel/client/Window" "consumedAt" "I" uf_oa_consumedAt) (F_oa_left : Fld Z h0 oa "evenkeel/client/Window" "left" "Ljava/util/BitSet;" uf_oa_left) (F_oa_committedFailures : Fld Z h0 oa "evenkeel/client/Window" "committedFailures" "Ljava/util/List;" uf_oa_committedFailures) :
    MetFree l (⟨"evenkeel/client/Window", "skip", "(J)Z"⟩ : MethodName) (head1 (Jvm.Cond.code (⟨"evenkeel/client/Window", "skip", "(J)Z"⟩ : MethodName) prog_141_method_5_code 3 (some .boolean) :: ws) ({ frames := 1, cells := 0, slots := 0, locals := 16 } : Room)) (fun a U => a = #[(.ref oa), (.long qo)] ∧ Z.Warmed39 U.vm ∧ U.heap = h0) (fun _ _ _ _ _ => True) (fun _ U o U' => ∃ v L, o = .returned v ∧ Q27 Z oa qo qc qu qn qr uf_oa_size uf_oa_committedAhead uf_oa_finished uf_oa_consumed uf_oa_consumedAt uf_oa_left uf_oa_committedFailures h0 n0 v U'.heap L ∧ FrameEnd U o U' L ({ frames := 1, cells := 0, slots := 0, locals := 16 } : Room).cells ({ frames := 1, cells := 0, slots := 0, locals := 16 } : Room).slots) := by
  refine MetFree.of_bodySF (plainFor_of_name pn_8) hisR ?_
  intro p e s m args below meth c s₁ Bd hml0 hP hK
  obtain ⟨rfl, hZ, hh⟩ := hP
  have hx := Bd.exec
  have hby := Bd.bytes
  have hml : c.maxLocals = 3 := hml0
  have hown : s.vm.findClass "evenkeel/client/Window" = some m.cls := findClass_of_methodNamed Bd.named
  have hnm := (name_of_methodNamed Bd.named Bd.method).1
  have X0 : Stand p l e ({ frames := 1, cells := 0, slots := 0, locals := 16 } : Room) s m #[(.ref oa), (.long qo)] below meth c s₁ [] 0 0 := Stand.of_body Bd
  have e0 : s₁.heap = h0 := by rw [← hh, Bd.state]; rfl
  have N0 := Fr.nil n0
  obtain ⟨G, hG, pre0⟩ : ∃ G : State → Prop, (∀ t, G t → Steps p.tables e below (s₁.setTop (entryFrame m #[(.ref oa), (.long qo)] 3)) t) ∧ ∀ t, own_K p e below m s₁ 0 #[rv oa, lv qo, .second] [] t → G t := ⟨fun t => Steps p.tables e below (s₁.setTop (entryFrame m #[(.ref oa), (.long qo)] 3)) t, fun _ k => k, fun t k => castTop (ef_27 m oa qo) k⟩
  obtain ⟨cq1, q1, q1'⟩ := E_.cell
  obtain ⟨_, _, ⟨T1, L1, k1, n1⟩, -, X1, ⟨Lc1, hQ1, l1, y1, z1⟩, st1⟩ := X0.privateBack hx (y := (⟨"evenkeel/client/Window", "allFinished", "()Z"⟩ : MethodName)) hown (mvT hZ (hw _ (List.mem_of_getElem? (i := 223) rfl))) (mvT hZ (hw _ (List.mem_of_getElem? (i := 224) rfl))) (own_selp hZ (hw _ (List.mem_of_getElem? (i := 2) rfl)) (hw _ (List.mem_of_getElem? (i := 225) rfl)) (hw _ (List.mem_of_getElem? (i := 224) rfl)) (by decide)) (Cond.privateMethod_at (mvP hZ (hw _ (List.mem_of_getElem? (i := 225) rfl)) (args := #[]))) (mvT hZ (hw _ (List.mem_of_getElem? (i := 226) rfl))) (by decide) (backOf (W := 0) (rm28 l Z a0 hw [] oa qu qn h0 n0 Z0 Fu Fn) hZ (hw _ (List.mem_of_getElem? (i := 226) rfl)) (hw _ (List.mem_of_getElem? (i := 3) rfl)) (by decide) (by decide)) (g := (mkF m 1 #[rv oa, lv qo, .second] [(.ref oa)])) rfl (by rw [hml]; rfl) (Steps.refl _) (a := oa) (by rw [e0]; exact q1) q1' (argsL := []) (rest := []) (lenOf pd_5 rfl) rfl (by show 2 * 0 + _ ≤ _; exact Nat.le_of_eq rfl) (hb hby d27_1) (fun _ _ => ⟨rfl, e0, (by decide : 0 + 0 ≤ _), (by decide : 0 + 0 ≤ _)⟩)
  dsimp only [Pt.U, Pt.locs, Pt.cells, Pt.slots] at X1 l1 y1 z1 st1 hQ1
  subst l1 y1 z1
  obtain ⟨rfl, Nq1, eh1⟩ := hQ1
  have N1 := Fr.app N0 Nq1
  have pre2 : ∀ t, own_K p e below m T1 4 #[rv oa, lv qo, .second] [(.int (if qu = qn then (1 : Int32) else (0 : Int32)))] t → G t := by
    intro t k
    refine pre0 t ?_
    show own_K p e below m s₁ 0 #[rv oa, lv qo, .second] [] _
    refine XS.aloadN X0.here hx rfl (hb hby d27_0) rfl rfl ?_
    show own_K p e below m s₁ 1 #[rv oa, lv qo, .second] [(.ref oa)] _
    refine st1.trans ?_
    exact k
  by_cases hk4_3 : qu = qn
  · have hq4 : (if qu = qn then (1 : Int32) else (0 : Int32)) = (1 : Int32) := if_pos hk4_3
    have pre4 : ∀ t, own_K p e below m T1 4 #[rv oa, lv qo, .second] [(.int (1 : Int32))] t → G t := fun t k => pre2 t (by rw [hq4]; exact k)
    obtain ⟨T5, h5, X5, e5, W5, st5⟩ := putF X1 hx hZ hown (host := "") (Or.inl (hw _ (List.mem_of_getElem? (i := 139) rfl))) Via.refl eh1 Fc E_ (Or.inl (hw _ (List.mem_of_getElem? (i := 140) rfl))) (hw _ (List.mem_of_getElem? (i := 2) rfl)) (ty := .long) (by decide) rfl rfl (g := (mkF m 9 #[rv oa, lv qo, .second] [(.long qo), (.ref oa)])) rfl rfl (hb hby d27_9)
    have f5w := Fc.same W5
    have K5 : Keep h0 h5 [oa] := (Keep.refl h0 [oa]).wr W5 (Or.inl (List.mem_of_getElem? (i := 0) rfl))
    have N5 := Fr.snoc X5 N1 g_
    have sz5 : n0 ≤ h5.size := Nat.le_trans Z0 (Keep.of_wr W5).1
    have f7 : Fld Z h5 oa "evenkeel/client/Window" "unfinished" "J" (.long qu) := (Fu.other W5 (Or.inr (slot_ne (Or.inl (hw _ (List.mem_of_getElem? (i := 142) rfl))) (Or.inl (hw _ (List.mem_of_getElem? (i := 140) rfl))) (by decide) (t := .long) (t' := .long) (by decide) (by decide))))
    have f8 : Exa Z h5 oa "evenkeel/client/Window" := (E_.wr W5)
    obtain ⟨T6, h6, X6, e6, W6, st6⟩ := putF X5 hx hZ hown (host := "") (Or.inl (hw _ (List.mem_of_getElem? (i := 141) rfl))) Via.refl e5 f7 f8 (Or.inl (hw _ (List.mem_of_getElem? (i := 142) rfl))) (hw _ (List.mem_of_getElem? (i := 2) rfl)) (ty := .long) (by decide) rfl rfl (g := (mkF m 14 #[rv oa, lv qo, .second] [(.long qo), (.ref oa)])) rfl rfl (hb hby d27_14)
    have f6w := f7.same W6
    have K6 : Keep h0 h6 [oa] := K5.wr W6 (Or.inl (List.mem_of_getElem? (i := 0) rfl))
    have N6 := Fr.snoc X6 N5 g_
    have sz6 : n0 ≤ h6.size := Nat.le_trans sz5 (Keep.of_wr W6).1
    have f10 : Fld Z h6 oa "evenkeel/client/Window" "next" "J" (.long qn) := ((Fn.other W5 (Or.inr (slot_ne (Or.inl (hw _ (List.mem_of_getElem? (i := 144) rfl))) (Or.inl (hw _ (List.mem_of_getElem? (i := 140) rfl))) (by decide) (t := .long) (t' := .long) (by decide) (by decide)))).other W6 (Or.inr (slot_ne (Or.inl (hw _ (List.mem_of_getElem? (i := 144) rfl))) (Or.inl (hw _ (List.mem_of_getElem? (i := 142) rfl))) (by decide) (t := .long) (t' := .long) (by decide) (by decide))))
    have f11 : Exa Z h6 oa "evenkeel/client/Window" := (f8.wr W6)
    obtain ⟨T9, h9, X9, e9, W9, st9⟩ := putF X6 hx hZ hown (host := "") (Or.inl (hw _ (List.mem_of_getElem? (i := 143) rfl))) Via.refl e6 f10 f11 (Or.inl (hw _ (List.mem_of_getElem? (i := 144) rfl))) (hw _ (List.mem_of_getElem? (i := 2) rfl)) (ty := .long) (by decide) rfl rfl (g := (mkF m 19 #[rv oa, lv qo, .second] [(.long qo), (.ref oa)])) rfl rfl (hb hby d27_19)
    have f9w := f10.same W9
    have K9 : Keep h0 h9 [oa] := K6.wr W9 (Or.inl (List.mem_of_getElem? (i := 0) rfl))
    have N9 := Fr.snoc X9 N6 g_
    have sz9 : n0 ≤ h9.size := Nat.le_trans sz6 (Keep.of_wr W9).1
    have f13 : Fld Z h9 oa "evenkeel/client/Window" "restart" "J" (.long qr) := (((Fr_.other W5 (Or.inr (slot_ne (Or.inl (hw _ (List.mem_of_getElem? (i := 129) rfl))) (Or.inl (hw _ (List.mem_of_getElem? (i := 140) rfl))) (by decide) (t := .long) (t' := .long) (by decide) (by decide)))).other W6 (Or.inr (slot_ne (Or.inl (hw _ (List.mem_of_getElem? (i := 129) rfl))) (Or.inl (hw _ (List.mem_of_getElem? (i := 142) rfl))) (by decide) (t := .long) (t' := .long) (by decide) (by decide)))).other W9 (Or.inr (slot_ne (Or.inl (hw _ (List.mem_of_getElem? (i := 129) rfl))) (Or.inl (hw _ (List.mem_of_getElem? (i := 144) rfl))) (by decide) (t := .long) (t' := .long) (by decide) (by decide))))
    have f14 : Exa Z h9 oa "evenkeel/client/Window" := (f11.wr W9)
    obtain ⟨T12, h12, X12, e12, W12, st12⟩ := putF X9 hx hZ hown (host := "") (Or.inl (hw _ (List.mem_of_getElem? (i := 128) rfl))) Via.refl e9 f13 f14 (Or.inl (hw _ (List.mem_of_getElem? (i := 129) rfl))) (hw _ (List.mem_of_getElem? (i := 2) rfl)) (ty := .long) (by decide) rfl rfl (g := (mkF m 26 #[rv oa, lv qo, .second] [(.long (-1 : Int64)), (.ref oa)])) rfl rfl (hb hby d27_26)
    have f12w := f13.same W12
    have K12 : Keep h0 h12 [oa] := K9.wr W12 (Or.inl (List.mem_of_getElem? (i := 0) rfl))
    have N12 := Fr.snoc X12 N9 g_
    have sz12 : n0 ≤ h12.size := Nat.le_trans sz9 (Keep.of_wr W12).1
    have f16 : Fld Z h12 oa "evenkeel/client/Window" "failing" "Ljava/util/TreeMap;" .null := ((((Ff.other W5 (Or.inr (slot_ne (Or.inl (hw _ (List.mem_of_getElem? (i := 260) rfl))) (Or.inl (hw _ (List.mem_of_getElem? (i := 140) rfl))) (by decide) (t := (.object "java/util/TreeMap")) (t' := .long) (by decide) (by decide)))).other W6 (Or.inr (slot_ne (Or.inl (hw _ (List.mem_of_getElem? (i := 260) rfl))) (Or.inl (hw _ (List.mem_of_getElem? (i := 142) rfl))) (by decide) (t := (.object "java/util/TreeMap")) (t' := .long) (by decide) (by decide)))).other W9 (Or.inr (slot_ne (Or.inl (hw _ (List.mem_of_getElem? (i := 260) rfl))) (Or.inl (hw _ (List.mem_of_getElem? (i := 144) rfl))) (by decide) (t := (.object "java/util/TreeMap")) (t' := .long) (by decide) (by decide)))).other W12 (Or.inr (slot_ne (Or.inl (hw _ (List.mem_of_getElem? (i := 260) rfl))) (Or.inl (hw _ (List.mem_of_getElem? (i := 129) rfl))) (by decide) (t := (.object "java/util/TreeMap")) (t' := .long) (by decide) (by decide))))
    obtain ⟨T15, X15, e15, st15⟩ := getF X12 hx hZ hown (host := "") (Or.inl (hw _ (List.mem_of_getElem? (i := 259) rfl))) Via.refl e12 f16 (g := (mkF m 30 #[rv oa, lv qo, .second] [(.ref oa)])) rfl rfl (hb hby d27_30)
    have pre17 : ∀ t, own_K p e below m T15 53 #[rv oa, lv qo, .second] [(.int (1 : Int32))] t → G t := by
      intro t k
      refine pre4 t ?_
      show own_K p e below m T1 4 #[rv oa, lv qo, .second] [(.int (1 : Int32))] _
      refine XS.ifNo X1.here hx rfl (hb hby d27_4) rfl ((if0 _ _).trans (feq (by decide : ¬ ((1 : Int32) = (0 : Int32)))).1) ?_
      show own_K p e below m T1 7 #[rv oa, lv qo, .second] [] _
      refine XS.aloadN X1.here hx rfl (hb hby d27_7) rfl rfl ?_
      show own_K p e below m T1 8 #[rv oa, lv qo, .second] [(.ref oa)] _
      refine XS.lloadN X1.here hx rfl (hb hby d27_8) rfl ?_
      show own_K p e below m T1 9 #[rv oa, lv qo, .second] [(.long qo), (.ref oa)] _
      refine st5 _ ?_
      show own_K p e below m T5 12 #[rv oa, lv qo, .second] [] _
      refine XS.aloadN X5.here hx rfl (hb hby d27_12) rfl rfl ?_
      show own_K p e below m T5 13 #[rv oa, lv qo, .second] [(.ref oa)] _
      refine XS.lloadN X5.here hx rfl (hb hby d27_13) rfl ?_
      show own_K p e below m T5 14 #[rv oa, lv qo, .second] [(.long qo), (.ref oa)] _
      refine st6 _ ?_
      show own_K p e below m T6 17 #[rv oa, lv qo, .second] [] _
      refine XS.aloadN X6.here hx rfl (hb hby d27_17) rfl rfl ?_
      show own_K p e below m T6 18 #[rv oa, lv qo, .second] [(.ref oa)] _
      refine XS.lloadN X6.here hx rfl (hb hby d27_18) rfl ?_
      show own_K p e below m T6 19 #[rv oa, lv qo, .second] [(.long qo), (.ref oa)] _
      refine st9 _ ?_
      show own_K p e below m T9 22 #[rv oa, lv qo, .second] [] _
      refine XS.aloadN X9.here hx rfl (hb hby d27_22) rfl rfl ?_
      show own_K p e below m T9 23 #[rv oa, lv qo, .second] [(.ref oa)] _
      refine X9.ldc2Long hx hown (mvT hZ (hw _ (List.mem_of_getElem? (i := 127) rfl))) (g := (mkF m 23 #[rv oa, lv qo, .second] [(.ref oa)])) rfl (hb hby d27_23) _ ?_
      show own_K p e below m T9 26 #[rv oa, lv qo, .second] [(.long (-1 : Int64)), (.ref oa)] _
      refine st12 _ ?_
      show own_K p e below m T12 29 #[rv oa, lv qo, .second] [] _
      refine XS.aloadN X12.here hx rfl (hb hby d27_29) rfl rfl ?_
      show own_K p e below m T12 30 #[rv oa, lv qo, .second] [(.ref oa)] _
      refine st15 _ ?_
      show own_K p e below m T15 33 #[rv oa, lv qo, .second] [.null] _
      refine XS.ifnullYes X15.here hx rfl (pc0 := 33) (pc' := 52) rfl (hb hby d27_33) rfl (by decide) (by decide) ?_
      show own_K p e below m T15 52 #[rv oa, lv qo, .second] [] _
      refine XS.iconst X15.here hx rfl (hb hby d27_52) ?_
      exact k
    have f18 : Fld Z h12 oa "evenkeel/client/Window" "committed" "J" (.long qo) := (((f5w.other W6 (Or.inr (slot_ne (Or.inl (hw _ (List.mem_of_getElem? (i := 140) rfl))) (Or.inl (hw _ (List.mem_of_getElem? (i := 142) rfl))) (by decide) (t := .long) (t' := .long) (by decide) (by decide)))).other W9 (Or.inr (slot_ne (Or.inl (hw _ (List.mem_of_getElem? (i := 140) rfl))) (Or.inl (hw _ (List.mem_of_getElem? (i := 144) rfl))) (by decide) (t := .long) (t' := .long) (by decide) (by decide)))).other W12 (Or.inr (slot_ne (Or.inl (hw _ (List.mem_of_getElem? (i := 140) rfl))) (Or.inl (hw _ (List.mem_of_getElem? (i := 129) rfl))) (by decide) (t := .long) (t' := .long) (by decide) (by decide))))
    have f19 : Fld Z h12 oa "evenkeel/client/Window" "unfinished" "J" (.long qo) := ((f6w.other W9 (Or.inr (slot_ne (Or.inl (hw _ (List.mem_of_getElem? (i := 142) rfl))) (Or.inl (hw _ (List.mem_of_getElem? (i := 144) rfl))) (by decide) (t := .long) (t' := .long) (by decide) (by decide)))).other W12 (Or.inr (slot_ne (Or.inl (hw _ (List.mem_of_getElem? (i := 142) rfl))) (Or.inl (hw _ (List.mem_of_getElem? (i := 129) rfl))) (by decide) (t := .long) (t' := .long) (by decide) (by decide))))
    have f20 : Fld Z h12 oa "evenkeel/client/Window" "next" "J" (.long qo) := (f9w.other W12 (Or.inr (slot_ne (Or.inl (hw _ (List.mem_of_getElem? (i := 144) rfl))) (Or.inl (hw _ (List.mem_of_getElem? (i := 129) rfl))) (by decide) (t := .long) (t' := .long) (by decide) (by decide))))
    have f21 : Fld Z h12 oa "evenkeel/client/Window" "size" "I" uf_oa_size := ((((F_oa_size.other W5 (Or.inr (slot_ne (Or.inr (hw _ (List.mem_of_getElem? (i := 133) rfl))) (Or.inl (hw _ (List.mem_of_getElem? (i := 140) rfl))) (by decide) (t := .int) (t' := .long) (by decide) (by decide)))).other W6 (Or.inr (slot_ne (Or.inr (hw _ (List.mem_of_getElem? (i := 133) rfl))) (Or.inl (hw _ (List.mem_of_getElem? (i := 142) rfl))) (by decide) (t := .int) (t' := .long) (by decide) (by decide)))).other W9 (Or.inr (slot_ne (Or.inr (hw _ (List.mem_of_getElem? (i := 133) rfl))) (Or.inl (hw _ (List.mem_of_getElem? (i := 144) rfl))) (by decide) (t := .int) (t' := .long) (by decide) (by decide)))).other W12 (Or.inr (slot_ne (Or.inr (hw _ (List.mem_of_getElem? (i := 133) rfl))) (Or.inl (hw _ (List.mem_of_getElem? (i := 129) rfl))) (by decide) (t := .int) (t' := .long) (by decide) (by decide))))
    have f22 : Fld Z h12 oa "evenkeel/client/Window" "committedAhead" "Ljava/util/List;" uf_oa_committedAhead := ((((F_oa_committedAhead.other W5 (Or.inr (slot_ne (Or.inl (hw _ (List.mem_of_getElem? (i := 102) rfl))) (Or.inl (hw _ (List.mem_of_getElem? (i := 140) rfl))) (by decide) (t := (.object "java/util/List")) (t' := .long) (by decide) (by decide)))).other W6 (Or.inr (slot_ne (Or.inl (hw _ (List.mem_of_getElem? (i := 102) rfl))) (Or.inl (hw _ (List.mem_of_getElem? (i := 142) rfl))) (by decide) (t := (.object "java/util/List")) (t' := .long) (by decide) (by decide)))).other W9 (Or.inr (slot_ne (Or.inl (hw _ (List.mem_of_getElem? (i := 102) rfl))) (Or.inl (hw _ (List.mem_of_getElem? (i := 144) rfl))) (by decide) (t := (.object "java/util/List")) (t' := .long) (by decide) (by decide)))).other W12 (Or.inr (slot_ne (Or.inl (hw _ (List.mem_of_getElem? (i := 102) rfl))) (Or.inl (hw _ (List.mem_of_getElem? (i := 129) rfl))) (by decide) (t := (.object "java/util/List")) (t' := .long) (by decide) (by decide))))
    have f23 : Fld Z h12 oa "evenkeel/client/Window" "finished" "Ljava/util/BitSet;" uf_oa_finished := ((((F_oa_finished.other W5 (Or.inr (slot_ne (Or.inr (hw _ (List.mem_of_getElem? (i := 126) rfl))) (Or.inl (hw _ (List.mem_of_getElem? (i := 140) rfl))) (by decide) (t := (.object "java/util/BitSet")) (t' := .long) (by decide) (by decide)))).other W6 (Or.inr (slot_ne (Or.inr (hw _ (List.mem_of_getElem? (i := 126) rfl))) (Or.inl (hw _ (List.mem_of_getElem? (i := 142) rfl))) (by decide) (t := (.object "java/util/BitSet")) (t' := .long) (by decide) (by decide)))).other W9 (Or.inr (slot_ne (Or.inr (hw _ (List.mem_of_getElem? (i := 126) rfl))) (Or.inl (hw _ (List.mem_of_getElem? (i := 144) rfl))) (by decide) (t := (.object "java/util/BitSet")) (t' := .long) (by decide) (by decide)))).other W12 (Or.inr (slot_ne (Or.inr (hw _ (List.mem_of_getElem? (i := 126) rfl))) (Or.inl (hw _ (List.mem_of_getElem? (i := 129) rfl))) (by decide) (t := (.object "java/util/BitSet")) (t' := .long) (by decide) (by decide))))
    have f24 : Fld Z h12 oa "evenkeel/client/Window" "consumed" "Ljava/util/List;" uf_oa_consumed := ((((F_oa_consumed.other W5 (Or.inr (slot_ne (Or.inr (hw _ (List.mem_of_getElem? (i := 151) rfl))) (Or.inl (hw _ (List.mem_of_getElem? (i := 140) rfl))) (by decide) (t := (.object "java/util/List")) (t' := .long) (by decide) (by decide)))).other W6 (Or.inr (slot_ne (Or.inr (hw _ (List.mem_of_getElem? (i := 151) rfl))) (Or.inl (hw _ (List.mem_of_getElem? (i := 142) rfl))) (by decide) (t := (.object "java/util/List")) (t' := .long) (by decide) (by decide)))).other W9 (Or.inr (slot_ne (Or.inr (hw _ (List.mem_of_getElem? (i := 151) rfl))) (Or.inl (hw _ (List.mem_of_getElem? (i := 144) rfl))) (by decide) (t := (.object "java/util/List")) (t' := .long) (by decide) (by decide)))).other W12 (Or.inr (slot_ne (Or.inr (hw _ (List.mem_of_getElem? (i := 151) rfl))) (Or.inl (hw _ (List.mem_of_getElem? (i := 129) rfl))) (by decide) (t := (.object "java/util/List")) (t' := .long) (by decide) (by decide))))
    have f25 : Fld Z h12 oa "evenkeel/client/Window" "consumedAt" "I" uf_oa_consumedAt := ((((F_oa_consumedAt.other W5 (Or.inr (slot_ne (Or.inl (hw _ (List.mem_of_getElem? (i := 182) rfl))) (Or.inl (hw _ (List.mem_of_getElem? (i := 140) rfl))) (by decide) (t := .int) (t' := .long) (by decide) (by decide)))).other W6 (Or.inr (slot_ne (Or.inl (hw _ (List.mem_of_getElem? (i := 182) rfl))) (Or.inl (hw _ (List.mem_of_getElem? (i := 142) rfl))) (by decide) (t := .int) (t' := .long) (by decide) (by decide)))).other W9 (Or.inr (slot_ne (Or.inl (hw _ (List.mem_of_getElem? (i := 182) rfl))) (Or.inl (hw _ (List.mem_of_getElem? (i := 144) rfl))) (by decide) (t := .int) (t' := .long) (by decide) (by decide)))).other W12 (Or.inr (slot_ne (Or.inl (hw _ (List.mem_of_getElem? (i := 182) rfl))) (Or.inl (hw _ (List.mem_of_getElem? (i := 129) rfl))) (by decide) (t := .int) (t' := .long) (by decide) (by decide))))
    have f26 : Fld Z h12 oa "evenkeel/client/Window" "left" "Ljava/util/BitSet;" uf_oa_left := ((((F_oa_left.other W5 (Or.inr (slot_ne (Or.inr (hw _ (List.mem_of_getElem? (i := 131) rfl))) (Or.inl (hw _ (List.mem_of_getElem? (i := 140) rfl))) (by decide) (t := (.object "java/util/BitSet")) (t' := .long) (by decide) (by decide)))).other W6 (Or.inr (slot_ne (Or.inr (hw _ (List.mem_of_getElem? (i := 131) rfl))) (Or.inl (hw _ (List.mem_of_getElem? (i := 142) rfl))) (by decide) (t := (.object "java/util/BitSet")) (t' := .long) (by decide) (by decide)))).other W9 (Or.inr (slot_ne (Or.inr (hw _ (List.mem_of_getElem? (i := 131) rfl))) (Or.inl (hw _ (List.mem_of_getElem? (i := 144) rfl))) (by decide) (t := (.object "java/util/BitSet")) (t' := .long) (by decide) (by decide)))).other W12 (Or.inr (slot_ne (Or.inr (hw _ (List.mem_of_getElem? (i := 131) rfl))) (Or.inl (hw _ (List.mem_of_getElem? (i := 129) rfl))) (by decide) (t := (.object "java/util/BitSet")) (t' := .long) (by decide) (by decide))))
    have f27 : Fld Z h12 oa "evenkeel/client/Window" "committedFailures" "Ljava/util/List;" uf_oa_committedFailures := ((((F_oa_committedFailures.other W5 (Or.inr (slot_ne (Or.inl (hw _ (List.mem_of_getElem? (i := 158) rfl))) (Or.inl (hw _ (List.mem_of_getElem? (i := 140) rfl))) (by decide) (t := (.object "java/util/List")) (t' := .long) (by decide) (by decide)))).other W6 (Or.inr (slot_ne (Or.inl (hw _ (List.mem_of_getElem? (i := 158) rfl))) (Or.inl (hw _ (List.mem_of_getElem? (i := 142) rfl))) (by decide) (t := (.object "java/util/List")) (t' := .long) (by decide) (by decide)))).other W9 (Or.inr (slot_ne (Or.inl (hw _ (List.mem_of_getElem? (i := 158) rfl))) (Or.inl (hw _ (List.mem_of_getElem? (i := 144) rfl))) (by decide) (t := (.object "java/util/List")) (t' := .long) (by decide) (by decide)))).other W12 (Or.inr (slot_ne (Or.inl (hw _ (List.mem_of_getElem? (i := 158) rfl))) (Or.inl (hw _ (List.mem_of_getElem? (i := 129) rfl))) (by decide) (t := (.object "java/util/List")) (t' := .long) (by decide) (by decide))))
    obtain ⟨fs, hr, hrun, hended, hW, hsame⟩ := X15.leave (v := some (.int (1 : Int32))) (fun h => by rw [Bd.returns] at h; cases h)
    refine ⟨_, _, hG _ (pre17 _ ?_), hrun, hended, _, _, rfl, ?_, ⟨_, rfl⟩, hW, hsame.mono (by decide) (by decide)⟩
    · show own_K p e below m T15 53 #[rv oa, lv qo, .second] [(.int (1 : Int32))] _
      exact retN X15 hx (t := .boolean) Bd.returns (by simp) (hb hby d27_53) hr
    · show Q27 Z oa qo qc qu qn qr uf_oa_size uf_oa_committedAhead uf_oa_finished uf_oa_consumed uf_oa_consumedAt uf_oa_left uf_oa_committedFailures h0 n0 _ T15.heap _
      rw [e15]
      exact ⟨(by simp only [if_pos hk4_3]), N12, K12, (by simp only [if_pos hk4_3]; exact f18), (by simp only [if_pos hk4_3]; exact f19), (by simp only [if_pos hk4_3]; exact f20), (by simp only [if_pos hk4_3]; exact f12w), f16, f21, f22, f23, f24, f25, f26, f27⟩
  · have hq28 : (if qu = qn then (1 : Int32) else (0 : Int32)) = (0 : Int32) := if_neg hk4_3
    have pre28 : ∀ t, own_K p e below m T1 4 #[rv oa, lv qo, .second] [(.int (0 : Int32))] t → G t := fun t k => pre2 t (by rw [hq28]; exact k)
    obtain ⟨T29, X29, e29, st29⟩ := getF X1 hx hZ hown (host := "") (Or.inl (hw _ (List.mem_of_getElem? (i := 128) rfl))) Via.refl eh1 Fr_ (g := (mkF m 56 #[rv oa, lv qo, .second] [(.ref oa), (.ref oa)])) rfl rfl (hb hby d27_56)
    obtain ⟨_, _, ⟨T30, L30, k30, n30⟩, -, X30, ⟨Lc30, hQ30, l30, y30, z30⟩, st30⟩ := Jvm.LawKit.callS X29 hx (y := (⟨"java/lang/Math", "max", "(JJ)J"⟩ : MethodName)) hown (mvT hZ (hw _ (List.mem_of_getElem? (i := 227) rfl))) (mvT hZ (hw _ (List.mem_of_getElem? (i := 228) rfl))) (mvT hZ (hw _ (List.mem_of_getElem? (i := 174) rfl))) (mvT hZ (hw _ (List.mem_of_getElem? (i := 229) rfl))) (by decide) (backOf (W := 1) (rm29 l Z a0 hw [] qr qo h0 n0 Z0 ) hZ (hw _ (List.mem_of_getElem? (i := 229) rfl)) (hw _ (List.mem_of_getElem? (i := 174) rfl)) (by decide) (by decide)) (g := (mkF m 60 #[rv oa, lv qo, .second] [(.long qo), (.long qr), (.ref oa)])) rfl (by rw [hml]; rfl) (argsL := [(.long qr), (.long qo)]) (rest := [(.ref oa)]) (lenOf pd_11 rfl) rfl (by show 2 * 0 + _ ≤ _; exact Nat.le_of_eq rfl) (hb hby d27_60) (fun _ _ => ⟨rfl, e29, (by decide : 0 + 0 ≤ _), (by decide : 0 + 0 ≤ _)⟩)
    dsimp only [Pt.U, Pt.locs, Pt.cells, Pt.slots] at X30 l30 y30 z30 st30 hQ30
    subst l30 y30 z30
    obtain ⟨rfl, Nq30, eh30⟩ := hQ30
    have N30 := Fr.app N1 Nq30
    obtain ⟨T31, h31, X31, e31, W31, st31⟩ := putF X30 hx hZ hown (host := "") (Or.inl (hw _ (List.mem_of_getElem? (i := 128) rfl))) Via.refl eh30 Fr_ E_ (Or.inl (hw _ (List.mem_of_getElem? (i := 129) rfl))) (hw _ (List.mem_of_getElem? (i := 2) rfl)) (ty := .long) (by decide) rfl rfl (g := (mkF m 63 #[rv oa, lv qo, .second] [(.long (if qr < qo then qo else qr)), (.ref oa)])) rfl rfl (hb hby d27_63)
    have f31w := Fr_.same W31
    have K31 : Keep h0 h31 [oa] := (Keep.refl h0 [oa]).wr W31 (Or.inl (List.mem_of_getElem? (i := 0) rfl))
    have N31 := Fr.snoc X31 N30 g_
    have sz31 : n0 ≤ h31.size := Nat.le_trans Z0 (Keep.of_wr W31).1
    have pre32 : ∀ t, own_K p e below m T31 67 #[rv oa, lv qo, .second] [(.int (0 : Int32))] t → G t := by
      intro t k
      refine pre28 t ?_
      show own_K p e below m T1 4 #[rv oa, lv qo, .second] [(.int (0 : Int32))] _
      refine XS.ifYes X1.here hx rfl (pc0 := 4) (pc' := 54) rfl (hb hby d27_4) rfl ((if0 _ _).trans (teq (by decide : (0 : Int32) = (0 : Int32))).1) (by decide) (by decide) ?_
      show own_K p e below m T1 54 #[rv oa, lv qo, .second] [] _
      refine XS.aloadN X1.here hx rfl (hb hby d27_54) rfl rfl ?_
      show own_K p e below m T1 55 #[rv oa, lv qo, .second] [(.ref oa)] _
      refine XS.aloadN X1.here hx rfl (hb hby d27_55) rfl rfl ?_
      show own_K p e below m T1 56 #[rv oa, lv qo, .second] [(.ref oa), (.ref oa)] _
      refine st29 _ ?_
      show own_K p e below m T29 59 #[rv oa, lv qo, .second] [(.long qr), (.ref oa)] _
      refine XS.lloadN X29.here hx rfl (hb hby d27_59) rfl ?_
      show own_K p e below m T29 60 #[rv oa, lv qo, .second] [(.long qo), (.long qr), (.ref oa)] _
      refine st30 _ ?_
      show own_K p e below m T30 63 #[rv oa, lv qo, .second] [(.long (if qr < qo then qo else qr)), (.ref oa)] _
      refine st31 _ ?_
      show own_K p e below m T31 66 #[rv oa, lv qo, .second] [] _
      refine XS.iconst X31.here hx rfl (hb hby d27_66) ?_
      exact k
    have f33 : Fld Z h31 oa "evenkeel/client/Window" "committed" "J" (.long qc) := (Fc.other W31 (Or.inr (slot_ne (Or.inl (hw _ (List.mem_of_getElem? (i := 140) rfl))) (Or.inl (hw _ (List.mem_of_getElem? (i := 129) rfl))) (by decide) (t := .long) (t' := .long) (by decide) (by decide))))
    have f34 : Fld Z h31 oa "evenkeel/client/Window" "unfinished" "J" (.long qu) := (Fu.other W31 (Or.inr (slot_ne (Or.inl (hw _ (List.mem_of_getElem? (i := 142) rfl))) (Or.inl (hw _ (List.mem_of_getElem? (i := 129) rfl))) (by decide) (t := .long) (t' := .long) (by decide) (by decide))))
    have f35 : Fld Z h31 oa "evenkeel/client/Window" "next" "J" (.long qn) := (Fn.other W31 (Or.inr (slot_ne (Or.inl (hw _ (List.mem_of_getElem? (i := 144) rfl))) (Or.inl (hw _ (List.mem_of_getElem? (i := 129) rfl))) (by decide) (t := .long) (t' := .long) (by decide) (by decide))))
    have f36 : Fld Z h31 oa "evenkeel/client/Window" "failing" "Ljava/util/TreeMap;" .null := (Ff.other W31 (Or.inr (slot_ne (Or.inl (hw _ (List.mem_of_getElem? (i := 260) rfl))) (Or.inl (hw _ (List.mem_of_getElem? (i := 129) rfl))) (by decide) (t := (.object "java/util/TreeMap")) (t' := .long) (by decide) (by decide))))
    have f37 : Fld Z h31 oa "evenkeel/client/Window" "size" "I" uf_oa_size := (F_oa_size.other W31 (Or.inr (slot_ne (Or.inr (hw _ (List.mem_of_getElem? (i := 133) rfl))) (Or.inl (hw _ (List.mem_of_getElem? (i := 129) rfl))) (by decide) (t := .int) (t' := .long) (by decide) (by decide))))
    have f38 : Fld Z h31 oa "evenkeel/client/Window" "committedAhead" "Ljava/util/List;" uf_oa_committedAhead := (F_oa_committedAhead.other W31 (Or.inr (slot_ne (Or.inl (hw _ (List.mem_of_getElem? (i := 102) rfl))) (Or.inl (hw _ (List.mem_of_getElem? (i := 129) rfl))) (by decide) (t := (.object "java/util/List")) (t' := .long) (by decide) (by decide))))
    have f39 : Fld Z h31 oa "evenkeel/client/Window" "finished" "Ljava/util/BitSet;" uf_oa_finished := (F_oa_finished.other W31 (Or.inr (slot_ne (Or.inr (hw _ (List.mem_of_getElem? (i := 126) rfl))) (Or.inl (hw _ (List.mem_of_getElem? (i := 129) rfl))) (by decide) (t := (.object "java/util/BitSet")) (t' := .long) (by decide) (by decide))))
    have f40 : Fld Z h31 oa "evenkeel/client/Window" "consumed" "Ljava/util/List;" uf_oa_consumed := (F_oa_consumed.other W31 (Or.inr (slot_ne (Or.inr (hw _ (List.mem_of_getElem? (i := 151) rfl))) (Or.inl (hw _ (List.mem_of_getElem? (i := 129) rfl))) (by decide) (t := (.object "java/util/List")) (t' := .long) (by decide) (by decide))))
    have f41 : Fld Z h31 oa "evenkeel/client/Window" "consumedAt" "I" uf_oa_consumedAt := (F_oa_consumedAt.other W31 (Or.inr (slot_ne (Or.inl (hw _ (List.mem_of_getElem? (i := 182) rfl))) (Or.inl (hw _ (List.mem_of_getElem? (i := 129) rfl))) (by decide) (t := .int) (t' := .long) (by decide) (by decide))))
    have f42 : Fld Z h31 oa "evenkeel/client/Window" "left" "Ljava/util/BitSet;" uf_oa_left := (F_oa_left.other W31 (Or.inr (slot_ne (Or.inr (hw _ (List.mem_of_getElem? (i := 131) rfl))) (Or.inl (hw _ (List.mem_of_getElem? (i := 129) rfl))) (by decide) (t := (.object "java/util/BitSet")) (t' := .long) (by decide) (by decide))))
    have f43 : Fld Z h31 oa "evenkeel/client/Window" "committedFailures" "Ljava/util/List;" uf_oa_committedFailures := (F_oa_committedFailures.other W31 (Or.inr (slot_ne (Or.inl (hw _ (List.mem_of_getElem? (i := 158) rfl))) (Or.inl (hw _ (List.mem_of_getElem? (i := 129) rfl))) (by decide) (t := (.object "java/util/List")) (t' := .long) (by decide) (by decide))))
    obtain ⟨fs, hr, hrun, hended, hW, hsame⟩ := X31.leave (v := some (.int (0 : Int32))) (fun h => by rw [Bd.returns] at h; cases h)
    refine ⟨_, _, hG _ (pre32 _ ?_), hrun, hended, _, _, rfl, ?_, ⟨_, rfl⟩, hW, hsame.mono (by decide) (by decide)⟩
    · show own_K p e below m T31 67 #[rv oa, lv qo, .second] [(.int (0 : Int32))] _
      exact retN X31 hx (t := .boolean) Bd.returns (by simp) (hb hby d27_67) hr
    · show Q27 Z oa qo qc qu qn qr uf_oa_size uf_oa_committedAhead uf_oa_finished uf_oa_consumed uf_oa_consumedAt uf_oa_left uf_oa_committedFailures h0 n0 _ T31.heap _
      rw [e31]
      exact ⟨(by simp only [if_neg hk4_3]), N31, K31, (by simp only [if_neg hk4_3]; exact f33), (by simp only [if_neg hk4_3]; exact f34), (by simp only [if_neg hk4_3]; exact f35), (by simp only [if_neg hk4_3]; exact f31w), f36, f37, f38, f39, f40, f41, f42, f43⟩

theorem d32_0 : decode prog_141_method_23_code 0 = .ok (.lload_n 1, 1) := by decide +kernel
theorem d32_1 : decode prog_141_method_23_code 1 = .ok (.aload_n 0, 1) := by decide +kernel
theorem d32_2 : decode prog_141_method_23_code 2 = .ok (.getfield 35, 3) := by decide +kernel
theorem d32_5 : decode prog_141_method_23_code 5 = .ok (.i2l, 1) := by decide +kernel
theorem d32_6 : decode prog_141_method_23_code 6 = .ok (.lrem, 1) := by decide +kernel
theorem d32_7 : decode prog_141_method_23_code 7 = .ok (.l2i, 1) := by decide +kernel
theorem d32_8 : decode prog_141_method_23_code 8 = .ok (.ireturn, 1) := by decide +kernel
theorem ef_32 (m : MethodId) (x0 : Addr) (x1 : Int64) : entryFrame m #[(.ref x0), (.long x1)] 3 = mkF m 0 #[rv x0, lv x1, .second] [] := by first | (simp [entryFrame, mkF, argsToLocals, Value.category]; done) | rfl
def Q32 (Z : State) (oa : Addr) (qo : Int64) (xs : Int32) (h0 : Heap) (n0 : Nat) (rv_ : Option Value) (h_ : Heap) (L_ : List Loc) : Prop := rv_ = some (.int ((qo - (qo / (xs.toInt64)) * (xs.toInt64)).toInt32)) ∧ Fr n0 L_ ∧ h_ = h0
set_option maxRecDepth 65536 in
set_option maxHeartbeats 40000000 in
theorem rm32 (l : Launch) (Z : State) (a0 : Array Value) (hw : ∀ d ∈ tables_1, d.before a0 Z = true) (ws : List Jvm.Cond) (oa : Addr) (qo : Int64) (xs : Int32) (h0 : Heap) (n0 : Nat) (Z0 : n0 ≤ h0.size) (Fs : Fld Z h0 oa "evenkeel/client/Window" "size" "I" (.int xs)) (hz : (xs.toInt64) ≠ 0) :
    MetFree l (⟨"evenkeel/client/Window", "bit", "(J)I"⟩ : MethodName) (head1 (Jvm.Cond.code (⟨"evenkeel/client/Window", "bit", "(J)I"⟩ : MethodName) prog_141_method_23_code 3 (some .int) :: ws) ({ frames := 0, cells := 0, slots := 0, locals := 0 } : Room)) (fun a U => a = #[(.ref oa), (.long qo)] ∧ Z.Warmed39 U.vm ∧ U.heap = h0) (fun _ _ _ _ _ => True) (fun _ U o U' => ∃ v L, o = .returned v ∧ Q32 Z oa qo xs h0 n0 v U'.heap L ∧ FrameEnd U o U' L ({ frames := 0, cells := 0, slots := 0, locals := 0 } : Room).cells ({ frames := 0, cells := 0, slots := 0, locals := 0 } : Room).slots) := by
  refine MetFree.of_bodySF (plainFor_of_name pn_8) hisR ?_
  intro p e s m args below meth c s₁ Bd hml0 hP hK
  obtain ⟨rfl, hZ, hh⟩ := hP
  have hx := Bd.exec
  have hby := Bd.bytes
  have hml : c.maxLocals = 3 := hml0
  have hown : s.vm.findClass "evenkeel/client/Window" = some m.cls := findClass_of_methodNamed Bd.named
  have hnm := (name_of_methodNamed Bd.named Bd.method).1
  have X0 : Stand p l e ({ frames := 0, cells := 0, slots := 0, locals := 0 } : Room) s m #[(.ref oa), (.long qo)] below meth c s₁ [] 0 0 := Stand.of_body Bd
  have e0 : s₁.heap = h0 := by rw [← hh, Bd.state]; rfl
  have N0 := Fr.nil n0
  obtain ⟨G, hG, pre0⟩ : ∃ G : State → Prop, (∀ t, G t → Steps p.tables e below (s₁.setTop (entryFrame m #[(.ref oa), (.long qo)] 3)) t) ∧ ∀ t, own_K p e below m s₁ 0 #[rv oa, lv qo, .second] [] t → G t := ⟨fun t => Steps p.tables e below (s₁.setTop (entryFrame m #[(.ref oa), (.long qo)] 3)) t, fun _ k => k, fun t k => castTop (ef_32 m oa qo) k⟩
  obtain ⟨T1, X1, e1, st1⟩ := getF X0 hx hZ hown (host := "") (Or.inl (hw _ (List.mem_of_getElem? (i := 132) rfl))) Via.refl e0 Fs (g := (mkF m 2 #[rv oa, lv qo, .second] [(.ref oa), (.long qo)])) rfl rfl (hb hby d32_2)
  have pre2 : ∀ t, own_K p e below m T1 8 #[rv oa, lv qo, .second] [(.int ((qo - (qo / (xs.toInt64)) * (xs.toInt64)).toInt32))] t → G t := by
    intro t k
    refine pre0 t ?_
    show own_K p e below m s₁ 0 #[rv oa, lv qo, .second] [] _
    refine XS.lloadN X0.here hx rfl (hb hby d32_0) rfl ?_
    show own_K p e below m s₁ 1 #[rv oa, lv qo, .second] [(.long qo)] _
    refine XS.aloadN X0.here hx rfl (hb hby d32_1) rfl rfl ?_
    show own_K p e below m s₁ 2 #[rv oa, lv qo, .second] [(.ref oa), (.long qo)] _
    refine st1 _ ?_
    show own_K p e below m T1 5 #[rv oa, lv qo, .second] [(.int xs), (.long qo)] _
    refine XS.i2l X1.here hx rfl (hb hby d32_5) rfl ?_
    show own_K p e below m T1 6 #[rv oa, lv qo, .second] [(.long (xs.toInt64)), (.long qo)] _
    refine XS.lrem X1.here hx rfl (hb hby d32_6) rfl hz ?_
    show own_K p e below m T1 7 #[rv oa, lv qo, .second] [(.long (qo - (qo / (xs.toInt64)) * (xs.toInt64)))] _
    refine XS.l2i X1.here hx rfl (hb hby d32_7) rfl ?_
    exact k
  obtain ⟨fs, hr, hrun, hended, hW, hsame⟩ := X1.leave (v := some (.int ((qo - (qo / (xs.toInt64)) * (xs.toInt64)).toInt32))) (fun h => by rw [Bd.returns] at h; cases h)
  refine ⟨_, _, hG _ (pre2 _ ?_), hrun, hended, _, _, rfl, ?_, ⟨_, rfl⟩, hW, hsame.mono (by decide) (by decide)⟩
  · show own_K p e below m T1 8 #[rv oa, lv qo, .second] [(.int ((qo - (qo / (xs.toInt64)) * (xs.toInt64)).toInt32))] _
    exact retI X1 hx Bd.returns (hb hby d32_8) hr
  · show Q32 Z oa qo xs h0 n0 _ T1.heap _
    rw [e1]
    exact ⟨rfl, N0, rfl⟩

theorem d34_0 : decode jdk_92_method_2_code 0 = .ok (.getstatic 3, 3) := by decide +kernel
theorem d34_3 : decode jdk_92_method_2_code 3 = .ok (.ifCond .ne 34, 3) := by decide +kernel
theorem d34_37 : decode jdk_92_method_2_code 37 = .ok (.getstatic 3, 3) := by decide +kernel
theorem d34_40 : decode jdk_92_method_2_code 40 = .ok (.ifCond .ne 30, 3) := by decide +kernel
theorem d34_70 : decode jdk_92_method_2_code 70 = .ok (.getstatic 3, 3) := by decide +kernel
theorem d34_73 : decode jdk_92_method_2_code 73 = .ok (.ifCond .ne 37, 3) := by decide +kernel
theorem d34_110 : decode jdk_92_method_2_code 110 = .ok (.return_, 1) := by decide +kernel
theorem ef_34 (m : MethodId) (x0 : Addr) : entryFrame m #[(.ref x0)] 1 = mkF m 0 #[rv x0] [] := by first | (simp [entryFrame, mkF, argsToLocals, Value.category]; done) | rfl
def Q34 (Z : State) (oa : Addr) (el : Addr) (ea : Addr) (kE : ClassId) (h0 : Heap) (n0 : Nat) (rv_ : Option Value) (h_ : Heap) (L_ : List Loc) : Prop := rv_ = none ∧ Fr n0 L_ ∧ h_ = h0
set_option maxRecDepth 65536 in
set_option maxHeartbeats 40000000 in
theorem rm34 (l : Launch) (Z : State) (a0 : Array Value) (hw : ∀ d ∈ tables_1, d.before a0 Z = true) (ws : List Jvm.Cond) (oa : Addr) (el : Addr) (ea : Addr) (kE : ClassId) (h0 : Heap) (n0 : Nat) (Z0 : n0 ≤ h0.size) (O_ : Old Z n0 h0) (P_ : own_P Z el ea kE) :
    MetFree l (⟨"java/util/BitSet", "checkInvariants", "()V"⟩ : MethodName) (head1 (Jvm.Cond.code (⟨"java/util/BitSet", "checkInvariants", "()V"⟩ : MethodName) jdk_92_method_2_code 1 none :: ws) ({ frames := 0, cells := 0, slots := 0, locals := 0 } : Room)) (fun a U => a = #[(.ref oa)] ∧ Z.Warmed39 U.vm ∧ U.heap = h0) (fun _ _ _ _ _ => True) (fun _ U o U' => ∃ v L, o = .returned v ∧ Q34 Z oa el ea kE h0 n0 v U'.heap L ∧ FrameEnd U o U' L ({ frames := 0, cells := 0, slots := 0, locals := 0 } : Room).cells ({ frames := 0, cells := 0, slots := 0, locals := 0 } : Room).slots) := by
  refine MetFree.of_bodySF (plainFor_of_name pn_7) hisR ?_
  intro p e s m args below meth c s₁ Bd hml0 hP hK
  obtain ⟨rfl, hZ, hh⟩ := hP
  have hx := Bd.exec
  have hby := Bd.bytes
  have hml : c.maxLocals = 1 := hml0
  have hown : s.vm.findClass "java/util/BitSet" = some m.cls := findClass_of_methodNamed Bd.named
  have hnm := (name_of_methodNamed Bd.named Bd.method).1
  have X0 : Stand p l e ({ frames := 0, cells := 0, slots := 0, locals := 0 } : Room) s m #[(.ref oa)] below meth c s₁ [] 0 0 := Stand.of_body Bd
  have e0 : s₁.heap = h0 := by rw [← hh, Bd.state]; rfl
  have N0 := Fr.nil n0
  obtain ⟨G, hG, pre0⟩ : ∃ G : State → Prop, (∀ t, G t → Steps p.tables e below (s₁.setTop (entryFrame m #[(.ref oa)] 1)) t) ∧ ∀ t, own_K p e below m s₁ 0 #[rv oa] [] t → G t := ⟨fun t => Steps p.tables e below (s₁.setTop (entryFrame m #[(.ref oa)] 1)) t, fun _ k => k, fun t k => castTop (ef_34 m oa) k⟩
  obtain ⟨T1, X1, e1, st1⟩ := getS2 X0 hx hZ hown (host := "") (Or.inl (hw _ (List.mem_of_getElem? (i := 253) rfl))) Via.refl e0 (Sta.ext O_.2 P_.2.2.2.2.2) (g := (mkF m 0 #[rv oa] [])) rfl (hb hby d34_0)
  obtain ⟨T2, X2, e2, st2⟩ := getS2 X1 hx hZ hown (host := "") (Or.inl (hw _ (List.mem_of_getElem? (i := 253) rfl))) Via.refl e1 (Sta.ext O_.2 P_.2.2.2.2.2) (g := (mkF m 37 #[rv oa] [])) rfl (hb hby d34_37)
  obtain ⟨T3, X3, e3, st3⟩ := getS2 X2 hx hZ hown (host := "") (Or.inl (hw _ (List.mem_of_getElem? (i := 253) rfl))) Via.refl e2 (Sta.ext O_.2 P_.2.2.2.2.2) (g := (mkF m 70 #[rv oa] [])) rfl (hb hby d34_70)
  have pre4 : ∀ t, own_K p e below m T3 110 #[rv oa] [] t → G t := by
    intro t k
    refine pre0 t ?_
    show own_K p e below m s₁ 0 #[rv oa] [] _
    refine st1 _ ?_
    show own_K p e below m T1 3 #[rv oa] [(.int (1 : Int32))] _
    refine XS.ifYes X1.here hx rfl (pc0 := 3) (pc' := 37) rfl (hb hby d34_3) rfl ((if0 _ _).trans (feq (by decide : ¬ ((1 : Int32) = (0 : Int32)))).2) (by decide) (by decide) ?_
    show own_K p e below m T1 37 #[rv oa] [] _
    refine st2 _ ?_
    show own_K p e below m T2 40 #[rv oa] [(.int (1 : Int32))] _
    refine XS.ifYes X2.here hx rfl (pc0 := 40) (pc' := 70) rfl (hb hby d34_40) rfl ((if0 _ _).trans (feq (by decide : ¬ ((1 : Int32) = (0 : Int32)))).2) (by decide) (by decide) ?_
    show own_K p e below m T2 70 #[rv oa] [] _
    refine st3 _ ?_
    show own_K p e below m T3 73 #[rv oa] [(.int (1 : Int32))] _
    refine XS.ifYes X3.here hx rfl (pc0 := 73) (pc' := 110) rfl (hb hby d34_73) rfl ((if0 _ _).trans (feq (by decide : ¬ ((1 : Int32) = (0 : Int32)))).2) (by decide) (by decide) ?_
    exact k
  obtain ⟨fs, hr, hrun, hended, hW, hsame⟩ := X3.leave (v := none) (fun _ => rfl)
  refine ⟨_, _, hG _ (pre4 _ ?_), hrun, hended, _, _, rfl, ?_, ⟨_, rfl⟩, hW, hsame.mono (by decide) (by decide)⟩
  · show own_K p e below m T3 110 #[rv oa] [] _
    exact X3.returnOut hx Bd.returns (hb hby d34_110) hr
  · show Q34 Z oa el ea kE h0 n0 _ T3.heap _
    rw [e3]
    exact ⟨rfl, N0, rfl⟩

theorem d35_0 : decode jdk_92_method_33_code 0 = .ok (.aload_n 0, 1) := by decide +kernel
theorem d35_1 : decode jdk_92_method_33_code 1 = .ok (.getfield 7, 3) := by decide +kernel
theorem d35_4 : decode jdk_92_method_33_code 4 = .ok (.ifCond .ne 7, 3) := by decide +kernel
theorem d35_7 : decode jdk_92_method_33_code 7 = .ok (.iconst 1, 1) := by decide +kernel
theorem d35_8 : decode jdk_92_method_33_code 8 = .ok (.goto 4, 3) := by decide +kernel
theorem d35_12 : decode jdk_92_method_33_code 12 = .ok (.ireturn, 1) := by decide +kernel
theorem d35_11 : decode jdk_92_method_33_code 11 = .ok (.iconst 0, 1) := by decide +kernel
theorem ef_35 (m : MethodId) (x0 : Addr) : entryFrame m #[(.ref x0)] 1 = mkF m 0 #[rv x0] [] := by first | (simp [entryFrame, mkF, argsToLocals, Value.category]; done) | rfl
def Q35 (Z : State) (oa : Addr) (xw : Int32) (h0 : Heap) (n0 : Nat) (rv_ : Option Value) (h_ : Heap) (L_ : List Loc) : Prop := rv_ = some (.int (if xw = (0 : Int32) then (1 : Int32) else (0 : Int32))) ∧ Fr n0 L_ ∧ h_ = h0
set_option maxRecDepth 65536 in
set_option maxHeartbeats 40000000 in
theorem rm35 (l : Launch) (Z : State) (a0 : Array Value) (hw : ∀ d ∈ tables_1, d.before a0 Z = true) (ws : List Jvm.Cond) (oa : Addr) (xw : Int32) (h0 : Heap) (n0 : Nat) (Z0 : n0 ≤ h0.size) (Fw : Fld Z h0 oa "java/util/BitSet" "wordsInUse" "I" (.int xw)) :
    MetFree l (⟨"java/util/BitSet", "isEmpty", "()Z"⟩ : MethodName) (head1 (Jvm.Cond.code (⟨"java/util/BitSet", "isEmpty", "()Z"⟩ : MethodName) jdk_92_method_33_code 1 (some .boolean) :: ws) ({ frames := 0, cells := 0, slots := 0, locals := 0 } : Room)) (fun a U => a = #[(.ref oa)] ∧ Z.Warmed39 U.vm ∧ U.heap = h0) (fun _ _ _ _ _ => True) (fun _ U o U' => ∃ v L, o = .returned v ∧ Q35 Z oa xw h0 n0 v U'.heap L ∧ FrameEnd U o U' L ({ frames := 0, cells := 0, slots := 0, locals := 0 } : Room).cells ({ frames := 0, cells := 0, slots := 0, locals := 0 } : Room).slots) := by
  refine MetFree.of_bodySF (plainFor_of_name pn_7) hisR ?_
  intro p e s m args below meth c s₁ Bd hml0 hP hK
  obtain ⟨rfl, hZ, hh⟩ := hP
  have hx := Bd.exec
  have hby := Bd.bytes
  have hml : c.maxLocals = 1 := hml0
  have hown : s.vm.findClass "java/util/BitSet" = some m.cls := findClass_of_methodNamed Bd.named
  have hnm := (name_of_methodNamed Bd.named Bd.method).1
  have X0 : Stand p l e ({ frames := 0, cells := 0, slots := 0, locals := 0 } : Room) s m #[(.ref oa)] below meth c s₁ [] 0 0 := Stand.of_body Bd
  have e0 : s₁.heap = h0 := by rw [← hh, Bd.state]; rfl
  have N0 := Fr.nil n0
  obtain ⟨G, hG, pre0⟩ : ∃ G : State → Prop, (∀ t, G t → Steps p.tables e below (s₁.setTop (entryFrame m #[(.ref oa)] 1)) t) ∧ ∀ t, own_K p e below m s₁ 0 #[rv oa] [] t → G t := ⟨fun t => Steps p.tables e below (s₁.setTop (entryFrame m #[(.ref oa)] 1)) t, fun _ k => k, fun t k => castTop (ef_35 m oa) k⟩
  obtain ⟨T1, X1, e1, st1⟩ := getF X0 hx hZ hown (host := "") (Or.inl (hw _ (List.mem_of_getElem? (i := 110) rfl))) Via.refl e0 Fw (g := (mkF m 1 #[rv oa] [(.ref oa)])) rfl rfl (hb hby d35_1)
  have pre2 : ∀ t, own_K p e below m T1 4 #[rv oa] [(.int xw)] t → G t := by
    intro t k
    refine pre0 t ?_
    show own_K p e below m s₁ 0 #[rv oa] [] _
    refine XS.aloadN X0.here hx rfl (hb hby d35_0) rfl rfl ?_
    show own_K p e below m s₁ 1 #[rv oa] [(.ref oa)] _
    refine st1 _ ?_
    exact k
  by_cases hc4_3 : xw = (0 : Int32)
  · have pre4 : ∀ t, own_K p e below m T1 12 #[rv oa] [(.int (1 : Int32))] t → G t := by
      intro t k
      refine pre2 t ?_
      show own_K p e below m T1 4 #[rv oa] [(.int xw)] _
      refine XS.ifNo X1.here hx rfl (hb hby d35_4) rfl ((if0 _ _).trans (teq hc4_3).2) ?_
      show own_K p e below m T1 7 #[rv oa] [] _
      refine XS.iconst X1.here hx rfl (hb hby d35_7) ?_
      show own_K p e below m T1 8 #[rv oa] [(.int (1 : Int32))] _
      refine XS.goto X1.here hx rfl (pc0 := 8) (pc' := 12) rfl (hb hby d35_8) (by decide) (by decide) ?_
      exact k
    obtain ⟨fs, hr, hrun, hended, hW, hsame⟩ := X1.leave (v := some (.int (1 : Int32))) (fun h => by rw [Bd.returns] at h; cases h)
    refine ⟨_, _, hG _ (pre4 _ ?_), hrun, hended, _, _, rfl, ?_, ⟨_, rfl⟩, hW, hsame.mono (by decide) (by decide)⟩
    · show own_K p e below m T1 12 #[rv oa] [(.int (1 : Int32))] _
      exact retN X1 hx (t := .boolean) Bd.returns (by simp) (hb hby d35_12) hr
    · show Q35 Z oa xw h0 n0 _ T1.heap _
      rw [e1]
      exact ⟨(by simp only [if_pos hc4_3]), N0, rfl⟩
  · have pre5 : ∀ t, own_K p e below m T1 12 #[rv oa] [(.int (0 : Int32))] t → G t := by
      intro t k
      refine pre2 t ?_
      show own_K p e below m T1 4 #[rv oa] [(.int xw)] _
      refine XS.ifYes X1.here hx rfl (pc0 := 4) (pc' := 11) rfl (hb hby d35_4) rfl ((if0 _ _).trans (feq hc4_3).2) (by decide) (by decide) ?_
      show own_K p e below m T1 11 #[rv oa] [] _
      refine XS.iconst X1.here hx rfl (hb hby d35_11) ?_
      exact k
    obtain ⟨fs, hr, hrun, hended, hW, hsame⟩ := X1.leave (v := some (.int (0 : Int32))) (fun h => by rw [Bd.returns] at h; cases h)
    refine ⟨_, _, hG _ (pre5 _ ?_), hrun, hended, _, _, rfl, ?_, ⟨_, rfl⟩, hW, hsame.mono (by decide) (by decide)⟩
    · show own_K p e below m T1 12 #[rv oa] [(.int (0 : Int32))] _
      exact retN X1 hx (t := .boolean) Bd.returns (by simp) (hb hby d35_12) hr
    · show Q35 Z oa xw h0 n0 _ T1.heap _
      rw [e1]
      exact ⟨(by simp only [if_neg hc4_3]), N0, rfl⟩

theorem d33_0 : decode jdk_92_method_26_code 0 = .ok (.iload_n 1, 1) := by decide +kernel
theorem d33_1 : decode jdk_92_method_26_code 1 = .ok (.ifCond .ge 30, 3) := by decide +kernel
theorem d33_31 : decode jdk_92_method_26_code 31 = .ok (.aload_n 0, 1) := by decide +kernel
theorem d33_32 : decode jdk_92_method_26_code 32 = .ok (.invokevirtual 56, 3) := by decide +kernel
theorem d33_35 : decode jdk_92_method_26_code 35 = .ok (.iload_n 1, 1) := by decide +kernel
theorem d33_36 : decode jdk_92_method_26_code 36 = .ok (.invokestatic 52, 3) := by decide +kernel
theorem d33_39 : decode jdk_92_method_26_code 39 = .ok (.istore_n 2, 1) := by decide +kernel
theorem d33_40 : decode jdk_92_method_26_code 40 = .ok (.iload_n 2, 1) := by decide +kernel
theorem d33_41 : decode jdk_92_method_26_code 41 = .ok (.aload_n 0, 1) := by decide +kernel
theorem d33_42 : decode jdk_92_method_26_code 42 = .ok (.getfield 7, 3) := by decide +kernel
theorem d33_45 : decode jdk_92_method_26_code 45 = .ok (.if_icmp .ge 22, 3) := by decide +kernel
theorem d33_67 : decode jdk_92_method_26_code 67 = .ok (.iconst 0, 1) := by decide +kernel
theorem d33_68 : decode jdk_92_method_26_code 68 = .ok (.ireturn, 1) := by decide +kernel
theorem ef_33 (m : MethodId) (x0 : Addr) (x1 : Int32) : entryFrame m #[(.ref x0), (.int x1)] 3 = mkF m 0 #[rv x0, iv x1, .unset] [] := by first | (simp [entryFrame, mkF, argsToLocals, Value.category]; done) | rfl
def Q33 (Z : State) (oa : Addr) (xi : Int32) (el : Addr) (ea : Addr) (kE : ClassId) (h0 : Heap) (n0 : Nat) (rv_ : Option Value) (h_ : Heap) (L_ : List Loc) : Prop := rv_ = some (.int (0 : Int32)) ∧ Fr n0 L_ ∧ h_ = h0
set_option maxRecDepth 65536 in
set_option maxHeartbeats 40000000 in
theorem rm33 (l : Launch) (Z : State) (a0 : Array Value) (hw : ∀ d ∈ tables_1, d.before a0 Z = true) (ws : List Jvm.Cond) (oa : Addr) (xi : Int32) (el : Addr) (ea : Addr) (kE : ClassId) (h0 : Heap) (n0 : Nat) (Z0 : n0 ≤ h0.size) (E_ : Exa Z h0 oa "java/util/BitSet") (Fw : Fld Z h0 oa "java/util/BitSet" "wordsInUse" "I" (.int (0 : Int32))) (hi : ¬ xi < (0 : Int32)) (O_ : Old Z n0 h0) (P_ : own_P Z el ea kE) :
    MetFree l (⟨"java/util/BitSet", "get", "(I)Z"⟩ : MethodName) (head1 (Jvm.Cond.code (⟨"java/util/BitSet", "get", "(I)Z"⟩ : MethodName) jdk_92_method_26_code 3 (some .boolean) :: ws) ({ frames := 1, cells := 0, slots := 0, locals := 12 } : Room)) (fun a U => a = #[(.ref oa), (.int xi)] ∧ Z.Warmed39 U.vm ∧ U.heap = h0) (fun _ _ _ _ _ => True) (fun _ U o U' => ∃ v L, o = .returned v ∧ Q33 Z oa xi el ea kE h0 n0 v U'.heap L ∧ FrameEnd U o U' L ({ frames := 1, cells := 0, slots := 0, locals := 12 } : Room).cells ({ frames := 1, cells := 0, slots := 0, locals := 12 } : Room).slots) := by
  refine MetFree.of_bodySF (plainFor_of_name pn_7) hisR ?_
  intro p e s m args below meth c s₁ Bd hml0 hP hK
  obtain ⟨rfl, hZ, hh⟩ := hP
  have hx := Bd.exec
  have hby := Bd.bytes
  have hml : c.maxLocals = 3 := hml0
  have hown : s.vm.findClass "java/util/BitSet" = some m.cls := findClass_of_methodNamed Bd.named
  have hnm := (name_of_methodNamed Bd.named Bd.method).1
  have X0 : Stand p l e ({ frames := 1, cells := 0, slots := 0, locals := 12 } : Room) s m #[(.ref oa), (.int xi)] below meth c s₁ [] 0 0 := Stand.of_body Bd
  have e0 : s₁.heap = h0 := by rw [← hh, Bd.state]; rfl
  have N0 := Fr.nil n0
  obtain ⟨G, hG, pre0⟩ : ∃ G : State → Prop, (∀ t, G t → Steps p.tables e below (s₁.setTop (entryFrame m #[(.ref oa), (.int xi)] 3)) t) ∧ ∀ t, own_K p e below m s₁ 0 #[rv oa, iv xi, .unset] [] t → G t := ⟨fun t => Steps p.tables e below (s₁.setTop (entryFrame m #[(.ref oa), (.int xi)] 3)) t, fun _ k => k, fun t k => castTop (ef_33 m oa xi) k⟩
  obtain ⟨cq1, q1, q1'⟩ := E_.cell
  obtain ⟨_, _, ⟨T1, L1, k1, n1⟩, -, X1, ⟨Lc1, hQ1, l1, y1, z1⟩, st1⟩ := X0.privateBack hx (y := (⟨"java/util/BitSet", "checkInvariants", "()V"⟩ : MethodName)) hown (mvT hZ (hw _ (List.mem_of_getElem? (i := 248) rfl))) (mvT hZ (hw _ (List.mem_of_getElem? (i := 249) rfl))) (mvT hZ (hw _ (List.mem_of_getElem? (i := 251) rfl))) (Cond.privateMethod_at (mvP hZ (hw _ (List.mem_of_getElem? (i := 250) rfl)) (args := #[]))) (mvT hZ (hw _ (List.mem_of_getElem? (i := 252) rfl))) (by decide) (backOf (W := 0) (rm34 l Z a0 hw [] oa el ea kE h0 n0 Z0 O_ P_) hZ (hw _ (List.mem_of_getElem? (i := 252) rfl)) (hw _ (List.mem_of_getElem? (i := 105) rfl)) (by decide) (by decide)) (g := (mkF m 32 #[rv oa, iv xi, .unset] [(.ref oa)])) rfl (by rw [hml]; rfl) (Steps.refl _) (a := oa) (by rw [e0]; exact q1) q1' (argsL := []) (rest := []) (lenOf pd_3 rfl) rfl (by show 2 * 0 + _ ≤ _; exact Nat.le_of_eq rfl) (hb hby d33_32) (fun _ _ => ⟨rfl, e0, (by decide : 0 + 0 ≤ _), (by decide : 0 + 0 ≤ _)⟩)
  dsimp only [Pt.U, Pt.locs, Pt.cells, Pt.slots] at X1 l1 y1 z1 st1 hQ1
  subst l1 y1 z1
  obtain ⟨rfl, Nq1, eh1⟩ := hQ1
  have N1 := Fr.app N0 Nq1
  obtain ⟨_, _, ⟨T2, L2, k2, n2⟩, -, X2, ⟨Lc2, hQ2, l2, y2, z2⟩, st2⟩ := Jvm.LawKit.callS X1 hx (y := (⟨"java/util/BitSet", "wordIndex", "(I)I"⟩ : MethodName)) hown (mvT hZ (hw _ (List.mem_of_getElem? (i := 119) rfl))) (mvT hZ (hw _ (List.mem_of_getElem? (i := 120) rfl))) (mvT hZ (hw _ (List.mem_of_getElem? (i := 105) rfl))) (mvT hZ (hw _ (List.mem_of_getElem? (i := 121) rfl))) (by decide) (backOf (W := 0) (rm15 l Z a0 hw [] xi h0 n0 Z0 ) hZ (hw _ (List.mem_of_getElem? (i := 121) rfl)) (hw _ (List.mem_of_getElem? (i := 105) rfl)) (by decide) (by decide)) (g := (mkF m 36 #[rv oa, iv xi, .unset] [(.int xi)])) rfl (by rw [hml]; rfl) (argsL := [(.int xi)]) (rest := []) (lenOf pd_8 rfl) rfl (by show 2 * 0 + _ ≤ _; exact Nat.le_of_eq rfl) (hb hby d33_36) (fun _ _ => ⟨rfl, eh1, (by decide : 0 + 0 ≤ _), (by decide : 0 + 0 ≤ _)⟩)
  dsimp only [Pt.U, Pt.locs, Pt.cells, Pt.slots] at X2 l2 y2 z2 st2 hQ2
  subst l2 y2 z2
  obtain ⟨rfl, Nq2, eh2⟩ := hQ2
  have N2 := Fr.app N1 Nq2
  obtain ⟨T3, X3, e3, st3⟩ := getF X2 hx hZ hown (host := "") (Or.inl (hw _ (List.mem_of_getElem? (i := 110) rfl))) Via.refl eh2 Fw (g := (mkF m 42 #[rv oa, iv xi, iv (xi >>> ((6 : Int32) &&& 31))] [(.ref oa), (.int (xi >>> ((6 : Int32) &&& 31)))])) rfl rfl (hb hby d33_42)
  have pre4 : ∀ t, own_K p e below m T3 68 #[rv oa, iv xi, iv (xi >>> ((6 : Int32) &&& 31))] [(.int (0 : Int32))] t → G t := by
    intro t k
    refine pre0 t ?_
    show own_K p e below m s₁ 0 #[rv oa, iv xi, .unset] [] _
    refine XS.iloadN X0.here hx rfl (hb hby d33_0) rfl ?_
    show own_K p e below m s₁ 1 #[rv oa, iv xi, .unset] [(.int xi)] _
    refine XS.ifYes X0.here hx rfl (pc0 := 1) (pc' := 31) rfl (hb hby d33_1) rfl ((if0 _ _).trans (flt hi).2.1) (by decide) (by decide) ?_
    show own_K p e below m s₁ 31 #[rv oa, iv xi, .unset] [] _
    refine XS.aloadN X0.here hx rfl (hb hby d33_31) rfl rfl ?_
    show own_K p e below m s₁ 32 #[rv oa, iv xi, .unset] [(.ref oa)] _
    refine st1.trans ?_
    show own_K p e below m T1 35 #[rv oa, iv xi, .unset] [] _
    refine XS.iloadN X1.here hx rfl (hb hby d33_35) rfl ?_
    show own_K p e below m T1 36 #[rv oa, iv xi, .unset] [(.int xi)] _
    refine st2 _ ?_
    show own_K p e below m T2 39 #[rv oa, iv xi, .unset] [(.int (xi >>> ((6 : Int32) &&& 31)))] _
    refine XS.istoreN X2.here hx rfl (hb hby d33_39) rfl (l' := #[rv oa, iv xi, iv (xi >>> ((6 : Int32) &&& 31))]) rfl ?_
    show own_K p e below m T2 40 #[rv oa, iv xi, iv (xi >>> ((6 : Int32) &&& 31))] [] _
    refine XS.iloadN X2.here hx rfl (hb hby d33_40) rfl ?_
    show own_K p e below m T2 41 #[rv oa, iv xi, iv (xi >>> ((6 : Int32) &&& 31))] [(.int (xi >>> ((6 : Int32) &&& 31)))] _
    refine XS.aloadN X2.here hx rfl (hb hby d33_41) rfl rfl ?_
    show own_K p e below m T2 42 #[rv oa, iv xi, iv (xi >>> ((6 : Int32) &&& 31))] [(.ref oa), (.int (xi >>> ((6 : Int32) &&& 31)))] _
    refine st3 _ ?_
    show own_K p e below m T3 45 #[rv oa, iv xi, iv (xi >>> ((6 : Int32) &&& 31))] [(.int (0 : Int32)), (.int (xi >>> ((6 : Int32) &&& 31)))] _
    refine XS.icmpYes X3.here hx rfl (pc0 := 45) (pc' := 67) rfl (hb hby d33_45) rfl (flt (own_shr6 hi)).2.1 (by decide) (by decide) ?_
    show own_K p e below m T3 67 #[rv oa, iv xi, iv (xi >>> ((6 : Int32) &&& 31))] [] _
    refine XS.iconst X3.here hx rfl (hb hby d33_67) ?_
    exact k
  obtain ⟨fs, hr, hrun, hended, hW, hsame⟩ := X3.leave (v := some (.int (0 : Int32))) (fun h => by rw [Bd.returns] at h; cases h)
  refine ⟨_, _, hG _ (pre4 _ ?_), hrun, hended, _, _, rfl, ?_, ⟨_, rfl⟩, hW, hsame.mono (by decide) (by decide)⟩
  · show own_K p e below m T3 68 #[rv oa, iv xi, iv (xi >>> ((6 : Int32) &&& 31))] [(.int (0 : Int32))] _
    exact retN X3 hx (t := .boolean) Bd.returns (by simp) (hb hby d33_68) hr
  · show Q33 Z oa xi el ea kE h0 n0 _ T3.heap _
    rw [e3]
    exact ⟨rfl, N2, rfl⟩

theorem d31_0 : decode prog_141_method_12_code 0 = .ok (.lload_n 1, 1) := by decide +kernel
theorem d31_1 : decode prog_141_method_12_code 1 = .ok (.aload_n 0, 1) := by decide +kernel
theorem d31_2 : decode prog_141_method_12_code 2 = .ok (.getfield 48, 3) := by decide +kernel
theorem d31_5 : decode prog_141_method_12_code 5 = .ok (.lcmp, 1) := by decide +kernel
theorem d31_6 : decode prog_141_method_12_code 6 = .ok (.ifCond .lt 55, 3) := by decide +kernel
theorem d31_9 : decode prog_141_method_12_code 9 = .ok (.lload_n 1, 1) := by decide +kernel
theorem d31_10 : decode prog_141_method_12_code 10 = .ok (.aload_n 0, 1) := by decide +kernel
theorem d31_11 : decode prog_141_method_12_code 11 = .ok (.getfield 51, 3) := by decide +kernel
theorem d31_14 : decode prog_141_method_12_code 14 = .ok (.lcmp, 1) := by decide +kernel
theorem d31_15 : decode prog_141_method_12_code 15 = .ok (.ifCond .ge 46, 3) := by decide +kernel
theorem d31_18 : decode prog_141_method_12_code 18 = .ok (.lload_n 1, 1) := by decide +kernel
theorem d31_19 : decode prog_141_method_12_code 19 = .ok (.aload_n 0, 1) := by decide +kernel
theorem d31_20 : decode prog_141_method_12_code 20 = .ok (.getfield 48, 3) := by decide +kernel
theorem d31_23 : decode prog_141_method_12_code 23 = .ok (.lcmp, 1) := by decide +kernel
theorem d31_24 : decode prog_141_method_12_code 24 = .ok (.ifCond .eq 18, 3) := by decide +kernel
theorem d31_42 : decode prog_141_method_12_code 42 = .ok (.aload_n 0, 1) := by decide +kernel
theorem d31_43 : decode prog_141_method_12_code 43 = .ok (.getfield 32, 3) := by decide +kernel
theorem d31_46 : decode prog_141_method_12_code 46 = .ok (.aload_n 0, 1) := by decide +kernel
theorem d31_47 : decode prog_141_method_12_code 47 = .ok (.lload_n 1, 1) := by decide +kernel
theorem d31_48 : decode prog_141_method_12_code 48 = .ok (.invokevirtual 154, 3) := by decide +kernel
theorem pd_12 : parseMethodDescriptor "(J)I" = some ⟨[.long], some .int⟩ := by decide +kernel
theorem d31_51 : decode prog_141_method_12_code 51 = .ok (.invokevirtual 169, 3) := by decide +kernel
theorem pd_13 : parseMethodDescriptor "(I)Z" = some ⟨[.int], some .boolean⟩ := by decide +kernel
theorem d31_54 : decode prog_141_method_12_code 54 = .ok (.ifCond .ne 7, 3) := by decide +kernel
theorem d31_57 : decode prog_141_method_12_code 57 = .ok (.iconst 1, 1) := by decide +kernel
theorem d31_58 : decode prog_141_method_12_code 58 = .ok (.goto 4, 3) := by decide +kernel
theorem d31_62 : decode prog_141_method_12_code 62 = .ok (.ireturn, 1) := by decide +kernel
theorem ef_31 (m : MethodId) (x0 : Addr) (x1 : Int64) : entryFrame m #[(.ref x0), (.long x1)] 3 = mkF m 0 #[rv x0, lv x1, .second] [] := by first | (simp [entryFrame, mkF, argsToLocals, Value.category]; done) | rfl
def Q31 (Z : State) (oa : Addr) (qo : Int64) (qn : Int64) (xs : Int32) (bl : Addr) (el : Addr) (ea : Addr) (kE : ClassId) (h0 : Heap) (n0 : Nat) (rv_ : Option Value) (h_ : Heap) (L_ : List Loc) : Prop := rv_ = some (.int (1 : Int32)) ∧ Fr n0 L_ ∧ h_ = h0
set_option maxRecDepth 65536 in
set_option maxHeartbeats 40000000 in
theorem rm31 (l : Launch) (Z : State) (a0 : Array Value) (hw : ∀ d ∈ tables_1, d.before a0 Z = true) (ws : List Jvm.Cond) (oa : Addr) (qo : Int64) (qn : Int64) (xs : Int32) (bl : Addr) (el : Addr) (ea : Addr) (kE : ClassId) (h0 : Heap) (n0 : Nat) (Z0 : n0 ≤ h0.size) (E_ : Exa Z h0 oa "evenkeel/client/Window") (Fu : Fld Z h0 oa "evenkeel/client/Window" "unfinished" "J" (.long qo)) (Fn : Fld Z h0 oa "evenkeel/client/Window" "next" "J" (.long qn)) (Fs : Fld Z h0 oa "evenkeel/client/Window" "size" "I" (.int xs)) (Fl : Fld Z h0 oa "evenkeel/client/Window" "left" "Ljava/util/BitSet;" (.ref bl)) (El : Exa Z h0 bl "java/util/BitSet") (Fw : Fld Z h0 bl "java/util/BitSet" "wordsInUse" "I" (.int (0 : Int32))) (hlt : qo < qn) (hq0 : 0 ≤ qo.toInt) (hsz : 1 ≤ xs.toInt) (O_ : Old Z n0 h0) (P_ : own_P Z el ea kE) :
    MetFree l (⟨"evenkeel/client/Window", "inHand", "(J)Z"⟩ : MethodName) (head1 (Jvm.Cond.code (⟨"evenkeel/client/Window", "inHand", "(J)Z"⟩ : MethodName) prog_141_method_12_code 3 (some .boolean) :: ws) ({ frames := 2, cells := 0, slots := 0, locals := 26 } : Room)) (fun a U => a = #[(.ref oa), (.long qo)] ∧ Z.Warmed39 U.vm ∧ U.heap = h0) (fun _ _ _ _ _ => True) (fun _ U o U' => ∃ v L, o = .returned v ∧ Q31 Z oa qo qn xs bl el ea kE h0 n0 v U'.heap L ∧ FrameEnd U o U' L ({ frames := 2, cells := 0, slots := 0, locals := 26 } : Room).cells ({ frames := 2, cells := 0, slots := 0, locals := 26 } : Room).slots) := by
  refine MetFree.of_bodySF (plainFor_of_name pn_8) hisR ?_
  intro p e s m args below meth c s₁ Bd hml0 hP hK
  obtain ⟨rfl, hZ, hh⟩ := hP
  have hx := Bd.exec
  have hby := Bd.bytes
  have hml : c.maxLocals = 3 := hml0
  have hown : s.vm.findClass "evenkeel/client/Window" = some m.cls := findClass_of_methodNamed Bd.named
  have hnm := (name_of_methodNamed Bd.named Bd.method).1
  have X0 : Stand p l e ({ frames := 2, cells := 0, slots := 0, locals := 26 } : Room) s m #[(.ref oa), (.long qo)] below meth c s₁ [] 0 0 := Stand.of_body Bd
  have e0 : s₁.heap = h0 := by rw [← hh, Bd.state]; rfl
  have N0 := Fr.nil n0
  obtain ⟨G, hG, pre0⟩ : ∃ G : State → Prop, (∀ t, G t → Steps p.tables e below (s₁.setTop (entryFrame m #[(.ref oa), (.long qo)] 3)) t) ∧ ∀ t, own_K p e below m s₁ 0 #[rv oa, lv qo, .second] [] t → G t := ⟨fun t => Steps p.tables e below (s₁.setTop (entryFrame m #[(.ref oa), (.long qo)] 3)) t, fun _ k => k, fun t k => castTop (ef_31 m oa qo) k⟩
  obtain ⟨T1, X1, e1, st1⟩ := getF X0 hx hZ hown (host := "") (Or.inl (hw _ (List.mem_of_getElem? (i := 141) rfl))) Via.refl e0 Fu (g := (mkF m 2 #[rv oa, lv qo, .second] [(.ref oa), (.long qo)])) rfl rfl (hb hby d31_2)
  obtain ⟨T2, X2, e2, st2⟩ := getF X1 hx hZ hown (host := "") (Or.inl (hw _ (List.mem_of_getElem? (i := 143) rfl))) Via.refl e1 Fn (g := (mkF m 11 #[rv oa, lv qo, .second] [(.ref oa), (.long qo)])) rfl rfl (hb hby d31_11)
  obtain ⟨T3, X3, e3, st3⟩ := getF X2 hx hZ hown (host := "") (Or.inl (hw _ (List.mem_of_getElem? (i := 141) rfl))) Via.refl e2 Fu (g := (mkF m 20 #[rv oa, lv qo, .second] [(.ref oa), (.long qo)])) rfl rfl (hb hby d31_20)
  obtain ⟨T4, X4, e4, st4⟩ := getF X3 hx hZ hown (host := "") (Or.inl (hw _ (List.mem_of_getElem? (i := 130) rfl))) Via.refl e3 Fl (g := (mkF m 43 #[rv oa, lv qo, .second] [(.ref oa)])) rfl rfl (hb hby d31_43)
  obtain ⟨cq5, q5, q5'⟩ := E_.cell
  obtain ⟨_, _, ⟨T5, L5, k5, n5⟩, -, X5, ⟨Lc5, hQ5, l5, y5, z5⟩, st5⟩ := X4.privateBack hx (y := (⟨"evenkeel/client/Window", "bit", "(J)I"⟩ : MethodName)) hown (mvT hZ (hw _ (List.mem_of_getElem? (i := 239) rfl))) (mvT hZ (hw _ (List.mem_of_getElem? (i := 240) rfl))) (own_selp hZ (hw _ (List.mem_of_getElem? (i := 2) rfl)) (hw _ (List.mem_of_getElem? (i := 241) rfl)) (hw _ (List.mem_of_getElem? (i := 240) rfl)) (by decide)) (Cond.privateMethod_at (mvP hZ (hw _ (List.mem_of_getElem? (i := 241) rfl)) (args := #[]))) (mvT hZ (hw _ (List.mem_of_getElem? (i := 242) rfl))) (by decide) (backOf (W := 1) (rm32 l Z a0 hw [] oa qo xs h0 n0 Z0 Fs (own_snz hsz)) hZ (hw _ (List.mem_of_getElem? (i := 242) rfl)) (hw _ (List.mem_of_getElem? (i := 3) rfl)) (by decide) (by decide)) (g := (mkF m 48 #[rv oa, lv qo, .second] [(.long qo), (.ref oa), (.ref bl)])) rfl (by rw [hml]; rfl) (Steps.refl _) (a := oa) (by rw [e4]; exact q5) q5' (argsL := [(.long qo)]) (rest := [(.ref bl)]) (lenOf pd_12 rfl) rfl (by show 2 * 0 + _ ≤ _; exact Nat.le_of_eq rfl) (hb hby d31_48) (fun _ _ => ⟨rfl, e4, (by decide : 0 + 0 ≤ _), (by decide : 0 + 0 ≤ _)⟩)
  dsimp only [Pt.U, Pt.locs, Pt.cells, Pt.slots] at X5 l5 y5 z5 st5 hQ5
  subst l5 y5 z5
  obtain ⟨rfl, Nq5, eh5⟩ := hQ5
  have N5 := Fr.app N0 Nq5
  obtain ⟨cq6, kq6, q6a, q6b, q6c⟩ := isOf hZ eh5 El
  obtain ⟨_, _, ⟨T6, L6, k6, n6⟩, -, X6, ⟨Lc6, hQ6, l6, y6, z6⟩, st6⟩ := X5.virtualBack hx (y := (⟨"java/util/BitSet", "get", "(I)Z"⟩ : MethodName)) (z := (⟨"java/util/BitSet", "get", "(I)Z"⟩ : MethodName)) hown (mvT hZ (hw _ (List.mem_of_getElem? (i := 243) rfl))) (mvT hZ (hw _ (List.mem_of_getElem? (i := 244) rfl))) (notFace_of_selects (args := #[]) (mvT hZ (hw _ (List.mem_of_getElem? (i := 246) rfl)))) (mvT hZ (hw _ (List.mem_of_getElem? (i := 246) rfl))) (mvT hZ (hw _ (List.mem_of_getElem? (i := 245) rfl))) (by decide) (backOf (W := 0) (rm33 l Z a0 hw [] bl ((qo - (qo / (xs.toInt64)) * (xs.toInt64)).toInt32) el ea kE h0 n0 Z0 El Fw (own_bit0 hq0 hsz) O_ P_) hZ (hw _ (List.mem_of_getElem? (i := 247) rfl)) (hw _ (List.mem_of_getElem? (i := 105) rfl)) (by decide) (by decide)) q6a q6c (g := (mkF m 51 #[rv oa, lv qo, .second] [(.int ((qo - (qo / (xs.toInt64)) * (xs.toInt64)).toInt32)), (.ref bl)])) rfl (by rw [hml]; rfl) (Steps.refl _) (argsL := [(.int ((qo - (qo / (xs.toInt64)) * (xs.toInt64)).toInt32))]) (rest := []) (lenOf pd_13 rfl) rfl (by show 2 * 0 + _ ≤ _; exact Nat.le_of_eq rfl) (hb hby d31_51) (fun _ _ => ⟨rfl, eh5, (by decide : 0 + 0 ≤ _), (by decide : 0 + 0 ≤ _)⟩)
  dsimp only [Pt.U, Pt.locs, Pt.cells, Pt.slots] at X6 l6 y6 z6 st6 hQ6
  subst l6 y6 z6
  obtain ⟨rfl, Nq6, eh6⟩ := hQ6
  have N6 := Fr.app N5 Nq6
  have pre7 : ∀ t, own_K p e below m T6 62 #[rv oa, lv qo, .second] [(.int (1 : Int32))] t → G t := by
    intro t k
    refine pre0 t ?_
    show own_K p e below m s₁ 0 #[rv oa, lv qo, .second] [] _
    refine XS.lloadN X0.here hx rfl (hb hby d31_0) rfl ?_
    show own_K p e below m s₁ 1 #[rv oa, lv qo, .second] [(.long qo)] _
    refine XS.aloadN X0.here hx rfl (hb hby d31_1) rfl rfl ?_
    show own_K p e below m s₁ 2 #[rv oa, lv qo, .second] [(.ref oa), (.long qo)] _
    refine st1 _ ?_
    show own_K p e below m T1 5 #[rv oa, lv qo, .second] [(.long qo), (.long qo)] _
    refine XS.lcmp X1.here hx rfl (hb hby d31_5) rfl ?_
    show own_K p e below m T1 6 #[rv oa, lv qo, .second] [(.int (lcmpW qo qo))] _
    refine XS.ifNo X1.here hx rfl (hb hby d31_6) rfl ((if0 _ _).trans (flt (mt (lw_lt _ _).mp (own_irr _))).1) ?_
    show own_K p e below m T1 9 #[rv oa, lv qo, .second] [] _
    refine XS.lloadN X1.here hx rfl (hb hby d31_9) rfl ?_
    show own_K p e below m T1 10 #[rv oa, lv qo, .second] [(.long qo)] _
    refine XS.aloadN X1.here hx rfl (hb hby d31_10) rfl rfl ?_
    show own_K p e below m T1 11 #[rv oa, lv qo, .second] [(.ref oa), (.long qo)] _
    refine st2 _ ?_
    show own_K p e below m T2 14 #[rv oa, lv qo, .second] [(.long qn), (.long qo)] _
    refine XS.lcmp X2.here hx rfl (hb hby d31_14) rfl ?_
    show own_K p e below m T2 15 #[rv oa, lv qo, .second] [(.int (lcmpW qo qn))] _
    refine XS.ifNo X2.here hx rfl (hb hby d31_15) rfl ((if0 _ _).trans (tlt ((lw_lt _ _).mpr hlt)).2.1) ?_
    show own_K p e below m T2 18 #[rv oa, lv qo, .second] [] _
    refine XS.lloadN X2.here hx rfl (hb hby d31_18) rfl ?_
    show own_K p e below m T2 19 #[rv oa, lv qo, .second] [(.long qo)] _
    refine XS.aloadN X2.here hx rfl (hb hby d31_19) rfl rfl ?_
    show own_K p e below m T2 20 #[rv oa, lv qo, .second] [(.ref oa), (.long qo)] _
    refine st3 _ ?_
    show own_K p e below m T3 23 #[rv oa, lv qo, .second] [(.long qo), (.long qo)] _
    refine XS.lcmp X3.here hx rfl (hb hby d31_23) rfl ?_
    show own_K p e below m T3 24 #[rv oa, lv qo, .second] [(.int (lcmpW qo qo))] _
    refine XS.ifYes X3.here hx rfl (pc0 := 24) (pc' := 42) rfl (hb hby d31_24) rfl ((if0 _ _).trans (teq ((lw_eq _ _).mpr (rfl : qo = qo))).1) (by decide) (by decide) ?_
    show own_K p e below m T3 42 #[rv oa, lv qo, .second] [] _
    refine XS.aloadN X3.here hx rfl (hb hby d31_42) rfl rfl ?_
    show own_K p e below m T3 43 #[rv oa, lv qo, .second] [(.ref oa)] _
    refine st4 _ ?_
    show own_K p e below m T4 46 #[rv oa, lv qo, .second] [(.ref bl)] _
    refine XS.aloadN X4.here hx rfl (hb hby d31_46) rfl rfl ?_
    show own_K p e below m T4 47 #[rv oa, lv qo, .second] [(.ref oa), (.ref bl)] _
    refine XS.lloadN X4.here hx rfl (hb hby d31_47) rfl ?_
    show own_K p e below m T4 48 #[rv oa, lv qo, .second] [(.long qo), (.ref oa), (.ref bl)] _
    refine st5.trans ?_
    show own_K p e below m T5 51 #[rv oa, lv qo, .second] [(.int ((qo - (qo / (xs.toInt64)) * (xs.toInt64)).toInt32)), (.ref bl)] _
    refine st6.trans ?_
    show own_K p e below m T6 54 #[rv oa, lv qo, .second] [(.int (0 : Int32))] _
    refine XS.ifNo X6.here hx rfl (hb hby d31_54) rfl ((if0 _ _).trans (teq (by decide : (0 : Int32) = (0 : Int32))).2) ?_
    show own_K p e below m T6 57 #[rv oa, lv qo, .second] [] _
    refine XS.iconst X6.here hx rfl (hb hby d31_57) ?_
    show own_K p e below m T6 58 #[rv oa, lv qo, .second] [(.int (1 : Int32))] _
    refine XS.goto X6.here hx rfl (pc0 := 58) (pc' := 62) rfl (hb hby d31_58) (by decide) (by decide) ?_
    exact k
  obtain ⟨fs, hr, hrun, hended, hW, hsame⟩ := X6.leave (v := some (.int (1 : Int32))) (fun h => by rw [Bd.returns] at h; cases h)
  refine ⟨_, _, hG _ (pre7 _ ?_), hrun, hended, _, _, rfl, ?_, ⟨_, rfl⟩, hW, hsame.mono (by decide) (by decide)⟩
  · show own_K p e below m T6 62 #[rv oa, lv qo, .second] [(.int (1 : Int32))] _
    exact retN X6 hx (t := .boolean) Bd.returns (by simp) (hb hby d31_62) hr
  · show Q31 Z oa qo qn xs bl el ea kE h0 n0 _ T6.heap _
    rw [eh6]
    exact ⟨rfl, N6, rfl⟩

theorem d30_0 : decode prog_141_method_11_code 0 = .ok (.aload_n 0, 1) := by decide +kernel
theorem d30_1 : decode prog_141_method_11_code 1 = .ok (.lload_n 1, 1) := by decide +kernel
theorem d30_2 : decode prog_141_method_11_code 2 = .ok (.invokevirtual 151, 3) := by decide +kernel
theorem pd_14 : parseMethodDescriptor "(J)Z" = some ⟨[.long], some .boolean⟩ := by decide +kernel
theorem d30_5 : decode prog_141_method_11_code 5 = .ok (.ifCond .ne 5, 3) := by decide +kernel
theorem d30_10 : decode prog_141_method_11_code 10 = .ok (.lload_n 1, 1) := by decide +kernel
theorem d30_11 : decode prog_141_method_11_code 11 = .ok (.aload_n 0, 1) := by decide +kernel
theorem d30_12 : decode prog_141_method_11_code 12 = .ok (.getfield 48, 3) := by decide +kernel
theorem d30_15 : decode prog_141_method_11_code 15 = .ok (.lcmp, 1) := by decide +kernel
theorem d30_16 : decode prog_141_method_11_code 16 = .ok (.ifCond .ne 81, 3) := by decide +kernel
theorem d30_19 : decode prog_141_method_11_code 19 = .ok (.aload_n 0, 1) := by decide +kernel
theorem d30_20 : decode prog_141_method_11_code 20 = .ok (.dup, 1) := by decide +kernel
theorem d30_21 : decode prog_141_method_11_code 21 = .ok (.getfield 48, 3) := by decide +kernel
theorem d30_24 : decode prog_141_method_11_code 24 = .ok (.lconst 1, 1) := by decide +kernel
theorem d30_25 : decode prog_141_method_11_code 25 = .ok (.ladd, 1) := by decide +kernel
theorem d30_26 : decode prog_141_method_11_code 26 = .ok (.putfield 48, 3) := by decide +kernel
theorem d30_29 : decode prog_141_method_11_code 29 = .ok (.aload_n 0, 1) := by decide +kernel
theorem d30_30 : decode prog_141_method_11_code 30 = .ok (.getfield 48, 3) := by decide +kernel
theorem d30_33 : decode prog_141_method_11_code 33 = .ok (.aload_n 0, 1) := by decide +kernel
theorem d30_34 : decode prog_141_method_11_code 34 = .ok (.getfield 51, 3) := by decide +kernel
theorem d30_37 : decode prog_141_method_11_code 37 = .ok (.lcmp, 1) := by decide +kernel
theorem d30_38 : decode prog_141_method_11_code 38 = .ok (.ifCond .ge 71, 3) := by decide +kernel
theorem d30_41 : decode prog_141_method_11_code 41 = .ok (.aload_n 0, 1) := by decide +kernel
theorem d30_42 : decode prog_141_method_11_code 42 = .ok (.getfield 22, 3) := by decide +kernel
theorem d30_45 : decode prog_141_method_11_code 45 = .ok (.invokevirtual 168, 3) := by decide +kernel
theorem d30_48 : decode prog_141_method_11_code 48 = .ok (.ifCond .ne 61, 3) := by decide +kernel
theorem d30_109 : decode prog_141_method_11_code 109 = .ok (.aload_n 0, 1) := by decide +kernel
theorem d30_110 : decode prog_141_method_11_code 110 = .ok (.getfield 72, 3) := by decide +kernel
theorem d30_113 : decode prog_141_method_11_code 113 = .ok (.ifnull 32, 3) := by decide +kernel
theorem d30_145 : decode prog_141_method_11_code 145 = .ok (.aload_n 0, 1) := by decide +kernel
theorem d30_146 : decode prog_141_method_11_code 146 = .ok (.getfield 28, 3) := by decide +kernel
theorem d30_149 : decode prog_141_method_11_code 149 = .ok (.lconst 0, 1) := by decide +kernel
theorem d30_150 : decode prog_141_method_11_code 150 = .ok (.lcmp, 1) := by decide +kernel
theorem d30_151 : decode prog_141_method_11_code 151 = .ok (.ifCond .lt 12, 3) := by decide +kernel
theorem d30_163 : decode prog_141_method_11_code 163 = .ok (.iconst 1, 1) := by decide +kernel
theorem d30_164 : decode prog_141_method_11_code 164 = .ok (.ireturn, 1) := by decide +kernel
theorem ef_30 (m : MethodId) (x0 : Addr) (x1 : Int64) : entryFrame m #[(.ref x0), (.long x1)] 3 = mkF m 0 #[rv x0, lv x1, .second] [] := by first | (simp [entryFrame, mkF, argsToLocals, Value.category]; done) | rfl
def Q30 (Z : State) (oa : Addr) (qo : Int64) (qn : Int64) (xs : Int32) (bf : Addr) (bl : Addr) (qr : Int64) (el : Addr) (ea : Addr) (kE : ClassId) (uf_oa_committed : Value) (uf_oa_committedAhead : Value) (uf_oa_consumed : Value) (uf_oa_consumedAt : Value) (uf_oa_committedFailures : Value) (h0 : Heap) (n0 : Nat) (rv_ : Option Value) (h_ : Heap) (L_ : List Loc) : Prop := rv_ = some (.int (1 : Int32)) ∧ Fr n0 L_ ∧ Keep h0 h_ [oa] ∧ Fld Z h_ oa "evenkeel/client/Window" "unfinished" "J" (.long (qo + (1 : Int64))) ∧ Fld Z h_ oa "evenkeel/client/Window" "size" "I" (.int xs) ∧ Fld Z h_ oa "evenkeel/client/Window" "committed" "J" uf_oa_committed ∧ Fld Z h_ oa "evenkeel/client/Window" "committedAhead" "Ljava/util/List;" uf_oa_committedAhead ∧ Fld Z h_ oa "evenkeel/client/Window" "next" "J" (.long qn) ∧ Fld Z h_ oa "evenkeel/client/Window" "finished" "Ljava/util/BitSet;" (.ref bf) ∧ Fld Z h_ oa "evenkeel/client/Window" "restart" "J" (.long qr) ∧ Fld Z h_ oa "evenkeel/client/Window" "consumed" "Ljava/util/List;" uf_oa_consumed ∧ Fld Z h_ oa "evenkeel/client/Window" "consumedAt" "I" uf_oa_consumedAt ∧ Fld Z h_ oa "evenkeel/client/Window" "left" "Ljava/util/BitSet;" (.ref bl) ∧ Fld Z h_ oa "evenkeel/client/Window" "failing" "Ljava/util/TreeMap;" .null ∧ Fld Z h_ oa "evenkeel/client/Window" "committedFailures" "Ljava/util/List;" uf_oa_committedFailures
set_option maxRecDepth 65536 in
set_option maxHeartbeats 40000000 in
theorem rm30 (l : Launch) (Z : State) (a0 : Array Value) (hw : ∀ d ∈ tables_1, d.before a0 Z = true) (ws : List Jvm.Cond) (oa : Addr) (qo : Int64) (qn : Int64) (xs : Int32) (bf : Addr) (bl : Addr) (qr : Int64) (el : Addr) (ea : Addr) (kE : ClassId) (uf_oa_committed : Value) (uf_oa_committedAhead : Value) (uf_oa_consumed : Value) (uf_oa_consumedAt : Value) (uf_oa_committedFailures : Value) (h0 : Heap) (n0 : Nat) (Z0 : n0 ≤ h0.size) (E_ : Exa Z h0 oa "evenkeel/client/Window") (Fu : Fld Z h0 oa "evenkeel/client/Window" "unfinished" "J" (.long qo)) (Fn : Fld Z h0 oa "evenkeel/client/Window" "next" "J" (.long qn)) (Fs : Fld Z h0 oa "evenkeel/client/Window" "size" "I" (.int xs)) (Fl : Fld Z h0 oa "evenkeel/client/Window" "left" "Ljava/util/BitSet;" (.ref bl)) (El : Exa Z h0 bl "java/util/BitSet") (Fw : Fld Z h0 bl "java/util/BitSet" "wordsInUse" "I" (.int (0 : Int32))) (Ff : Fld Z h0 oa "evenkeel/client/Window" "finished" "Ljava/util/BitSet;" (.ref bf)) (Ef : Exa Z h0 bf "java/util/BitSet") (Ffw : Fld Z h0 bf "java/util/BitSet" "wordsInUse" "I" (.int (0 : Int32))) (Ffa : Fld Z h0 oa "evenkeel/client/Window" "failing" "Ljava/util/TreeMap;" .null) (Fre : Fld Z h0 oa "evenkeel/client/Window" "restart" "J" (.long qr)) (hlt : qo < qn) (hr : qr < (0 : Int64)) (naf : oa ≠ bf) (nal : oa ≠ bl) (hq0 : 0 ≤ qo.toInt) (hsz : 1 ≤ xs.toInt) (g_ : n0 ≤ oa) (O_ : Old Z n0 h0) (P_ : own_P Z el ea kE) (F_oa_committed : Fld Z h0 oa "evenkeel/client/Window" "committed" "J" uf_oa_committed) (F_oa_committedAhead : Fld Z h0 oa "evenkeel/client/Window" "committedAhead" "Ljava/util/List;" uf_oa_committedAhead) (F_oa_consumed : Fld Z h0 oa "evenkeel/client/Window" "consumed" "Ljava/util/List;" uf_oa_consumed) (F_oa_consumedAt : Fld Z h0 oa "evenkeel/client/Window" "consumedAt" "I" uf_oa_consumedAt) (F_oa_committedFailures : Fld Z h0 oa "evenkeel/client/Window" "committedFailures" "Ljava/util/List;" uf_oa_committedFailures) :
    MetFree l (⟨"evenkeel/client/Window", "finish", "(J)Z"⟩ : MethodName) (head1 (Jvm.Cond.code (⟨"evenkeel/client/Window", "finish", "(J)Z"⟩ : MethodName) prog_141_method_11_code 3 (some .boolean) :: ws) ({ frames := 3, cells := 0, slots := 0, locals := 40 } : Room)) (fun a U => a = #[(.ref oa), (.long qo)] ∧ Z.Warmed39 U.vm ∧ U.heap = h0) (fun _ _ _ _ _ => True) (fun _ U o U' => ∃ v L, o = .returned v ∧ Q30 Z oa qo qn xs bf bl qr el ea kE uf_oa_committed uf_oa_committedAhead uf_oa_consumed uf_oa_consumedAt uf_oa_committedFailures h0 n0 v U'.heap L ∧ FrameEnd U o U' L ({ frames := 3, cells := 0, slots := 0, locals := 40 } : Room).cells ({ frames := 3, cells := 0, slots := 0, locals := 40 } : Room).slots) := by
  refine MetFree.of_bodySF (plainFor_of_name pn_8) hisR ?_
  intro p e s m args below meth c s₁ Bd hml0 hP hK
  obtain ⟨rfl, hZ, hh⟩ := hP
  have hx := Bd.exec
  have hby := Bd.bytes
  have hml : c.maxLocals = 3 := hml0
  have hown : s.vm.findClass "evenkeel/client/Window" = some m.cls := findClass_of_methodNamed Bd.named
  have hnm := (name_of_methodNamed Bd.named Bd.method).1
  have X0 : Stand p l e ({ frames := 3, cells := 0, slots := 0, locals := 40 } : Room) s m #[(.ref oa), (.long qo)] below meth c s₁ [] 0 0 := Stand.of_body Bd
  have e0 : s₁.heap = h0 := by rw [← hh, Bd.state]; rfl
  have N0 := Fr.nil n0
  obtain ⟨G, hG, pre0⟩ : ∃ G : State → Prop, (∀ t, G t → Steps p.tables e below (s₁.setTop (entryFrame m #[(.ref oa), (.long qo)] 3)) t) ∧ ∀ t, own_K p e below m s₁ 0 #[rv oa, lv qo, .second] [] t → G t := ⟨fun t => Steps p.tables e below (s₁.setTop (entryFrame m #[(.ref oa), (.long qo)] 3)) t, fun _ k => k, fun t k => castTop (ef_30 m oa qo) k⟩
  obtain ⟨cq1, q1, q1'⟩ := E_.cell
  obtain ⟨_, _, ⟨T1, L1, k1, n1⟩, -, X1, ⟨Lc1, hQ1, l1, y1, z1⟩, st1⟩ := X0.privateBack hx (y := (⟨"evenkeel/client/Window", "inHand", "(J)Z"⟩ : MethodName)) hown (mvT hZ (hw _ (List.mem_of_getElem? (i := 235) rfl))) (mvT hZ (hw _ (List.mem_of_getElem? (i := 236) rfl))) (own_selp hZ (hw _ (List.mem_of_getElem? (i := 2) rfl)) (hw _ (List.mem_of_getElem? (i := 237) rfl)) (hw _ (List.mem_of_getElem? (i := 236) rfl)) (by decide)) (Cond.privateMethod_at (mvP hZ (hw _ (List.mem_of_getElem? (i := 237) rfl)) (args := #[]))) (mvT hZ (hw _ (List.mem_of_getElem? (i := 238) rfl))) (by decide) (backOf (W := 0) (rm31 l Z a0 hw [] oa qo qn xs bl el ea kE h0 n0 Z0 E_ Fu Fn Fs Fl El Fw hlt hq0 hsz O_ P_) hZ (hw _ (List.mem_of_getElem? (i := 238) rfl)) (hw _ (List.mem_of_getElem? (i := 3) rfl)) (by decide) (by decide)) (g := (mkF m 2 #[rv oa, lv qo, .second] [(.long qo), (.ref oa)])) rfl (by rw [hml]; rfl) (Steps.refl _) (a := oa) (by rw [e0]; exact q1) q1' (argsL := [(.long qo)]) (rest := []) (lenOf pd_14 rfl) rfl (by show 2 * 0 + _ ≤ _; exact Nat.le_of_eq rfl) (hb hby d30_2) (fun _ _ => ⟨rfl, e0, (by decide : 0 + 0 ≤ _), (by decide : 0 + 0 ≤ _)⟩)
  dsimp only [Pt.U, Pt.locs, Pt.cells, Pt.slots] at X1 l1 y1 z1 st1 hQ1
  subst l1 y1 z1
  obtain ⟨rfl, Nq1, eh1⟩ := hQ1
  have N1 := Fr.app N0 Nq1
  obtain ⟨T2, X2, e2, st2⟩ := getF X1 hx hZ hown (host := "") (Or.inl (hw _ (List.mem_of_getElem? (i := 141) rfl))) Via.refl eh1 Fu (g := (mkF m 12 #[rv oa, lv qo, .second] [(.ref oa), (.long qo)])) rfl rfl (hb hby d30_12)
  obtain ⟨T3, X3, e3, st3⟩ := getF X2 hx hZ hown (host := "") (Or.inl (hw _ (List.mem_of_getElem? (i := 141) rfl))) Via.refl e2 Fu (g := (mkF m 21 #[rv oa, lv qo, .second] [(.ref oa), (.ref oa)])) rfl rfl (hb hby d30_21)
  obtain ⟨T4, h4, X4, e4, W4, st4⟩ := putF X3 hx hZ hown (host := "") (Or.inl (hw _ (List.mem_of_getElem? (i := 141) rfl))) Via.refl e3 Fu E_ (Or.inl (hw _ (List.mem_of_getElem? (i := 142) rfl))) (hw _ (List.mem_of_getElem? (i := 2) rfl)) (ty := .long) (by decide) rfl rfl (g := (mkF m 26 #[rv oa, lv qo, .second] [(.long (qo + (1 : Int64))), (.ref oa)])) rfl rfl (hb hby d30_26)
  have f4w := Fu.same W4
  have K4 : Keep h0 h4 [oa] := (Keep.refl h0 [oa]).wr W4 (Or.inl (List.mem_of_getElem? (i := 0) rfl))
  have N4 := Fr.snoc X4 N1 g_
  have sz4 : n0 ≤ h4.size := Nat.le_trans Z0 (Keep.of_wr W4).1
  obtain ⟨T5, X5, e5, st5⟩ := getF X4 hx hZ hown (host := "") (Or.inl (hw _ (List.mem_of_getElem? (i := 141) rfl))) Via.refl e4 f4w (g := (mkF m 30 #[rv oa, lv qo, .second] [(.ref oa)])) rfl rfl (hb hby d30_30)
  have f7 : Fld Z h4 oa "evenkeel/client/Window" "next" "J" (.long qn) := (Fn.other W4 (Or.inr (slot_ne (Or.inl (hw _ (List.mem_of_getElem? (i := 144) rfl))) (Or.inl (hw _ (List.mem_of_getElem? (i := 142) rfl))) (by decide) (t := .long) (t' := .long) (by decide) (by decide))))
  obtain ⟨T6, X6, e6, st6⟩ := getF X5 hx hZ hown (host := "") (Or.inl (hw _ (List.mem_of_getElem? (i := 143) rfl))) Via.refl e5 f7 (g := (mkF m 34 #[rv oa, lv qo, .second] [(.ref oa), (.long (qo + (1 : Int64)))])) rfl rfl (hb hby d30_34)
  have pre8 : ∀ t, own_K p e below m T6 38 #[rv oa, lv qo, .second] [(.int (lcmpW (qo + (1 : Int64)) qn))] t → G t := by
    intro t k
    refine pre0 t ?_
    show own_K p e below m s₁ 0 #[rv oa, lv qo, .second] [] _
    refine XS.aloadN X0.here hx rfl (hb hby d30_0) rfl rfl ?_
    show own_K p e below m s₁ 1 #[rv oa, lv qo, .second] [(.ref oa)] _
    refine XS.lloadN X0.here hx rfl (hb hby d30_1) rfl ?_
    show own_K p e below m s₁ 2 #[rv oa, lv qo, .second] [(.long qo), (.ref oa)] _
    refine st1.trans ?_
    show own_K p e below m T1 5 #[rv oa, lv qo, .second] [(.int (1 : Int32))] _
    refine XS.ifYes X1.here hx rfl (pc0 := 5) (pc' := 10) rfl (hb hby d30_5) rfl ((if0 _ _).trans (feq (by decide : ¬ ((1 : Int32) = (0 : Int32)))).2) (by decide) (by decide) ?_
    show own_K p e below m T1 10 #[rv oa, lv qo, .second] [] _
    refine XS.lloadN X1.here hx rfl (hb hby d30_10) rfl ?_
    show own_K p e below m T1 11 #[rv oa, lv qo, .second] [(.long qo)] _
    refine XS.aloadN X1.here hx rfl (hb hby d30_11) rfl rfl ?_
    show own_K p e below m T1 12 #[rv oa, lv qo, .second] [(.ref oa), (.long qo)] _
    refine st2 _ ?_
    show own_K p e below m T2 15 #[rv oa, lv qo, .second] [(.long qo), (.long qo)] _
    refine XS.lcmp X2.here hx rfl (hb hby d30_15) rfl ?_
    show own_K p e below m T2 16 #[rv oa, lv qo, .second] [(.int (lcmpW qo qo))] _
    refine XS.ifNo X2.here hx rfl (hb hby d30_16) rfl ((if0 _ _).trans (teq ((lw_eq _ _).mpr (rfl : qo = qo))).2) ?_
    show own_K p e below m T2 19 #[rv oa, lv qo, .second] [] _
    refine XS.aloadN X2.here hx rfl (hb hby d30_19) rfl rfl ?_
    show own_K p e below m T2 20 #[rv oa, lv qo, .second] [(.ref oa)] _
    refine XS.dup X2.here hx rfl (hb hby d30_20) rfl rfl ?_
    show own_K p e below m T2 21 #[rv oa, lv qo, .second] [(.ref oa), (.ref oa)] _
    refine st3 _ ?_
    show own_K p e below m T3 24 #[rv oa, lv qo, .second] [(.long qo), (.ref oa)] _
    refine XS.lconst X3.here hx rfl (hb hby d30_24) ?_
    show own_K p e below m T3 25 #[rv oa, lv qo, .second] [(.long (1 : Int64)), (.long qo), (.ref oa)] _
    refine XS.ladd X3.here hx rfl (hb hby d30_25) rfl ?_
    show own_K p e below m T3 26 #[rv oa, lv qo, .second] [(.long (qo + (1 : Int64))), (.ref oa)] _
    refine st4 _ ?_
    show own_K p e below m T4 29 #[rv oa, lv qo, .second] [] _
    refine XS.aloadN X4.here hx rfl (hb hby d30_29) rfl rfl ?_
    show own_K p e below m T4 30 #[rv oa, lv qo, .second] [(.ref oa)] _
    refine st5 _ ?_
    show own_K p e below m T5 33 #[rv oa, lv qo, .second] [(.long (qo + (1 : Int64)))] _
    refine XS.aloadN X5.here hx rfl (hb hby d30_33) rfl rfl ?_
    show own_K p e below m T5 34 #[rv oa, lv qo, .second] [(.ref oa), (.long (qo + (1 : Int64)))] _
    refine st6 _ ?_
    show own_K p e below m T6 37 #[rv oa, lv qo, .second] [(.long qn), (.long (qo + (1 : Int64)))] _
    refine XS.lcmp X6.here hx rfl (hb hby d30_37) rfl ?_
    exact k
  obtain ⟨T17, lo17, X17, N17, e17, pre17⟩ : ∃ (T' : State) (l' : List Loc), Stand p l e ({ frames := 3, cells := 0, slots := 0, locals := 40 } : Room) s m #[(.ref oa), (.long qo)] below meth c T' l' 0 0 ∧ Fr n0 l' ∧ T'.heap = h4 ∧ ∀ t, own_K p e below m T' 109 #[rv oa, lv qo, .second] [] t → G t := by
    by_cases hc38_9 : (qo + (1 : Int64)) < qn
    · have f11 : Fld Z h4 oa "evenkeel/client/Window" "finished" "Ljava/util/BitSet;" (.ref bf) := (Ff.other W4 (Or.inr (slot_ne (Or.inr (hw _ (List.mem_of_getElem? (i := 126) rfl))) (Or.inl (hw _ (List.mem_of_getElem? (i := 142) rfl))) (by decide) (t := (.object "java/util/BitSet")) (t' := .long) (by decide) (by decide))))
      obtain ⟨T10, X10, e10, st10⟩ := getF X6 hx hZ hown (host := "") (Or.inl (hw _ (List.mem_of_getElem? (i := 125) rfl))) Via.refl e6 f11 (g := (mkF m 42 #[rv oa, lv qo, .second] [(.ref oa)])) rfl rfl (hb hby d30_42)
      have f13 : Fld Z h4 bf "java/util/BitSet" "wordsInUse" "I" (.int (0 : Int32)) := (Ffw.other W4 (Or.inl (Ne.symm naf)))
      have f14 : Exa Z h4 bf "java/util/BitSet" := (Ef.wr W4)
      obtain ⟨cq12, kq12, q12a, q12b, q12c⟩ := isOf hZ e10 f14
      obtain ⟨_, _, ⟨T12, L12, k12, n12⟩, -, X12, ⟨Lc12, hQ12, l12, y12, z12⟩, st12⟩ := X10.virtualBack hx (y := (⟨"java/util/BitSet", "isEmpty", "()Z"⟩ : MethodName)) (z := (⟨"java/util/BitSet", "isEmpty", "()Z"⟩ : MethodName)) hown (mvT hZ (hw _ (List.mem_of_getElem? (i := 254) rfl))) (mvT hZ (hw _ (List.mem_of_getElem? (i := 255) rfl))) (notFace_of_selects (args := #[]) (mvT hZ (hw _ (List.mem_of_getElem? (i := 257) rfl)))) (mvT hZ (hw _ (List.mem_of_getElem? (i := 257) rfl))) (mvT hZ (hw _ (List.mem_of_getElem? (i := 256) rfl))) (by decide) (backOf (W := 0) (rm35 l Z a0 hw [] bf (0 : Int32) h4 n0 sz4 f13) hZ (hw _ (List.mem_of_getElem? (i := 258) rfl)) (hw _ (List.mem_of_getElem? (i := 105) rfl)) (by decide) (by decide)) q12a q12c (g := (mkF m 45 #[rv oa, lv qo, .second] [(.ref bf)])) rfl (by rw [hml]; rfl) (Steps.refl _) (argsL := []) (rest := []) (lenOf pd_5 rfl) rfl (by show 2 * 0 + _ ≤ _; exact Nat.le_of_eq rfl) (hb hby d30_45) (fun _ _ => ⟨rfl, e10, (by decide : 0 + 0 ≤ _), (by decide : 0 + 0 ≤ _)⟩)
      dsimp only [Pt.U, Pt.locs, Pt.cells, Pt.slots] at X12 l12 y12 z12 st12 hQ12
      subst l12 y12 z12
      obtain ⟨rfl, Nq12, eh12⟩ := hQ12
      have N12 := Fr.app N4 Nq12
      have pre15 : ∀ t, own_K p e below m T12 109 #[rv oa, lv qo, .second] [] t → G t := by
        intro t k
        refine pre8 t ?_
        show own_K p e below m T6 38 #[rv oa, lv qo, .second] [(.int (lcmpW (qo + (1 : Int64)) qn))] _
        refine XS.ifNo X6.here hx rfl (hb hby d30_38) rfl ((if0 _ _).trans (tlt ((lw_lt _ _).mpr hc38_9)).2.1) ?_
        show own_K p e below m T6 41 #[rv oa, lv qo, .second] [] _
        refine XS.aloadN X6.here hx rfl (hb hby d30_41) rfl rfl ?_
        show own_K p e below m T6 42 #[rv oa, lv qo, .second] [(.ref oa)] _
        refine st10 _ ?_
        show own_K p e below m T10 45 #[rv oa, lv qo, .second] [(.ref bf)] _
        refine st12.trans ?_
        show own_K p e below m T12 48 #[rv oa, lv qo, .second] [(.int (if (0 : Int32) = (0 : Int32) then (1 : Int32) else (0 : Int32)))] _
        refine XS.ifYes X12.here hx rfl (pc0 := 48) (pc' := 109) rfl (hb hby d30_48) rfl ((if0 _ _).trans (feq (by rw [if_pos rfl]; decide)).2) (by decide) (by decide) ?_
        exact k
      exact ⟨_, _, X12, N12, eh12, fun t k => pre15 t k⟩
    · have pre16 : ∀ t, own_K p e below m T6 109 #[rv oa, lv qo, .second] [] t → G t := by
        intro t k
        refine pre8 t ?_
        show own_K p e below m T6 38 #[rv oa, lv qo, .second] [(.int (lcmpW (qo + (1 : Int64)) qn))] _
        refine XS.ifYes X6.here hx rfl (pc0 := 38) (pc' := 109) rfl (hb hby d30_38) rfl ((if0 _ _).trans (flt (mt (lw_lt _ _).mp hc38_9)).2.1) (by decide) (by decide) ?_
        exact k
      exact ⟨_, _, X6, N4, e6, fun t k => pre16 t k⟩
  have f19 : Fld Z h4 oa "evenkeel/client/Window" "failing" "Ljava/util/TreeMap;" .null := (Ffa.other W4 (Or.inr (slot_ne (Or.inl (hw _ (List.mem_of_getElem? (i := 260) rfl))) (Or.inl (hw _ (List.mem_of_getElem? (i := 142) rfl))) (by decide) (t := (.object "java/util/TreeMap")) (t' := .long) (by decide) (by decide))))
  obtain ⟨T18, X18, e18, st18⟩ := getF X17 hx hZ hown (host := "") (Or.inl (hw _ (List.mem_of_getElem? (i := 259) rfl))) Via.refl e17 f19 (g := (mkF m 110 #[rv oa, lv qo, .second] [(.ref oa)])) rfl rfl (hb hby d30_110)
  have f21 : Fld Z h4 oa "evenkeel/client/Window" "restart" "J" (.long qr) := (Fre.other W4 (Or.inr (slot_ne (Or.inl (hw _ (List.mem_of_getElem? (i := 129) rfl))) (Or.inl (hw _ (List.mem_of_getElem? (i := 142) rfl))) (by decide) (t := .long) (t' := .long) (by decide) (by decide))))
  obtain ⟨T20, X20, e20, st20⟩ := getF X18 hx hZ hown (host := "") (Or.inl (hw _ (List.mem_of_getElem? (i := 128) rfl))) Via.refl e18 f21 (g := (mkF m 146 #[rv oa, lv qo, .second] [(.ref oa)])) rfl rfl (hb hby d30_146)
  have pre22 : ∀ t, own_K p e below m T20 164 #[rv oa, lv qo, .second] [(.int (1 : Int32))] t → G t := by
    intro t k
    refine pre17 t ?_
    show own_K p e below m T17 109 #[rv oa, lv qo, .second] [] _
    refine XS.aloadN X17.here hx rfl (hb hby d30_109) rfl rfl ?_
    show own_K p e below m T17 110 #[rv oa, lv qo, .second] [(.ref oa)] _
    refine st18 _ ?_
    show own_K p e below m T18 113 #[rv oa, lv qo, .second] [.null] _
    refine XS.ifnullYes X18.here hx rfl (pc0 := 113) (pc' := 145) rfl (hb hby d30_113) rfl (by decide) (by decide) ?_
    show own_K p e below m T18 145 #[rv oa, lv qo, .second] [] _
    refine XS.aloadN X18.here hx rfl (hb hby d30_145) rfl rfl ?_
    show own_K p e below m T18 146 #[rv oa, lv qo, .second] [(.ref oa)] _
    refine st20 _ ?_
    show own_K p e below m T20 149 #[rv oa, lv qo, .second] [(.long qr)] _
    refine XS.lconst X20.here hx rfl (hb hby d30_149) ?_
    show own_K p e below m T20 150 #[rv oa, lv qo, .second] [(.long (0 : Int64)), (.long qr)] _
    refine XS.lcmp X20.here hx rfl (hb hby d30_150) rfl ?_
    show own_K p e below m T20 151 #[rv oa, lv qo, .second] [(.int (lcmpW qr (0 : Int64)))] _
    refine XS.ifYes X20.here hx rfl (pc0 := 151) (pc' := 163) rfl (hb hby d30_151) rfl ((if0 _ _).trans (tlt ((lw_lt _ _).mpr hr)).1) (by decide) (by decide) ?_
    show own_K p e below m T20 163 #[rv oa, lv qo, .second] [] _
    refine XS.iconst X20.here hx rfl (hb hby d30_163) ?_
    exact k
  have f23 : Fld Z h4 oa "evenkeel/client/Window" "size" "I" (.int xs) := (Fs.other W4 (Or.inr (slot_ne (Or.inr (hw _ (List.mem_of_getElem? (i := 133) rfl))) (Or.inl (hw _ (List.mem_of_getElem? (i := 142) rfl))) (by decide) (t := .int) (t' := .long) (by decide) (by decide))))
  have f24 : Fld Z h4 oa "evenkeel/client/Window" "committed" "J" uf_oa_committed := (F_oa_committed.other W4 (Or.inr (slot_ne (Or.inl (hw _ (List.mem_of_getElem? (i := 140) rfl))) (Or.inl (hw _ (List.mem_of_getElem? (i := 142) rfl))) (by decide) (t := .long) (t' := .long) (by decide) (by decide))))
  have f25 : Fld Z h4 oa "evenkeel/client/Window" "committedAhead" "Ljava/util/List;" uf_oa_committedAhead := (F_oa_committedAhead.other W4 (Or.inr (slot_ne (Or.inl (hw _ (List.mem_of_getElem? (i := 102) rfl))) (Or.inl (hw _ (List.mem_of_getElem? (i := 142) rfl))) (by decide) (t := (.object "java/util/List")) (t' := .long) (by decide) (by decide))))
  have f26 : Fld Z h4 oa "evenkeel/client/Window" "finished" "Ljava/util/BitSet;" (.ref bf) := (Ff.other W4 (Or.inr (slot_ne (Or.inr (hw _ (List.mem_of_getElem? (i := 126) rfl))) (Or.inl (hw _ (List.mem_of_getElem? (i := 142) rfl))) (by decide) (t := (.object "java/util/BitSet")) (t' := .long) (by decide) (by decide))))
  have f27 : Fld Z h4 oa "evenkeel/client/Window" "consumed" "Ljava/util/List;" uf_oa_consumed := (F_oa_consumed.other W4 (Or.inr (slot_ne (Or.inr (hw _ (List.mem_of_getElem? (i := 151) rfl))) (Or.inl (hw _ (List.mem_of_getElem? (i := 142) rfl))) (by decide) (t := (.object "java/util/List")) (t' := .long) (by decide) (by decide))))
  have f28 : Fld Z h4 oa "evenkeel/client/Window" "consumedAt" "I" uf_oa_consumedAt := (F_oa_consumedAt.other W4 (Or.inr (slot_ne (Or.inl (hw _ (List.mem_of_getElem? (i := 182) rfl))) (Or.inl (hw _ (List.mem_of_getElem? (i := 142) rfl))) (by decide) (t := .int) (t' := .long) (by decide) (by decide))))
  have f29 : Fld Z h4 oa "evenkeel/client/Window" "left" "Ljava/util/BitSet;" (.ref bl) := (Fl.other W4 (Or.inr (slot_ne (Or.inr (hw _ (List.mem_of_getElem? (i := 131) rfl))) (Or.inl (hw _ (List.mem_of_getElem? (i := 142) rfl))) (by decide) (t := (.object "java/util/BitSet")) (t' := .long) (by decide) (by decide))))
  have f30 : Fld Z h4 oa "evenkeel/client/Window" "committedFailures" "Ljava/util/List;" uf_oa_committedFailures := (F_oa_committedFailures.other W4 (Or.inr (slot_ne (Or.inl (hw _ (List.mem_of_getElem? (i := 158) rfl))) (Or.inl (hw _ (List.mem_of_getElem? (i := 142) rfl))) (by decide) (t := (.object "java/util/List")) (t' := .long) (by decide) (by decide))))
  obtain ⟨fs, hr, hrun, hended, hW, hsame⟩ := X20.leave (v := some (.int (1 : Int32))) (fun h => by rw [Bd.returns] at h; cases h)
  refine ⟨_, _, hG _ (pre22 _ ?_), hrun, hended, _, _, rfl, ?_, ⟨_, rfl⟩, hW, hsame.mono (by decide) (by decide)⟩
  · show own_K p e below m T20 164 #[rv oa, lv qo, .second] [(.int (1 : Int32))] _
    exact retN X20 hx (t := .boolean) Bd.returns (by simp) (hb hby d30_164) hr
  · show Q30 Z oa qo qn xs bf bl qr el ea kE uf_oa_committed uf_oa_committedAhead uf_oa_consumed uf_oa_consumedAt uf_oa_committedFailures h0 n0 _ T20.heap _
    rw [e20]
    exact ⟨rfl, N17, K4, f4w, f23, f24, f25, f7, f26, f21, f27, f28, f29, f19, f30⟩

theorem d26_0 : decode prog_141_method_19_code 0 = .ok (.aload_n 0, 1) := by decide +kernel
theorem d26_1 : decode prog_141_method_19_code 1 = .ok (.lload_n 1, 1) := by decide +kernel
theorem d26_2 : decode prog_141_method_19_code 2 = .ok (.putfield 45, 3) := by decide +kernel
theorem d26_5 : decode prog_141_method_19_code 5 = .ok (.aload_n 0, 1) := by decide +kernel
theorem d26_6 : decode prog_141_method_19_code 6 = .ok (.aload_n 3, 1) := by decide +kernel
theorem d26_7 : decode prog_141_method_19_code 7 = .ok (.putfield 13, 3) := by decide +kernel
theorem d26_10 : decode prog_141_method_19_code 10 = .ok (.aload_n 0, 1) := by decide +kernel
theorem d26_11 : decode prog_141_method_19_code 11 = .ok (.aload 4, 2) := by decide +kernel
theorem d26_13 : decode prog_141_method_19_code 13 = .ok (.putfield 62, 3) := by decide +kernel
theorem d26_16 : decode prog_141_method_19_code 16 = .ok (.return_, 1) := by decide +kernel
theorem ef_26 (m : MethodId) (x0 : Addr) (x1 : Int64) (x2 : Addr) (x3 : Addr) : entryFrame m #[(.ref x0), (.long x1), (.ref x2), (.ref x3)] 5 = mkF m 0 #[rv x0, lv x1, .second, rv x2, rv x3] [] := by first | (simp [entryFrame, mkF, argsToLocals, Value.category]; done) | rfl
def Q26 (Z : State) (oa : Addr) (qo : Int64) (la : Addr) (lb : Addr) (uf_oa_size : Value) (uf_oa_committed : Value) (uf_oa_committedAhead : Value) (uf_oa_unfinished : Value) (uf_oa_next : Value) (uf_oa_finished : Value) (uf_oa_restart : Value) (uf_oa_consumed : Value) (uf_oa_consumedAt : Value) (uf_oa_left : Value) (uf_oa_failing : Value) (uf_oa_committedFailures : Value) (h0 : Heap) (n0 : Nat) (rv_ : Option Value) (h_ : Heap) (L_ : List Loc) : Prop := rv_ = none ∧ Fr n0 L_ ∧ Keep h0 h_ [oa] ∧ Fld Z h_ oa "evenkeel/client/Window" "committed" "J" (.long qo) ∧ Fld Z h_ oa "evenkeel/client/Window" "committedAhead" "Ljava/util/List;" (.ref la) ∧ Fld Z h_ oa "evenkeel/client/Window" "committedFailures" "Ljava/util/List;" (.ref lb) ∧ Fld Z h_ oa "evenkeel/client/Window" "size" "I" uf_oa_size ∧ Fld Z h_ oa "evenkeel/client/Window" "unfinished" "J" uf_oa_unfinished ∧ Fld Z h_ oa "evenkeel/client/Window" "next" "J" uf_oa_next ∧ Fld Z h_ oa "evenkeel/client/Window" "finished" "Ljava/util/BitSet;" uf_oa_finished ∧ Fld Z h_ oa "evenkeel/client/Window" "restart" "J" uf_oa_restart ∧ Fld Z h_ oa "evenkeel/client/Window" "consumed" "Ljava/util/List;" uf_oa_consumed ∧ Fld Z h_ oa "evenkeel/client/Window" "consumedAt" "I" uf_oa_consumedAt ∧ Fld Z h_ oa "evenkeel/client/Window" "left" "Ljava/util/BitSet;" uf_oa_left ∧ Fld Z h_ oa "evenkeel/client/Window" "failing" "Ljava/util/TreeMap;" uf_oa_failing
set_option maxRecDepth 65536 in
set_option maxHeartbeats 40000000 in
theorem rm26 (l : Launch) (Z : State) (a0 : Array Value) (hw : ∀ d ∈ tables_1, d.before a0 Z = true) (ws : List Jvm.Cond) (oa : Addr) (qo : Int64) (la : Addr) (lb : Addr) (uf_oa_size : Value) (uf_oa_committed : Value) (uf_oa_committedAhead : Value) (uf_oa_unfinished : Value) (uf_oa_next : Value) (uf_oa_finished : Value) (uf_oa_restart : Value) (uf_oa_consumed : Value) (uf_oa_consumedAt : Value) (uf_oa_left : Value) (uf_oa_failing : Value) (uf_oa_committedFailures : Value) (h0 : Heap) (n0 : Nat) (Z0 : n0 ≤ h0.size) (E_ : Exa Z h0 oa "evenkeel/client/Window") (g_ : n0 ≤ oa) (F_oa_size : Fld Z h0 oa "evenkeel/client/Window" "size" "I" uf_oa_size) (F_oa_committed : Fld Z h0 oa "evenkeel/client/Window" "committed" "J" uf_oa_committed) (F_oa_committedAhead : Fld Z h0 oa "evenkeel/client/Window" "committedAhead" "Ljava/util/List;" uf_oa_committedAhead) (F_oa_unfinished : Fld Z h0 oa "evenkeel/client/Window" "unfinished" "J" uf_oa_unfinished) (F_oa_next : Fld Z h0 oa "evenkeel/client/Window" "next" "J" uf_oa_next) (F_oa_finished : Fld Z h0 oa "evenkeel/client/Window" "finished" "Ljava/util/BitSet;" uf_oa_finished) (F_oa_restart : Fld Z h0 oa "evenkeel/client/Window" "restart" "J" uf_oa_restart) (F_oa_consumed : Fld Z h0 oa "evenkeel/client/Window" "consumed" "Ljava/util/List;" uf_oa_consumed) (F_oa_consumedAt : Fld Z h0 oa "evenkeel/client/Window" "consumedAt" "I" uf_oa_consumedAt) (F_oa_left : Fld Z h0 oa "evenkeel/client/Window" "left" "Ljava/util/BitSet;" uf_oa_left) (F_oa_failing : Fld Z h0 oa "evenkeel/client/Window" "failing" "Ljava/util/TreeMap;" uf_oa_failing) (F_oa_committedFailures : Fld Z h0 oa "evenkeel/client/Window" "committedFailures" "Ljava/util/List;" uf_oa_committedFailures) :
    MetFree l (⟨"evenkeel/client/Window", "committed", "(JLjava/util/List;Ljava/util/List;)V"⟩ : MethodName) (head1 (Jvm.Cond.code (⟨"evenkeel/client/Window", "committed", "(JLjava/util/List;Ljava/util/List;)V"⟩ : MethodName) prog_141_method_19_code 5 none :: ws) ({ frames := 0, cells := 0, slots := 0, locals := 0 } : Room)) (fun a U => a = #[(.ref oa), (.long qo), (.ref la), (.ref lb)] ∧ Z.Warmed39 U.vm ∧ U.heap = h0) (fun _ _ _ _ _ => True) (fun _ U o U' => ∃ v L, o = .returned v ∧ Q26 Z oa qo la lb uf_oa_size uf_oa_committed uf_oa_committedAhead uf_oa_unfinished uf_oa_next uf_oa_finished uf_oa_restart uf_oa_consumed uf_oa_consumedAt uf_oa_left uf_oa_failing uf_oa_committedFailures h0 n0 v U'.heap L ∧ FrameEnd U o U' L ({ frames := 0, cells := 0, slots := 0, locals := 0 } : Room).cells ({ frames := 0, cells := 0, slots := 0, locals := 0 } : Room).slots) := by
  refine MetFree.of_bodySF (plainFor_of_name pn_8) hisR ?_
  intro p e s m args below meth c s₁ Bd hml0 hP hK
  obtain ⟨rfl, hZ, hh⟩ := hP
  have hx := Bd.exec
  have hby := Bd.bytes
  have hml : c.maxLocals = 5 := hml0
  have hown : s.vm.findClass "evenkeel/client/Window" = some m.cls := findClass_of_methodNamed Bd.named
  have hnm := (name_of_methodNamed Bd.named Bd.method).1
  have X0 : Stand p l e ({ frames := 0, cells := 0, slots := 0, locals := 0 } : Room) s m #[(.ref oa), (.long qo), (.ref la), (.ref lb)] below meth c s₁ [] 0 0 := Stand.of_body Bd
  have e0 : s₁.heap = h0 := by rw [← hh, Bd.state]; rfl
  have N0 := Fr.nil n0
  obtain ⟨G, hG, pre0⟩ : ∃ G : State → Prop, (∀ t, G t → Steps p.tables e below (s₁.setTop (entryFrame m #[(.ref oa), (.long qo), (.ref la), (.ref lb)] 5)) t) ∧ ∀ t, own_K p e below m s₁ 0 #[rv oa, lv qo, .second, rv la, rv lb] [] t → G t := ⟨fun t => Steps p.tables e below (s₁.setTop (entryFrame m #[(.ref oa), (.long qo), (.ref la), (.ref lb)] 5)) t, fun _ k => k, fun t k => castTop (ef_26 m oa qo la lb) k⟩
  obtain ⟨T1, h1, X1, e1, W1, st1⟩ := putF X0 hx hZ hown (host := "") (Or.inl (hw _ (List.mem_of_getElem? (i := 139) rfl))) Via.refl e0 F_oa_committed E_ (Or.inl (hw _ (List.mem_of_getElem? (i := 140) rfl))) (hw _ (List.mem_of_getElem? (i := 2) rfl)) (ty := .long) (by decide) rfl rfl (g := (mkF m 2 #[rv oa, lv qo, .second, rv la, rv lb] [(.long qo), (.ref oa)])) rfl rfl (hb hby d26_2)
  have f1w := F_oa_committed.same W1
  have K1 : Keep h0 h1 [oa] := (Keep.refl h0 [oa]).wr W1 (Or.inl (List.mem_of_getElem? (i := 0) rfl))
  have N1 := Fr.snoc X1 N0 g_
  have sz1 : n0 ≤ h1.size := Nat.le_trans Z0 (Keep.of_wr W1).1
  have f3 : Fld Z h1 oa "evenkeel/client/Window" "committedAhead" "Ljava/util/List;" uf_oa_committedAhead := (F_oa_committedAhead.other W1 (Or.inr (slot_ne (Or.inl (hw _ (List.mem_of_getElem? (i := 102) rfl))) (Or.inl (hw _ (List.mem_of_getElem? (i := 140) rfl))) (by decide) (t := (.object "java/util/List")) (t' := .long) (by decide) (by decide))))
  have f4 : Exa Z h1 oa "evenkeel/client/Window" := (E_.wr W1)
  obtain ⟨T2, h2, X2, e2, W2, st2⟩ := putF X1 hx hZ hown (host := "") (Or.inl (hw _ (List.mem_of_getElem? (i := 101) rfl))) Via.refl e1 f3 f4 (Or.inl (hw _ (List.mem_of_getElem? (i := 102) rfl))) (hw _ (List.mem_of_getElem? (i := 2) rfl)) (ty := (.object "java/util/List")) (by decide) rfl rfl (g := (mkF m 7 #[rv oa, lv qo, .second, rv la, rv lb] [(.ref la), (.ref oa)])) rfl rfl (hb hby d26_7)
  have f2w := f3.same W2
  have K2 : Keep h0 h2 [oa] := K1.wr W2 (Or.inl (List.mem_of_getElem? (i := 0) rfl))
  have N2 := Fr.snoc X2 N1 g_
  have sz2 : n0 ≤ h2.size := Nat.le_trans sz1 (Keep.of_wr W2).1
  have f6 : Fld Z h2 oa "evenkeel/client/Window" "committedFailures" "Ljava/util/List;" uf_oa_committedFailures := ((F_oa_committedFailures.other W1 (Or.inr (slot_ne (Or.inl (hw _ (List.mem_of_getElem? (i := 158) rfl))) (Or.inl (hw _ (List.mem_of_getElem? (i := 140) rfl))) (by decide) (t := (.object "java/util/List")) (t' := .long) (by decide) (by decide)))).other W2 (Or.inr (slot_ne (Or.inl (hw _ (List.mem_of_getElem? (i := 158) rfl))) (Or.inl (hw _ (List.mem_of_getElem? (i := 102) rfl))) (by decide) (t := (.object "java/util/List")) (t' := (.object "java/util/List")) (by decide) (by decide))))
  have f7 : Exa Z h2 oa "evenkeel/client/Window" := (f4.wr W2)
  obtain ⟨T5, h5, X5, e5, W5, st5⟩ := putF X2 hx hZ hown (host := "") (Or.inl (hw _ (List.mem_of_getElem? (i := 157) rfl))) Via.refl e2 f6 f7 (Or.inl (hw _ (List.mem_of_getElem? (i := 158) rfl))) (hw _ (List.mem_of_getElem? (i := 2) rfl)) (ty := (.object "java/util/List")) (by decide) rfl rfl (g := (mkF m 13 #[rv oa, lv qo, .second, rv la, rv lb] [(.ref lb), (.ref oa)])) rfl rfl (hb hby d26_13)
  have f5w := f6.same W5
  have K5 : Keep h0 h5 [oa] := K2.wr W5 (Or.inl (List.mem_of_getElem? (i := 0) rfl))
  have N5 := Fr.snoc X5 N2 g_
  have sz5 : n0 ≤ h5.size := Nat.le_trans sz2 (Keep.of_wr W5).1
  have pre8 : ∀ t, own_K p e below m T5 16 #[rv oa, lv qo, .second, rv la, rv lb] [] t → G t := by
    intro t k
    refine pre0 t ?_
    show own_K p e below m s₁ 0 #[rv oa, lv qo, .second, rv la, rv lb] [] _
    refine XS.aloadN X0.here hx rfl (hb hby d26_0) rfl rfl ?_
    show own_K p e below m s₁ 1 #[rv oa, lv qo, .second, rv la, rv lb] [(.ref oa)] _
    refine XS.lloadN X0.here hx rfl (hb hby d26_1) rfl ?_
    show own_K p e below m s₁ 2 #[rv oa, lv qo, .second, rv la, rv lb] [(.long qo), (.ref oa)] _
    refine st1 _ ?_
    show own_K p e below m T1 5 #[rv oa, lv qo, .second, rv la, rv lb] [] _
    refine XS.aloadN X1.here hx rfl (hb hby d26_5) rfl rfl ?_
    show own_K p e below m T1 6 #[rv oa, lv qo, .second, rv la, rv lb] [(.ref oa)] _
    refine XS.aloadN X1.here hx rfl (hb hby d26_6) rfl rfl ?_
    show own_K p e below m T1 7 #[rv oa, lv qo, .second, rv la, rv lb] [(.ref la), (.ref oa)] _
    refine st2 _ ?_
    show own_K p e below m T2 10 #[rv oa, lv qo, .second, rv la, rv lb] [] _
    refine XS.aloadN X2.here hx rfl (hb hby d26_10) rfl rfl ?_
    show own_K p e below m T2 11 #[rv oa, lv qo, .second, rv la, rv lb] [(.ref oa)] _
    refine XS.aload X2.here hx rfl (hb hby d26_11) rfl rfl ?_
    show own_K p e below m T2 13 #[rv oa, lv qo, .second, rv la, rv lb] [(.ref lb), (.ref oa)] _
    refine st5 _ ?_
    exact k
  have f9 : Fld Z h5 oa "evenkeel/client/Window" "committed" "J" (.long qo) := ((f1w.other W2 (Or.inr (slot_ne (Or.inl (hw _ (List.mem_of_getElem? (i := 140) rfl))) (Or.inl (hw _ (List.mem_of_getElem? (i := 102) rfl))) (by decide) (t := .long) (t' := (.object "java/util/List")) (by decide) (by decide)))).other W5 (Or.inr (slot_ne (Or.inl (hw _ (List.mem_of_getElem? (i := 140) rfl))) (Or.inl (hw _ (List.mem_of_getElem? (i := 158) rfl))) (by decide) (t := .long) (t' := (.object "java/util/List")) (by decide) (by decide))))
  have f10 : Fld Z h5 oa "evenkeel/client/Window" "committedAhead" "Ljava/util/List;" (.ref la) := (f2w.other W5 (Or.inr (slot_ne (Or.inl (hw _ (List.mem_of_getElem? (i := 102) rfl))) (Or.inl (hw _ (List.mem_of_getElem? (i := 158) rfl))) (by decide) (t := (.object "java/util/List")) (t' := (.object "java/util/List")) (by decide) (by decide))))
  have f11 : Fld Z h5 oa "evenkeel/client/Window" "size" "I" uf_oa_size := (((F_oa_size.other W1 (Or.inr (slot_ne (Or.inr (hw _ (List.mem_of_getElem? (i := 133) rfl))) (Or.inl (hw _ (List.mem_of_getElem? (i := 140) rfl))) (by decide) (t := .int) (t' := .long) (by decide) (by decide)))).other W2 (Or.inr (slot_ne (Or.inr (hw _ (List.mem_of_getElem? (i := 133) rfl))) (Or.inl (hw _ (List.mem_of_getElem? (i := 102) rfl))) (by decide) (t := .int) (t' := (.object "java/util/List")) (by decide) (by decide)))).other W5 (Or.inr (slot_ne (Or.inr (hw _ (List.mem_of_getElem? (i := 133) rfl))) (Or.inl (hw _ (List.mem_of_getElem? (i := 158) rfl))) (by decide) (t := .int) (t' := (.object "java/util/List")) (by decide) (by decide))))
  have f12 : Fld Z h5 oa "evenkeel/client/Window" "unfinished" "J" uf_oa_unfinished := (((F_oa_unfinished.other W1 (Or.inr (slot_ne (Or.inl (hw _ (List.mem_of_getElem? (i := 142) rfl))) (Or.inl (hw _ (List.mem_of_getElem? (i := 140) rfl))) (by decide) (t := .long) (t' := .long) (by decide) (by decide)))).other W2 (Or.inr (slot_ne (Or.inl (hw _ (List.mem_of_getElem? (i := 142) rfl))) (Or.inl (hw _ (List.mem_of_getElem? (i := 102) rfl))) (by decide) (t := .long) (t' := (.object "java/util/List")) (by decide) (by decide)))).other W5 (Or.inr (slot_ne (Or.inl (hw _ (List.mem_of_getElem? (i := 142) rfl))) (Or.inl (hw _ (List.mem_of_getElem? (i := 158) rfl))) (by decide) (t := .long) (t' := (.object "java/util/List")) (by decide) (by decide))))
  have f13 : Fld Z h5 oa "evenkeel/client/Window" "next" "J" uf_oa_next := (((F_oa_next.other W1 (Or.inr (slot_ne (Or.inl (hw _ (List.mem_of_getElem? (i := 144) rfl))) (Or.inl (hw _ (List.mem_of_getElem? (i := 140) rfl))) (by decide) (t := .long) (t' := .long) (by decide) (by decide)))).other W2 (Or.inr (slot_ne (Or.inl (hw _ (List.mem_of_getElem? (i := 144) rfl))) (Or.inl (hw _ (List.mem_of_getElem? (i := 102) rfl))) (by decide) (t := .long) (t' := (.object "java/util/List")) (by decide) (by decide)))).other W5 (Or.inr (slot_ne (Or.inl (hw _ (List.mem_of_getElem? (i := 144) rfl))) (Or.inl (hw _ (List.mem_of_getElem? (i := 158) rfl))) (by decide) (t := .long) (t' := (.object "java/util/List")) (by decide) (by decide))))
  have f14 : Fld Z h5 oa "evenkeel/client/Window" "finished" "Ljava/util/BitSet;" uf_oa_finished := (((F_oa_finished.other W1 (Or.inr (slot_ne (Or.inr (hw _ (List.mem_of_getElem? (i := 126) rfl))) (Or.inl (hw _ (List.mem_of_getElem? (i := 140) rfl))) (by decide) (t := (.object "java/util/BitSet")) (t' := .long) (by decide) (by decide)))).other W2 (Or.inr (slot_ne (Or.inr (hw _ (List.mem_of_getElem? (i := 126) rfl))) (Or.inl (hw _ (List.mem_of_getElem? (i := 102) rfl))) (by decide) (t := (.object "java/util/BitSet")) (t' := (.object "java/util/List")) (by decide) (by decide)))).other W5 (Or.inr (slot_ne (Or.inr (hw _ (List.mem_of_getElem? (i := 126) rfl))) (Or.inl (hw _ (List.mem_of_getElem? (i := 158) rfl))) (by decide) (t := (.object "java/util/BitSet")) (t' := (.object "java/util/List")) (by decide) (by decide))))
  have f15 : Fld Z h5 oa "evenkeel/client/Window" "restart" "J" uf_oa_restart := (((F_oa_restart.other W1 (Or.inr (slot_ne (Or.inl (hw _ (List.mem_of_getElem? (i := 129) rfl))) (Or.inl (hw _ (List.mem_of_getElem? (i := 140) rfl))) (by decide) (t := .long) (t' := .long) (by decide) (by decide)))).other W2 (Or.inr (slot_ne (Or.inl (hw _ (List.mem_of_getElem? (i := 129) rfl))) (Or.inl (hw _ (List.mem_of_getElem? (i := 102) rfl))) (by decide) (t := .long) (t' := (.object "java/util/List")) (by decide) (by decide)))).other W5 (Or.inr (slot_ne (Or.inl (hw _ (List.mem_of_getElem? (i := 129) rfl))) (Or.inl (hw _ (List.mem_of_getElem? (i := 158) rfl))) (by decide) (t := .long) (t' := (.object "java/util/List")) (by decide) (by decide))))
  have f16 : Fld Z h5 oa "evenkeel/client/Window" "consumed" "Ljava/util/List;" uf_oa_consumed := (((F_oa_consumed.other W1 (Or.inr (slot_ne (Or.inr (hw _ (List.mem_of_getElem? (i := 151) rfl))) (Or.inl (hw _ (List.mem_of_getElem? (i := 140) rfl))) (by decide) (t := (.object "java/util/List")) (t' := .long) (by decide) (by decide)))).other W2 (Or.inr (slot_ne (Or.inr (hw _ (List.mem_of_getElem? (i := 151) rfl))) (Or.inl (hw _ (List.mem_of_getElem? (i := 102) rfl))) (by decide) (t := (.object "java/util/List")) (t' := (.object "java/util/List")) (by decide) (by decide)))).other W5 (Or.inr (slot_ne (Or.inr (hw _ (List.mem_of_getElem? (i := 151) rfl))) (Or.inl (hw _ (List.mem_of_getElem? (i := 158) rfl))) (by decide) (t := (.object "java/util/List")) (t' := (.object "java/util/List")) (by decide) (by decide))))
  have f17 : Fld Z h5 oa "evenkeel/client/Window" "consumedAt" "I" uf_oa_consumedAt := (((F_oa_consumedAt.other W1 (Or.inr (slot_ne (Or.inl (hw _ (List.mem_of_getElem? (i := 182) rfl))) (Or.inl (hw _ (List.mem_of_getElem? (i := 140) rfl))) (by decide) (t := .int) (t' := .long) (by decide) (by decide)))).other W2 (Or.inr (slot_ne (Or.inl (hw _ (List.mem_of_getElem? (i := 182) rfl))) (Or.inl (hw _ (List.mem_of_getElem? (i := 102) rfl))) (by decide) (t := .int) (t' := (.object "java/util/List")) (by decide) (by decide)))).other W5 (Or.inr (slot_ne (Or.inl (hw _ (List.mem_of_getElem? (i := 182) rfl))) (Or.inl (hw _ (List.mem_of_getElem? (i := 158) rfl))) (by decide) (t := .int) (t' := (.object "java/util/List")) (by decide) (by decide))))
  have f18 : Fld Z h5 oa "evenkeel/client/Window" "left" "Ljava/util/BitSet;" uf_oa_left := (((F_oa_left.other W1 (Or.inr (slot_ne (Or.inr (hw _ (List.mem_of_getElem? (i := 131) rfl))) (Or.inl (hw _ (List.mem_of_getElem? (i := 140) rfl))) (by decide) (t := (.object "java/util/BitSet")) (t' := .long) (by decide) (by decide)))).other W2 (Or.inr (slot_ne (Or.inr (hw _ (List.mem_of_getElem? (i := 131) rfl))) (Or.inl (hw _ (List.mem_of_getElem? (i := 102) rfl))) (by decide) (t := (.object "java/util/BitSet")) (t' := (.object "java/util/List")) (by decide) (by decide)))).other W5 (Or.inr (slot_ne (Or.inr (hw _ (List.mem_of_getElem? (i := 131) rfl))) (Or.inl (hw _ (List.mem_of_getElem? (i := 158) rfl))) (by decide) (t := (.object "java/util/BitSet")) (t' := (.object "java/util/List")) (by decide) (by decide))))
  have f19 : Fld Z h5 oa "evenkeel/client/Window" "failing" "Ljava/util/TreeMap;" uf_oa_failing := (((F_oa_failing.other W1 (Or.inr (slot_ne (Or.inl (hw _ (List.mem_of_getElem? (i := 260) rfl))) (Or.inl (hw _ (List.mem_of_getElem? (i := 140) rfl))) (by decide) (t := (.object "java/util/TreeMap")) (t' := .long) (by decide) (by decide)))).other W2 (Or.inr (slot_ne (Or.inl (hw _ (List.mem_of_getElem? (i := 260) rfl))) (Or.inl (hw _ (List.mem_of_getElem? (i := 102) rfl))) (by decide) (t := (.object "java/util/TreeMap")) (t' := (.object "java/util/List")) (by decide) (by decide)))).other W5 (Or.inr (slot_ne (Or.inl (hw _ (List.mem_of_getElem? (i := 260) rfl))) (Or.inl (hw _ (List.mem_of_getElem? (i := 158) rfl))) (by decide) (t := (.object "java/util/TreeMap")) (t' := (.object "java/util/List")) (by decide) (by decide))))
  obtain ⟨fs, hr, hrun, hended, hW, hsame⟩ := X5.leave (v := none) (fun _ => rfl)
  refine ⟨_, _, hG _ (pre8 _ ?_), hrun, hended, _, _, rfl, ?_, ⟨_, rfl⟩, hW, hsame.mono (by decide) (by decide)⟩
  · show own_K p e below m T5 16 #[rv oa, lv qo, .second, rv la, rv lb] [] _
    exact X5.returnOut hx Bd.returns (hb hby d26_16) hr
  · show Q26 Z oa qo la lb uf_oa_size uf_oa_committed uf_oa_committedAhead uf_oa_unfinished uf_oa_next uf_oa_finished uf_oa_restart uf_oa_consumed uf_oa_consumedAt uf_oa_left uf_oa_failing uf_oa_committedFailures h0 n0 _ T5.heap _
    rw [e5]
    exact ⟨rfl, N5, K5, f9, f10, f5w, f11, f12, f13, f14, f15, f16, f17, f18, f19⟩

theorem d25_0 : decode jdk_22_method_1_code 0 = .ok (.aload_n 0, 1) := by decide +kernel
theorem d25_1 : decode jdk_22_method_1_code 1 = .ok (.invokespecial 1, 3) := by decide +kernel
theorem d25_4 : decode jdk_22_method_1_code 4 = .ok (.return_, 1) := by decide +kernel
theorem pn_9 : plainName "java/util/AbstractCollection" = true := by first | (simp [plainName, overriddenIn]; done) | decide +kernel
theorem ef_25 (m : MethodId) (x0 : Addr) : entryFrame m #[(.ref x0)] 1 = mkF m 0 #[rv x0] [] := by first | (simp [entryFrame, mkF, argsToLocals, Value.category]; done) | rfl
def Q25 (Z : State) (oa : Addr) (h0 : Heap) (n0 : Nat) (rv_ : Option Value) (h_ : Heap) (L_ : List Loc) : Prop := rv_ = none ∧ Fr n0 L_ ∧ h_ = h0
set_option maxRecDepth 65536 in
set_option maxHeartbeats 40000000 in
theorem rm25 (l : Launch) (Z : State) (a0 : Array Value) (hw : ∀ d ∈ tables_1, d.before a0 Z = true) (ws : List Jvm.Cond) (oa : Addr) (h0 : Heap) (n0 : Nat) (Z0 : n0 ≤ h0.size) :
    MetFree l (⟨"java/util/AbstractCollection", "<init>", "()V"⟩ : MethodName) (head1 (Jvm.Cond.code (⟨"java/util/AbstractCollection", "<init>", "()V"⟩ : MethodName) jdk_22_method_1_code 1 none :: ws) ({ frames := 1, cells := 0, slots := 0, locals := 12 } : Room)) (fun a U => a = #[(.ref oa)] ∧ Z.Warmed39 U.vm ∧ U.heap = h0) (fun _ _ _ _ _ => True) (fun _ U o U' => ∃ v L, o = .returned v ∧ Q25 Z oa h0 n0 v U'.heap L ∧ FrameEnd U o U' L ({ frames := 1, cells := 0, slots := 0, locals := 12 } : Room).cells ({ frames := 1, cells := 0, slots := 0, locals := 12 } : Room).slots) := by
  refine MetFree.of_bodySF (plainFor_of_name pn_9) hisR ?_
  intro p e s m args below meth c s₁ Bd hml0 hP hK
  obtain ⟨rfl, hZ, hh⟩ := hP
  have hx := Bd.exec
  have hby := Bd.bytes
  have hml : c.maxLocals = 1 := hml0
  have hown : s.vm.findClass "java/util/AbstractCollection" = some m.cls := findClass_of_methodNamed Bd.named
  have hnm := (name_of_methodNamed Bd.named Bd.method).1
  have X0 : Stand p l e ({ frames := 1, cells := 0, slots := 0, locals := 12 } : Room) s m #[(.ref oa)] below meth c s₁ [] 0 0 := Stand.of_body Bd
  have e0 : s₁.heap = h0 := by rw [← hh, Bd.state]; rfl
  have N0 := Fr.nil n0
  obtain ⟨G, hG, pre0⟩ : ∃ G : State → Prop, (∀ t, G t → Steps p.tables e below (s₁.setTop (entryFrame m #[(.ref oa)] 1)) t) ∧ ∀ t, own_K p e below m s₁ 0 #[rv oa] [] t → G t := ⟨fun t => Steps p.tables e below (s₁.setTop (entryFrame m #[(.ref oa)] 1)) t, fun _ k => k, fun t k => castTop (ef_25 m oa) k⟩
  obtain ⟨T1, X1, e1, st1⟩ := initO X0 hx hZ hown (hw _ (List.mem_of_getElem? (i := 207) rfl)) (hw _ (List.mem_of_getElem? (i := 25) rfl)) (hw _ (List.mem_of_getElem? (i := 26) rfl)) e0 (g := (mkF m 1 #[rv oa] [(.ref oa)])) rfl (by rw [hml]; rfl) rfl (hb hby d25_1) (by decide) (W := 0) (by show 2 * 0 + _ ≤ _; exact Nat.le_of_eq rfl) (by decide)
  have pre2 : ∀ t, own_K p e below m T1 4 #[rv oa] [] t → G t := by
    intro t k
    refine pre0 t ?_
    show own_K p e below m s₁ 0 #[rv oa] [] _
    refine XS.aloadN X0.here hx rfl (hb hby d25_0) rfl rfl ?_
    show own_K p e below m s₁ 1 #[rv oa] [(.ref oa)] _
    refine st1 _ ?_
    exact k
  obtain ⟨fs, hr, hrun, hended, hW, hsame⟩ := X1.leave (v := none) (fun _ => rfl)
  refine ⟨_, _, hG _ (pre2 _ ?_), hrun, hended, _, _, rfl, ?_, ⟨_, rfl⟩, hW, hsame.mono (by decide) (by decide)⟩
  · show own_K p e below m T1 4 #[rv oa] [] _
    exact X1.returnOut hx Bd.returns (hb hby d25_4) hr
  · show Q25 Z oa h0 n0 _ T1.heap _
    rw [e1]
    exact ⟨rfl, N0, rfl⟩

theorem d24_0 : decode jdk_39_method_1_code 0 = .ok (.aload_n 0, 1) := by decide +kernel
theorem d24_1 : decode jdk_39_method_1_code 1 = .ok (.invokespecial 1, 3) := by decide +kernel
theorem d24_4 : decode jdk_39_method_1_code 4 = .ok (.aload_n 0, 1) := by decide +kernel
theorem d24_5 : decode jdk_39_method_1_code 5 = .ok (.iconst 0, 1) := by decide +kernel
theorem d24_6 : decode jdk_39_method_1_code 6 = .ok (.putfield 7, 3) := by decide +kernel
theorem d24_9 : decode jdk_39_method_1_code 9 = .ok (.return_, 1) := by decide +kernel
theorem pn_10 : plainName "java/util/AbstractList" = true := by first | (simp [plainName, overriddenIn]; done) | decide +kernel
theorem ef_24 (m : MethodId) (x0 : Addr) : entryFrame m #[(.ref x0)] 1 = mkF m 0 #[rv x0] [] := by first | (simp [entryFrame, mkF, argsToLocals, Value.category]; done) | rfl
def Q24 (Z : State) (oa : Addr) (u1 : Value) (uf_oa_elementData : Value) (h0 : Heap) (n0 : Nat) (rv_ : Option Value) (h_ : Heap) (L_ : List Loc) : Prop := rv_ = none ∧ Fr n0 L_ ∧ Keep h0 h_ [oa] ∧ Fld Z h_ oa "java/util/ArrayList" "elementData" "[Ljava/lang/Object;" uf_oa_elementData
set_option maxRecDepth 65536 in
set_option maxHeartbeats 40000000 in
theorem rm24 (l : Launch) (Z : State) (a0 : Array Value) (hw : ∀ d ∈ tables_1, d.before a0 Z = true) (ws : List Jvm.Cond) (oa : Addr) (u1 : Value) (uf_oa_elementData : Value) (h0 : Heap) (n0 : Nat) (Z0 : n0 ≤ h0.size) (E_ : Exa Z h0 oa "java/util/ArrayList") (F1 : Fld Z h0 oa "java/util/AbstractList" "modCount" "I" u1) (g_ : n0 ≤ oa) (F_oa_elementData : Fld Z h0 oa "java/util/ArrayList" "elementData" "[Ljava/lang/Object;" uf_oa_elementData) :
    MetFree l (⟨"java/util/AbstractList", "<init>", "()V"⟩ : MethodName) (head1 (Jvm.Cond.code (⟨"java/util/AbstractList", "<init>", "()V"⟩ : MethodName) jdk_39_method_1_code 1 none :: ws) ({ frames := 2, cells := 0, slots := 0, locals := 24 } : Room)) (fun a U => a = #[(.ref oa)] ∧ Z.Warmed39 U.vm ∧ U.heap = h0) (fun _ _ _ _ _ => True) (fun _ U o U' => ∃ v L, o = .returned v ∧ Q24 Z oa u1 uf_oa_elementData h0 n0 v U'.heap L ∧ FrameEnd U o U' L ({ frames := 2, cells := 0, slots := 0, locals := 24 } : Room).cells ({ frames := 2, cells := 0, slots := 0, locals := 24 } : Room).slots) := by
  refine MetFree.of_bodySF (plainFor_of_name pn_10) hisR ?_
  intro p e s m args below meth c s₁ Bd hml0 hP hK
  obtain ⟨rfl, hZ, hh⟩ := hP
  have hx := Bd.exec
  have hby := Bd.bytes
  have hml : c.maxLocals = 1 := hml0
  have hown : s.vm.findClass "java/util/AbstractList" = some m.cls := findClass_of_methodNamed Bd.named
  have hnm := (name_of_methodNamed Bd.named Bd.method).1
  have X0 : Stand p l e ({ frames := 2, cells := 0, slots := 0, locals := 24 } : Room) s m #[(.ref oa)] below meth c s₁ [] 0 0 := Stand.of_body Bd
  have e0 : s₁.heap = h0 := by rw [← hh, Bd.state]; rfl
  have N0 := Fr.nil n0
  obtain ⟨G, hG, pre0⟩ : ∃ G : State → Prop, (∀ t, G t → Steps p.tables e below (s₁.setTop (entryFrame m #[(.ref oa)] 1)) t) ∧ ∀ t, own_K p e below m s₁ 0 #[rv oa] [] t → G t := ⟨fun t => Steps p.tables e below (s₁.setTop (entryFrame m #[(.ref oa)] 1)) t, fun _ k => k, fun t k => castTop (ef_24 m oa) k⟩
  obtain ⟨_, _, ⟨T1, L1, k1, n1⟩, -, X1, ⟨Lc1, hQ1, l1, y1, z1⟩, st1⟩ := X0.specialBack hx (y := (⟨"java/util/AbstractCollection", "<init>", "()V"⟩ : MethodName)) rfl hown (mvT hZ (hw _ (List.mem_of_getElem? (i := 201) rfl))) (mvT hZ (hw _ (List.mem_of_getElem? (i := 202) rfl))) (mvT hZ (hw _ (List.mem_of_getElem? (i := 206) rfl))) (by decide) (backOf (W := 0) (rm25 l Z a0 hw [] oa h0 n0 Z0 ) hZ (hw _ (List.mem_of_getElem? (i := 206) rfl)) (hw _ (List.mem_of_getElem? (i := 205) rfl)) (by decide) (by decide)) (g := (mkF m 1 #[rv oa] [(.ref oa)])) rfl (by rw [hml]; rfl) (Steps.refl _) (a := oa) (argsL := []) (rest := []) (lenOf pd_3 rfl) rfl (by show 2 * 0 + _ ≤ _; exact Nat.le_of_eq rfl) (hb hby d24_1) (fun _ _ => ⟨rfl, e0, (by decide : 0 + 0 ≤ _), (by decide : 0 + 0 ≤ _)⟩)
  dsimp only [Pt.U, Pt.locs, Pt.cells, Pt.slots] at X1 l1 y1 z1 st1 hQ1
  subst l1 y1 z1
  obtain ⟨rfl, Nq1, eh1⟩ := hQ1
  have N1 := Fr.app N0 Nq1
  obtain ⟨T2, h2, X2, e2, W2, st2⟩ := putF X1 hx hZ hown (host := "") (Or.inl (hw _ (List.mem_of_getElem? (i := 208) rfl))) Via.refl eh1 F1 E_ (Or.inl (hw _ (List.mem_of_getElem? (i := 209) rfl))) (hw _ (List.mem_of_getElem? (i := 190) rfl)) (ty := .int) (by decide) rfl rfl (g := (mkF m 6 #[rv oa] [(.int (0 : Int32)), (.ref oa)])) rfl rfl (hb hby d24_6)
  have f2w := F1.same W2
  have K2 : Keep h0 h2 [oa] := (Keep.refl h0 [oa]).wr W2 (Or.inl (List.mem_of_getElem? (i := 0) rfl))
  have N2 := Fr.snoc X2 N1 g_
  have sz2 : n0 ≤ h2.size := Nat.le_trans Z0 (Keep.of_wr W2).1
  have pre3 : ∀ t, own_K p e below m T2 9 #[rv oa] [] t → G t := by
    intro t k
    refine pre0 t ?_
    show own_K p e below m s₁ 0 #[rv oa] [] _
    refine XS.aloadN X0.here hx rfl (hb hby d24_0) rfl rfl ?_
    show own_K p e below m s₁ 1 #[rv oa] [(.ref oa)] _
    refine st1.trans ?_
    show own_K p e below m T1 4 #[rv oa] [] _
    refine XS.aloadN X1.here hx rfl (hb hby d24_4) rfl rfl ?_
    show own_K p e below m T1 5 #[rv oa] [(.ref oa)] _
    refine XS.iconst X1.here hx rfl (hb hby d24_5) ?_
    show own_K p e below m T1 6 #[rv oa] [(.int (0 : Int32)), (.ref oa)] _
    refine st2 _ ?_
    exact k
  have f4 : Fld Z h2 oa "java/util/ArrayList" "elementData" "[Ljava/lang/Object;" uf_oa_elementData := (F_oa_elementData.other W2 (Or.inr (slot_ne (Or.inl (hw _ (List.mem_of_getElem? (i := 212) rfl))) (Or.inl (hw _ (List.mem_of_getElem? (i := 209) rfl))) (by decide) (t := (.array (.object "java/lang/Object"))) (t' := .int) (by decide) (by decide))))
  obtain ⟨fs, hr, hrun, hended, hW, hsame⟩ := X2.leave (v := none) (fun _ => rfl)
  refine ⟨_, _, hG _ (pre3 _ ?_), hrun, hended, _, _, rfl, ?_, ⟨_, rfl⟩, hW, hsame.mono (by decide) (by decide)⟩
  · show own_K p e below m T2 9 #[rv oa] [] _
    exact X2.returnOut hx Bd.returns (hb hby d24_9) hr
  · show Q24 Z oa u1 uf_oa_elementData h0 n0 _ T2.heap _
    rw [e2]
    exact ⟨rfl, N2, K2, f4⟩

theorem d23_0 : decode jdk_38_method_2_code 0 = .ok (.aload_n 0, 1) := by decide +kernel
theorem d23_1 : decode jdk_38_method_2_code 1 = .ok (.invokespecial 1, 3) := by decide +kernel
theorem d23_4 : decode jdk_38_method_2_code 4 = .ok (.aload_n 0, 1) := by decide +kernel
theorem d23_5 : decode jdk_38_method_2_code 5 = .ok (.getstatic 39, 3) := by decide +kernel
theorem d23_8 : decode jdk_38_method_2_code 8 = .ok (.putfield 9, 3) := by decide +kernel
theorem d23_11 : decode jdk_38_method_2_code 11 = .ok (.return_, 1) := by decide +kernel
theorem pn_11 : plainName "java/util/ArrayList" = true := by first | (simp [plainName, overriddenIn]; done) | decide +kernel
theorem ef_23 (m : MethodId) (x0 : Addr) : entryFrame m #[(.ref x0)] 1 = mkF m 0 #[rv x0] [] := by first | (simp [entryFrame, mkF, argsToLocals, Value.category]; done) | rfl
def Q23 (Z : State) (oa : Addr) (u1 : Value) (u2 : Value) (da : Addr) (h0 : Heap) (n0 : Nat) (rv_ : Option Value) (h_ : Heap) (L_ : List Loc) : Prop := rv_ = none ∧ Fr n0 L_ ∧ Keep h0 h_ [oa]
set_option maxRecDepth 65536 in
set_option maxHeartbeats 40000000 in
theorem rm23 (l : Launch) (Z : State) (a0 : Array Value) (hw : ∀ d ∈ tables_1, d.before a0 Z = true) (ws : List Jvm.Cond) (oa : Addr) (u1 : Value) (u2 : Value) (da : Addr) (h0 : Heap) (n0 : Nat) (Z0 : n0 ≤ h0.size) (E_ : Exa Z h0 oa "java/util/ArrayList") (F1 : Fld Z h0 oa "java/util/AbstractList" "modCount" "I" u1) (F2 : Fld Z h0 oa "java/util/ArrayList" "elementData" "[Ljava/lang/Object;" u2) (g_ : n0 ≤ oa) (O_ : Old Z n0 h0) (SD : Sta Z Z.heap "java/util/ArrayList" "DEFAULTCAPACITY_EMPTY_ELEMENTDATA" "[Ljava/lang/Object;" (.ref da)) :
    MetFree l (⟨"java/util/ArrayList", "<init>", "()V"⟩ : MethodName) (head1 (Jvm.Cond.code (⟨"java/util/ArrayList", "<init>", "()V"⟩ : MethodName) jdk_38_method_2_code 1 none :: ws) ({ frames := 3, cells := 0, slots := 0, locals := 36 } : Room)) (fun a U => a = #[(.ref oa)] ∧ Z.Warmed39 U.vm ∧ U.heap = h0) (fun _ _ _ _ _ => True) (fun _ U o U' => ∃ v L, o = .returned v ∧ Q23 Z oa u1 u2 da h0 n0 v U'.heap L ∧ FrameEnd U o U' L ({ frames := 3, cells := 0, slots := 0, locals := 36 } : Room).cells ({ frames := 3, cells := 0, slots := 0, locals := 36 } : Room).slots) := by
  refine MetFree.of_bodySF (plainFor_of_name pn_11) hisR ?_
  intro p e s m args below meth c s₁ Bd hml0 hP hK
  obtain ⟨rfl, hZ, hh⟩ := hP
  have hx := Bd.exec
  have hby := Bd.bytes
  have hml : c.maxLocals = 1 := hml0
  have hown : s.vm.findClass "java/util/ArrayList" = some m.cls := findClass_of_methodNamed Bd.named
  have hnm := (name_of_methodNamed Bd.named Bd.method).1
  have X0 : Stand p l e ({ frames := 3, cells := 0, slots := 0, locals := 36 } : Room) s m #[(.ref oa)] below meth c s₁ [] 0 0 := Stand.of_body Bd
  have e0 : s₁.heap = h0 := by rw [← hh, Bd.state]; rfl
  have N0 := Fr.nil n0
  obtain ⟨G, hG, pre0⟩ : ∃ G : State → Prop, (∀ t, G t → Steps p.tables e below (s₁.setTop (entryFrame m #[(.ref oa)] 1)) t) ∧ ∀ t, own_K p e below m s₁ 0 #[rv oa] [] t → G t := ⟨fun t => Steps p.tables e below (s₁.setTop (entryFrame m #[(.ref oa)] 1)) t, fun _ k => k, fun t k => castTop (ef_23 m oa) k⟩
  obtain ⟨_, _, ⟨T1, L1, k1, n1⟩, -, X1, ⟨Lc1, hQ1, l1, y1, z1⟩, st1⟩ := X0.specialBack hx (y := (⟨"java/util/AbstractList", "<init>", "()V"⟩ : MethodName)) rfl hown (mvT hZ (hw _ (List.mem_of_getElem? (i := 195) rfl))) (mvT hZ (hw _ (List.mem_of_getElem? (i := 196) rfl))) (mvT hZ (hw _ (List.mem_of_getElem? (i := 200) rfl))) (by decide) (backOf (W := 0) (rm24 l Z a0 hw [] oa u1 u2 h0 n0 Z0 E_ F1 g_ F2) hZ (hw _ (List.mem_of_getElem? (i := 200) rfl)) (hw _ (List.mem_of_getElem? (i := 199) rfl)) (by decide) (by decide)) (g := (mkF m 1 #[rv oa] [(.ref oa)])) rfl (by rw [hml]; rfl) (Steps.refl _) (a := oa) (argsL := []) (rest := []) (lenOf pd_3 rfl) rfl (by show 2 * 0 + _ ≤ _; exact Nat.le_of_eq rfl) (hb hby d23_1) (fun _ _ => ⟨rfl, e0, (by decide : 0 + 0 ≤ _), (by decide : 0 + 0 ≤ _)⟩)
  dsimp only [Pt.U, Pt.locs, Pt.cells, Pt.slots] at X1 l1 y1 z1 st1 hQ1
  subst l1 y1 z1
  obtain ⟨rfl, Nq1, Kc1, P_oa_elementData_1⟩ := hQ1
  have N1 := Fr.app N0 Nq1
  have K1 : Keep h0 T1.heap [oa] := (Keep.refl h0 [oa]).trans Kc1 (allS (Or.inl (List.mem_of_getElem? (i := 0) rfl)) all0)
  have sz1 : n0 ≤ T1.heap.size := Nat.le_trans Z0 Kc1.1
  have f3 : Old Z n0 T1.heap := (O_.keep Kc1 (allS g_ all0))
  obtain ⟨T2, X2, e2, st2⟩ := getS2 X1 hx hZ hown (host := "") (Or.inl (hw _ (List.mem_of_getElem? (i := 210) rfl))) Via.refl rfl (Sta.ext f3.2 SD) (g := (mkF m 5 #[rv oa] [(.ref oa)])) rfl (hb hby d23_5)
  have f5 : Exa Z T1.heap oa "java/util/ArrayList" := (E_.keep Kc1)
  obtain ⟨T4, h4, X4, e4, W4, st4⟩ := putF X2 hx hZ hown (host := "") (Or.inl (hw _ (List.mem_of_getElem? (i := 211) rfl))) Via.refl e2 P_oa_elementData_1 f5 (Or.inl (hw _ (List.mem_of_getElem? (i := 212) rfl))) (hw _ (List.mem_of_getElem? (i := 190) rfl)) (ty := (.array (.object "java/lang/Object"))) (by decide) rfl rfl (g := (mkF m 8 #[rv oa] [(.ref da), (.ref oa)])) rfl rfl (hb hby d23_8)
  have f4w := P_oa_elementData_1.same W4
  have K4 : Keep h0 h4 [oa] := K1.wr W4 (Or.inl (List.mem_of_getElem? (i := 0) rfl))
  have N4 := Fr.snoc X4 N1 g_
  have sz4 : n0 ≤ h4.size := Nat.le_trans sz1 (Keep.of_wr W4).1
  have pre6 : ∀ t, own_K p e below m T4 11 #[rv oa] [] t → G t := by
    intro t k
    refine pre0 t ?_
    show own_K p e below m s₁ 0 #[rv oa] [] _
    refine XS.aloadN X0.here hx rfl (hb hby d23_0) rfl rfl ?_
    show own_K p e below m s₁ 1 #[rv oa] [(.ref oa)] _
    refine st1.trans ?_
    show own_K p e below m T1 4 #[rv oa] [] _
    refine XS.aloadN X1.here hx rfl (hb hby d23_4) rfl rfl ?_
    show own_K p e below m T1 5 #[rv oa] [(.ref oa)] _
    refine st2 _ ?_
    show own_K p e below m T2 8 #[rv oa] [(.ref da), (.ref oa)] _
    refine st4 _ ?_
    exact k
  obtain ⟨fs, hr, hrun, hended, hW, hsame⟩ := X4.leave (v := none) (fun _ => rfl)
  refine ⟨_, _, hG _ (pre6 _ ?_), hrun, hended, _, _, rfl, ?_, ⟨_, rfl⟩, hW, hsame.mono (by decide) (by decide)⟩
  · show own_K p e below m T4 11 #[rv oa] [] _
    exact X4.returnOut hx Bd.returns (hb hby d23_11) hr
  · show Q23 Z oa u1 u2 da h0 n0 _ T4.heap _
    rw [e4]
    exact ⟨rfl, N4, K4⟩

theorem d20_0 : decode prog_141_method_3_code 0 = .ok (.aload_n 0, 1) := by decide +kernel
theorem d20_1 : decode prog_141_method_3_code 1 = .ok (.getfield 28, 3) := by decide +kernel
theorem d20_4 : decode prog_141_method_3_code 4 = .ok (.lconst 0, 1) := by decide +kernel
theorem d20_5 : decode prog_141_method_3_code 5 = .ok (.lcmp, 1) := by decide +kernel
theorem d20_6 : decode prog_141_method_3_code 6 = .ok (.ifCond .lt 7, 3) := by decide +kernel
theorem d20_13 : decode prog_141_method_3_code 13 = .ok (.aload_n 0, 1) := by decide +kernel
theorem d20_14 : decode prog_141_method_3_code 14 = .ok (.getfield 35, 3) := by decide +kernel
theorem d20_17 : decode prog_141_method_3_code 17 = .ok (.i2l, 1) := by decide +kernel
theorem d20_18 : decode prog_141_method_3_code 18 = .ok (.aload_n 0, 1) := by decide +kernel
theorem d20_19 : decode prog_141_method_3_code 19 = .ok (.getfield 51, 3) := by decide +kernel
theorem d20_22 : decode prog_141_method_3_code 22 = .ok (.aload_n 0, 1) := by decide +kernel
theorem d20_23 : decode prog_141_method_3_code 23 = .ok (.getfield 45, 3) := by decide +kernel
theorem d20_26 : decode prog_141_method_3_code 26 = .ok (.lsub, 1) := by decide +kernel
theorem d20_27 : decode prog_141_method_3_code 27 = .ok (.lsub, 1) := by decide +kernel
theorem d20_28 : decode prog_141_method_3_code 28 = .ok (.l2i, 1) := by decide +kernel
theorem d20_29 : decode prog_141_method_3_code 29 = .ok (.ireturn, 1) := by decide +kernel
theorem d20_9 : decode prog_141_method_3_code 9 = .ok (.iconst 0, 1) := by decide +kernel
theorem d20_10 : decode prog_141_method_3_code 10 = .ok (.goto 19, 3) := by decide +kernel
theorem ef_20 (m : MethodId) (x0 : Addr) : entryFrame m #[(.ref x0)] 1 = mkF m 0 #[rv x0] [] := by first | (simp [entryFrame, mkF, argsToLocals, Value.category]; done) | rfl
def Q20 (Z : State) (oa : Addr) (qr : Int64) (xs : Int32) (qn : Int64) (qc : Int64) (h0 : Heap) (n0 : Nat) (rv_ : Option Value) (h_ : Heap) (L_ : List Loc) : Prop := rv_ = some (.int (if qr < (0 : Int64) then (((xs.toInt64) - (qn - qc)).toInt32) else (0 : Int32))) ∧ Fr n0 L_ ∧ h_ = h0
set_option maxRecDepth 65536 in
set_option maxHeartbeats 40000000 in
theorem rm20 (l : Launch) (Z : State) (a0 : Array Value) (hw : ∀ d ∈ tables_1, d.before a0 Z = true) (ws : List Jvm.Cond) (oa : Addr) (qr : Int64) (xs : Int32) (qn : Int64) (qc : Int64) (h0 : Heap) (n0 : Nat) (Z0 : n0 ≤ h0.size) (Fr_ : Fld Z h0 oa "evenkeel/client/Window" "restart" "J" (.long qr)) (Fs : Fld Z h0 oa "evenkeel/client/Window" "size" "I" (.int xs)) (Fn : Fld Z h0 oa "evenkeel/client/Window" "next" "J" (.long qn)) (Fc : Fld Z h0 oa "evenkeel/client/Window" "committed" "J" (.long qc)) :
    MetFree l (⟨"evenkeel/client/Window", "room", "()I"⟩ : MethodName) (head1 (Jvm.Cond.code (⟨"evenkeel/client/Window", "room", "()I"⟩ : MethodName) prog_141_method_3_code 1 (some .int) :: ws) ({ frames := 0, cells := 0, slots := 0, locals := 0 } : Room)) (fun a U => a = #[(.ref oa)] ∧ Z.Warmed39 U.vm ∧ U.heap = h0) (fun _ _ _ _ _ => True) (fun _ U o U' => ∃ v L, o = .returned v ∧ Q20 Z oa qr xs qn qc h0 n0 v U'.heap L ∧ FrameEnd U o U' L ({ frames := 0, cells := 0, slots := 0, locals := 0 } : Room).cells ({ frames := 0, cells := 0, slots := 0, locals := 0 } : Room).slots) := by
  refine MetFree.of_bodySF (plainFor_of_name pn_8) hisR ?_
  intro p e s m args below meth c s₁ Bd hml0 hP hK
  obtain ⟨rfl, hZ, hh⟩ := hP
  have hx := Bd.exec
  have hby := Bd.bytes
  have hml : c.maxLocals = 1 := hml0
  have hown : s.vm.findClass "evenkeel/client/Window" = some m.cls := findClass_of_methodNamed Bd.named
  have hnm := (name_of_methodNamed Bd.named Bd.method).1
  have X0 : Stand p l e ({ frames := 0, cells := 0, slots := 0, locals := 0 } : Room) s m #[(.ref oa)] below meth c s₁ [] 0 0 := Stand.of_body Bd
  have e0 : s₁.heap = h0 := by rw [← hh, Bd.state]; rfl
  have N0 := Fr.nil n0
  obtain ⟨G, hG, pre0⟩ : ∃ G : State → Prop, (∀ t, G t → Steps p.tables e below (s₁.setTop (entryFrame m #[(.ref oa)] 1)) t) ∧ ∀ t, own_K p e below m s₁ 0 #[rv oa] [] t → G t := ⟨fun t => Steps p.tables e below (s₁.setTop (entryFrame m #[(.ref oa)] 1)) t, fun _ k => k, fun t k => castTop (ef_20 m oa) k⟩
  obtain ⟨T1, X1, e1, st1⟩ := getF X0 hx hZ hown (host := "") (Or.inl (hw _ (List.mem_of_getElem? (i := 128) rfl))) Via.refl e0 Fr_ (g := (mkF m 1 #[rv oa] [(.ref oa)])) rfl rfl (hb hby d20_1)
  have pre2 : ∀ t, own_K p e below m T1 6 #[rv oa] [(.int (lcmpW qr (0 : Int64)))] t → G t := by
    intro t k
    refine pre0 t ?_
    show own_K p e below m s₁ 0 #[rv oa] [] _
    refine XS.aloadN X0.here hx rfl (hb hby d20_0) rfl rfl ?_
    show own_K p e below m s₁ 1 #[rv oa] [(.ref oa)] _
    refine st1 _ ?_
    show own_K p e below m T1 4 #[rv oa] [(.long qr)] _
    refine XS.lconst X1.here hx rfl (hb hby d20_4) ?_
    show own_K p e below m T1 5 #[rv oa] [(.long (0 : Int64)), (.long qr)] _
    refine XS.lcmp X1.here hx rfl (hb hby d20_5) rfl ?_
    exact k
  by_cases hc6_3 : qr < (0 : Int64)
  · obtain ⟨T4, X4, e4, st4⟩ := getF X1 hx hZ hown (host := "") (Or.inl (hw _ (List.mem_of_getElem? (i := 132) rfl))) Via.refl e1 Fs (g := (mkF m 14 #[rv oa] [(.ref oa)])) rfl rfl (hb hby d20_14)
    obtain ⟨T5, X5, e5, st5⟩ := getF X4 hx hZ hown (host := "") (Or.inl (hw _ (List.mem_of_getElem? (i := 143) rfl))) Via.refl e4 Fn (g := (mkF m 19 #[rv oa] [(.ref oa), (.long (xs.toInt64))])) rfl rfl (hb hby d20_19)
    obtain ⟨T6, X6, e6, st6⟩ := getF X5 hx hZ hown (host := "") (Or.inl (hw _ (List.mem_of_getElem? (i := 139) rfl))) Via.refl e5 Fc (g := (mkF m 23 #[rv oa] [(.ref oa), (.long qn), (.long (xs.toInt64))])) rfl rfl (hb hby d20_23)
    have pre7 : ∀ t, own_K p e below m T6 29 #[rv oa] [(.int (((xs.toInt64) - (qn - qc)).toInt32))] t → G t := by
      intro t k
      refine pre2 t ?_
      show own_K p e below m T1 6 #[rv oa] [(.int (lcmpW qr (0 : Int64)))] _
      refine XS.ifYes X1.here hx rfl (pc0 := 6) (pc' := 13) rfl (hb hby d20_6) rfl ((if0 _ _).trans (tlt ((lw_lt _ _).mpr hc6_3)).1) (by decide) (by decide) ?_
      show own_K p e below m T1 13 #[rv oa] [] _
      refine XS.aloadN X1.here hx rfl (hb hby d20_13) rfl rfl ?_
      show own_K p e below m T1 14 #[rv oa] [(.ref oa)] _
      refine st4 _ ?_
      show own_K p e below m T4 17 #[rv oa] [(.int xs)] _
      refine XS.i2l X4.here hx rfl (hb hby d20_17) rfl ?_
      show own_K p e below m T4 18 #[rv oa] [(.long (xs.toInt64))] _
      refine XS.aloadN X4.here hx rfl (hb hby d20_18) rfl rfl ?_
      show own_K p e below m T4 19 #[rv oa] [(.ref oa), (.long (xs.toInt64))] _
      refine st5 _ ?_
      show own_K p e below m T5 22 #[rv oa] [(.long qn), (.long (xs.toInt64))] _
      refine XS.aloadN X5.here hx rfl (hb hby d20_22) rfl rfl ?_
      show own_K p e below m T5 23 #[rv oa] [(.ref oa), (.long qn), (.long (xs.toInt64))] _
      refine st6 _ ?_
      show own_K p e below m T6 26 #[rv oa] [(.long qc), (.long qn), (.long (xs.toInt64))] _
      refine XS.lsub X6.here hx rfl (hb hby d20_26) rfl ?_
      show own_K p e below m T6 27 #[rv oa] [(.long (qn - qc)), (.long (xs.toInt64))] _
      refine XS.lsub X6.here hx rfl (hb hby d20_27) rfl ?_
      show own_K p e below m T6 28 #[rv oa] [(.long ((xs.toInt64) - (qn - qc)))] _
      refine XS.l2i X6.here hx rfl (hb hby d20_28) rfl ?_
      exact k
    obtain ⟨fs, hr, hrun, hended, hW, hsame⟩ := X6.leave (v := some (.int (((xs.toInt64) - (qn - qc)).toInt32))) (fun h => by rw [Bd.returns] at h; cases h)
    refine ⟨_, _, hG _ (pre7 _ ?_), hrun, hended, _, _, rfl, ?_, ⟨_, rfl⟩, hW, hsame.mono (by decide) (by decide)⟩
    · show own_K p e below m T6 29 #[rv oa] [(.int (((xs.toInt64) - (qn - qc)).toInt32))] _
      exact retI X6 hx Bd.returns (hb hby d20_29) hr
    · show Q20 Z oa qr xs qn qc h0 n0 _ T6.heap _
      rw [e6]
      exact ⟨(by simp only [if_pos hc6_3]), N0, rfl⟩
  · have pre8 : ∀ t, own_K p e below m T1 29 #[rv oa] [(.int (0 : Int32))] t → G t := by
      intro t k
      refine pre2 t ?_
      show own_K p e below m T1 6 #[rv oa] [(.int (lcmpW qr (0 : Int64)))] _
      refine XS.ifNo X1.here hx rfl (hb hby d20_6) rfl ((if0 _ _).trans (flt (mt (lw_lt _ _).mp hc6_3)).1) ?_
      show own_K p e below m T1 9 #[rv oa] [] _
      refine XS.iconst X1.here hx rfl (hb hby d20_9) ?_
      show own_K p e below m T1 10 #[rv oa] [(.int (0 : Int32))] _
      refine XS.goto X1.here hx rfl (pc0 := 10) (pc' := 29) rfl (hb hby d20_10) (by decide) (by decide) ?_
      exact k
    obtain ⟨fs, hr, hrun, hended, hW, hsame⟩ := X1.leave (v := some (.int (0 : Int32))) (fun h => by rw [Bd.returns] at h; cases h)
    refine ⟨_, _, hG _ (pre8 _ ?_), hrun, hended, _, _, rfl, ?_, ⟨_, rfl⟩, hW, hsame.mono (by decide) (by decide)⟩
    · show own_K p e below m T1 29 #[rv oa] [(.int (0 : Int32))] _
      exact retI X1 hx Bd.returns (hb hby d20_29) hr
    · show Q20 Z oa qr xs qn qc h0 n0 _ T1.heap _
      rw [e1]
      exact ⟨(by simp only [if_neg hc6_3]), N0, rfl⟩

theorem d21_0 : decode jdk_29_method_69_code 0 = .ok (.iload_n 0, 1) := by decide +kernel
theorem d21_1 : decode jdk_29_method_69_code 1 = .ok (.iload_n 1, 1) := by decide +kernel
theorem d21_2 : decode jdk_29_method_69_code 2 = .ok (.if_icmp .gt 7, 3) := by decide +kernel
theorem d21_9 : decode jdk_29_method_69_code 9 = .ok (.iload_n 1, 1) := by decide +kernel
theorem d21_10 : decode jdk_29_method_69_code 10 = .ok (.ireturn, 1) := by decide +kernel
theorem d21_5 : decode jdk_29_method_69_code 5 = .ok (.iload_n 0, 1) := by decide +kernel
theorem d21_6 : decode jdk_29_method_69_code 6 = .ok (.goto 4, 3) := by decide +kernel
theorem ef_21 (m : MethodId) (x0 : Int32) (x1 : Int32) : entryFrame m #[(.int x0), (.int x1)] 2 = mkF m 0 #[iv x0, iv x1] [] := by first | (simp [entryFrame, mkF, argsToLocals, Value.category]; done) | rfl
def Q21 (Z : State) (xa : Int32) (xb : Int32) (h0 : Heap) (n0 : Nat) (rv_ : Option Value) (h_ : Heap) (L_ : List Loc) : Prop := rv_ = some (.int (if xb < xa then xb else xa)) ∧ Fr n0 L_ ∧ h_ = h0
set_option maxRecDepth 65536 in
set_option maxHeartbeats 40000000 in
theorem rm21 (l : Launch) (Z : State) (a0 : Array Value) (hw : ∀ d ∈ tables_1, d.before a0 Z = true) (ws : List Jvm.Cond) (xa : Int32) (xb : Int32) (h0 : Heap) (n0 : Nat) (Z0 : n0 ≤ h0.size) :
    MetFree l (⟨"java/lang/Math", "min", "(II)I"⟩ : MethodName) (head1 (Jvm.Cond.code (⟨"java/lang/Math", "min", "(II)I"⟩ : MethodName) jdk_29_method_69_code 2 (some .int) :: ws) ({ frames := 0, cells := 0, slots := 0, locals := 0 } : Room)) (fun a U => a = #[(.int xa), (.int xb)] ∧ Z.Warmed39 U.vm ∧ U.heap = h0) (fun _ _ _ _ _ => True) (fun _ U o U' => ∃ v L, o = .returned v ∧ Q21 Z xa xb h0 n0 v U'.heap L ∧ FrameEnd U o U' L ({ frames := 0, cells := 0, slots := 0, locals := 0 } : Room).cells ({ frames := 0, cells := 0, slots := 0, locals := 0 } : Room).slots) := by
  refine MetFree.of_bodySF (Jvm.Free.JP.mathPlain rfl (by decide +kernel)) hisR ?_
  intro p e s m args below meth c s₁ Bd hml0 hP hK
  obtain ⟨rfl, hZ, hh⟩ := hP
  have hx := Bd.exec
  have hby := Bd.bytes
  have hml : c.maxLocals = 2 := hml0
  have hown : s.vm.findClass "java/lang/Math" = some m.cls := findClass_of_methodNamed Bd.named
  have hnm := (name_of_methodNamed Bd.named Bd.method).1
  have X0 : Stand p l e ({ frames := 0, cells := 0, slots := 0, locals := 0 } : Room) s m #[(.int xa), (.int xb)] below meth c s₁ [] 0 0 := Stand.of_body Bd
  have e0 : s₁.heap = h0 := by rw [← hh, Bd.state]; rfl
  have N0 := Fr.nil n0
  obtain ⟨G, hG, pre0⟩ : ∃ G : State → Prop, (∀ t, G t → Steps p.tables e below (s₁.setTop (entryFrame m #[(.int xa), (.int xb)] 2)) t) ∧ ∀ t, own_K p e below m s₁ 0 #[iv xa, iv xb] [] t → G t := ⟨fun t => Steps p.tables e below (s₁.setTop (entryFrame m #[(.int xa), (.int xb)] 2)) t, fun _ k => k, fun t k => castTop (ef_21 m xa xb) k⟩
  have pre1 : ∀ t, own_K p e below m s₁ 2 #[iv xa, iv xb] [(.int xb), (.int xa)] t → G t := by
    intro t k
    refine pre0 t ?_
    show own_K p e below m s₁ 0 #[iv xa, iv xb] [] _
    refine XS.iloadN X0.here hx rfl (hb hby d21_0) rfl ?_
    show own_K p e below m s₁ 1 #[iv xa, iv xb] [(.int xa)] _
    refine XS.iloadN X0.here hx rfl (hb hby d21_1) rfl ?_
    exact k
  by_cases hc2_2 : xb < xa
  · have pre3 : ∀ t, own_K p e below m s₁ 10 #[iv xa, iv xb] [(.int xb)] t → G t := by
      intro t k
      refine pre1 t ?_
      show own_K p e below m s₁ 2 #[iv xa, iv xb] [(.int xb), (.int xa)] _
      refine XS.icmpYes X0.here hx rfl (pc0 := 2) (pc' := 9) rfl (hb hby d21_2) rfl (tlt hc2_2).2.2.1 (by decide) (by decide) ?_
      show own_K p e below m s₁ 9 #[iv xa, iv xb] [] _
      refine XS.iloadN X0.here hx rfl (hb hby d21_9) rfl ?_
      exact k
    obtain ⟨fs, hr, hrun, hended, hW, hsame⟩ := X0.leave (v := some (.int xb)) (fun h => by rw [Bd.returns] at h; cases h)
    refine ⟨_, _, hG _ (pre3 _ ?_), hrun, hended, _, _, rfl, ?_, ⟨_, rfl⟩, hW, hsame.mono (by decide) (by decide)⟩
    · show own_K p e below m s₁ 10 #[iv xa, iv xb] [(.int xb)] _
      exact retI X0 hx Bd.returns (hb hby d21_10) hr
    · show Q21 Z xa xb h0 n0 _ s₁.heap _
      rw [e0]
      exact ⟨(by simp only [if_pos hc2_2]), N0, rfl⟩
  · have pre4 : ∀ t, own_K p e below m s₁ 10 #[iv xa, iv xb] [(.int xa)] t → G t := by
      intro t k
      refine pre1 t ?_
      show own_K p e below m s₁ 2 #[iv xa, iv xb] [(.int xb), (.int xa)] _
      refine XS.icmpNo X0.here hx rfl (hb hby d21_2) rfl (flt hc2_2).2.2.1 ?_
      show own_K p e below m s₁ 5 #[iv xa, iv xb] [] _
      refine XS.iloadN X0.here hx rfl (hb hby d21_5) rfl ?_
      show own_K p e below m s₁ 6 #[iv xa, iv xb] [(.int xa)] _
      refine XS.goto X0.here hx rfl (pc0 := 6) (pc' := 10) rfl (hb hby d21_6) (by decide) (by decide) ?_
      exact k
    obtain ⟨fs, hr, hrun, hended, hW, hsame⟩ := X0.leave (v := some (.int xa)) (fun h => by rw [Bd.returns] at h; cases h)
    refine ⟨_, _, hG _ (pre4 _ ?_), hrun, hended, _, _, rfl, ?_, ⟨_, rfl⟩, hW, hsame.mono (by decide) (by decide)⟩
    · show own_K p e below m s₁ 10 #[iv xa, iv xb] [(.int xa)] _
      exact retI X0 hx Bd.returns (hb hby d21_10) hr
    · show Q21 Z xa xb h0 n0 _ s₁.heap _
      rw [e0]
      exact ⟨(by simp only [if_neg hc2_2]), N0, rfl⟩

theorem pd_15 : parseMethodDescriptor "(Levenkeel/model/TopicQueue;J)V" = some ⟨[(.object "evenkeel/model/TopicQueue"), .long], none⟩ := by decide +kernel
theorem pd_16 : parseMethodDescriptor "(ILevenkeel/model/CommittedOffset;)V" = some ⟨[.int, (.object "evenkeel/model/CommittedOffset")], none⟩ := by decide +kernel
theorem pd_17 : parseMethodDescriptor "(II)I" = some ⟨[.int, .int], some .int⟩ := by decide +kernel
theorem pd_18 : parseMethodDescriptor "(JLjava/util/List;Ljava/util/List;)V" = some ⟨[.long, (.object "java/util/List"), (.object "java/util/List")], none⟩ := by decide +kernel
theorem pn_12 : plainName "evenkeel/client/WindowRoomPinLaw" = true := by first | (simp [plainName, overriddenIn]; done) | decide +kernel
theorem ef_0 (m : MethodId) (x0 : Int32) (x1 : Int32) (x2 : Int64) : entryFrame m #[(.int x0), (.int x1), (.long x2)] maxLocals = mkF m 0 #[iv x0, iv x1, lv x2, .second, .unset, .unset, .unset, .unset, .unset, .unset, .unset, .unset, .unset, .unset, .unset] [] := by first | (simp [entryFrame, mkF, argsToLocals, Value.category, maxLocals]; done) | rfl
def Q0 (Z : State) (p1 : Int32) (p2 : Int32) (p3 : Int64) (el : Addr) (ea : Addr) (kE : ClassId) (da : Addr) (h0 : Heap) (n0 : Nat) (rv_ : Option Value) (h_ : Heap) (L_ : List Loc) : Prop := rv_ = some (.int (1 : Int32)) ∧ Fr n0 L_ ∧ Keep h0 h_ []
set_option maxRecDepth 65536 in
set_option maxHeartbeats 40000000 in
theorem rm0 (l : Launch) (Z : State) (a0 : Array Value) (hw : ∀ d ∈ tables_1, d.before a0 Z = true) (ws : List Jvm.Cond) (p1 : Int32) (p2 : Int32) (p3 : Int64) (el : Addr) (ea : Addr) (kE : ClassId) (da : Addr) (h0 : Heap) (n0 : Nat) (Z0 : n0 ≤ h0.size) (O_ : Old Z n0 h0) (P_ : own_P Z el ea kE) (SD : Sta Z Z.heap "java/util/ArrayList" "DEFAULTCAPACITY_EMPTY_ELEMENTDATA" "[Ljava/lang/Object;" (.ref da)) :
    MetFree l x (head1 (Jvm.Cond.code x code maxLocals ret :: ws) room_1) (fun a U => a = #[(.int p1), (.int p2), (.long p3)] ∧ Z.Warmed39 U.vm ∧ U.heap = h0) (fun _ _ _ _ _ => True) (fun _ U o U' => ∃ v L, o = .returned v ∧ Q0 Z p1 p2 p3 el ea kE da h0 n0 v U'.heap L ∧ FrameEnd U o U' L 10 38) := by
  refine MetFree.of_bodySF (plainFor_of_name pn_12) hisR ?_
  intro p e s m args below meth c s₁ Bd hml0 hP hK
  obtain ⟨rfl, hZ, hh⟩ := hP
  have hx := Bd.exec
  have hby := Bd.bytes
  have hml : c.maxLocals = 15 := hml0
  have hown : s.vm.findClass "evenkeel/client/WindowRoomPinLaw" = some m.cls := findClass_of_methodNamed Bd.named
  have hnm := (name_of_methodNamed Bd.named Bd.method).1
  have X0 : Stand p l e room_1 s m #[(.int p1), (.int p2), (.long p3)] below meth c s₁ [] 0 0 := Stand.of_body Bd
  have e0 : s₁.heap = h0 := by rw [← hh, Bd.state]; rfl
  have N0 := Fr.nil n0
  obtain ⟨G, hG, pre0⟩ : ∃ G : State → Prop, (∀ t, G t → Steps p.tables e below (s₁.setTop (entryFrame m #[(.int p1), (.int p2), (.long p3)] maxLocals)) t) ∧ ∀ t, own_K p e below m s₁ 0 #[iv p1, iv p2, lv p3, .second, .unset, .unset, .unset, .unset, .unset, .unset, .unset, .unset, .unset, .unset, .unset] [] t → G t := ⟨fun t => Steps p.tables e below (s₁.setTop (entryFrame m #[(.int p1), (.int p2), (.long p3)] maxLocals)) t, fun _ k => k, fun t k => castTop (ef_0 m p1 p2 p3) k⟩
  have pre1 : ∀ t, own_K p e below m s₁ 6 #[iv p1, iv p2, lv p3, .second, .unset, .unset, .unset, .unset, .unset, .unset, .unset, .unset, .unset, .unset, .unset] [(.int ((1 : Int32) + (p1 &&& (7 : Int32))))] t → G t := by
    intro t k
    refine pre0 t ?_
    show own_K p e below m s₁ 0 #[iv p1, iv p2, lv p3, .second, .unset, .unset, .unset, .unset, .unset, .unset, .unset, .unset, .unset, .unset, .unset] [] _
    refine XS.iconst X0.here hx rfl (hb hby at_0) ?_
    show own_K p e below m s₁ 1 #[iv p1, iv p2, lv p3, .second, .unset, .unset, .unset, .unset, .unset, .unset, .unset, .unset, .unset, .unset, .unset] [(.int (1 : Int32))] _
    refine XS.iloadN X0.here hx rfl (hb hby at_1) rfl ?_
    show own_K p e below m s₁ 2 #[iv p1, iv p2, lv p3, .second, .unset, .unset, .unset, .unset, .unset, .unset, .unset, .unset, .unset, .unset, .unset] [(.int p1), (.int (1 : Int32))] _
    refine XS.bipush X0.here hx rfl (hb hby at_2) ?_
    show own_K p e below m s₁ 4 #[iv p1, iv p2, lv p3, .second, .unset, .unset, .unset, .unset, .unset, .unset, .unset, .unset, .unset, .unset, .unset] [(.int (7 : Int32)), (.int p1), (.int (1 : Int32))] _
    refine XS.iand X0.here hx rfl (hb hby at_4) rfl ?_
    show own_K p e below m s₁ 5 #[iv p1, iv p2, lv p3, .second, .unset, .unset, .unset, .unset, .unset, .unset, .unset, .unset, .unset, .unset, .unset] [(.int (p1 &&& (7 : Int32))), (.int (1 : Int32))] _
    refine XS.iadd X0.here hx rfl (hb hby at_5) rfl ?_
    exact k
  obtain ⟨xz, hxz⟩ : ∃ z : Int32, z = ((1 : Int32) + (p1 &&& (7 : Int32))) := ⟨_, rfl⟩
  have pre2 : ∀ t, own_K p e below m s₁ 6 #[iv p1, iv p2, lv p3, .second, .unset, .unset, .unset, .unset, .unset, .unset, .unset, .unset, .unset, .unset, .unset] [(.int xz)] t → G t := fun t k => pre1 t (by rw [hxz] at k; exact k)
  have hzb := own_size p1 xz hxz
  have pre3 : ∀ t, own_K p e below m s₁ 13 #[iv p1, iv p2, lv p3, .second, iv xz, .unset, .unset, .unset, .unset, .unset, .unset, .unset, .unset, .unset, .unset] [(.long (p3 &&& (4611686018427387903 : Int64)))] t → G t := by
    intro t k
    refine pre2 t ?_
    show own_K p e below m s₁ 6 #[iv p1, iv p2, lv p3, .second, .unset, .unset, .unset, .unset, .unset, .unset, .unset, .unset, .unset, .unset, .unset] [(.int xz)] _
    refine XS.istore X0.here hx rfl (hb hby at_6) rfl (l' := #[iv p1, iv p2, lv p3, .second, iv xz, .unset, .unset, .unset, .unset, .unset, .unset, .unset, .unset, .unset, .unset]) rfl ?_
    show own_K p e below m s₁ 8 #[iv p1, iv p2, lv p3, .second, iv xz, .unset, .unset, .unset, .unset, .unset, .unset, .unset, .unset, .unset, .unset] [] _
    refine XS.lloadN X0.here hx rfl (hb hby at_8) rfl ?_
    show own_K p e below m s₁ 9 #[iv p1, iv p2, lv p3, .second, iv xz, .unset, .unset, .unset, .unset, .unset, .unset, .unset, .unset, .unset, .unset] [(.long p3)] _
    refine X0.ldc2Long hx hown (mvT hZ (hw _ (List.mem_of_getElem? (i := 0) rfl))) (g := (mkF m 9 #[iv p1, iv p2, lv p3, .second, iv xz, .unset, .unset, .unset, .unset, .unset, .unset, .unset, .unset, .unset, .unset] [(.long p3)])) rfl (hb hby at_9) _ ?_
    show own_K p e below m s₁ 12 #[iv p1, iv p2, lv p3, .second, iv xz, .unset, .unset, .unset, .unset, .unset, .unset, .unset, .unset, .unset, .unset] [(.long (4611686018427387903 : Int64)), (.long p3)] _
    refine XS.land X0.here hx rfl (hb hby at_12) rfl ?_
    exact k
  obtain ⟨q0, hq0⟩ : ∃ z : Int64, z = (p3 &&& (4611686018427387903 : Int64)) := ⟨_, rfl⟩
  have pre4 : ∀ t, own_K p e below m s₁ 13 #[iv p1, iv p2, lv p3, .second, iv xz, .unset, .unset, .unset, .unset, .unset, .unset, .unset, .unset, .unset, .unset] [(.long q0)] t → G t := fun t k => pre3 t (by rw [hq0] at k; exact k)
  have hq62 := own_q62 p3 q0 hq0
  obtain ⟨T5, h5, X5, e5, E5, A5, D5, -, st5⟩ := newO X0 hx hZ hown (hw _ (List.mem_of_getElem? (i := 1) rfl)) (hw _ (List.mem_of_getElem? (i := 2) rfl)) (hw _ (List.mem_of_getElem? (i := 3) rfl)) e0 (g := (mkF m 15 #[iv p1, iv p2, lv p3, .second, iv xz, lv q0, .second, .unset, .unset, .unset, .unset, .unset, .unset, .unset, .unset] [])) rfl (hb hby at_15) (by decide) (by decide)
  obtain ⟨b5, g5⟩ : ∃ z, z = h0.size := ⟨_, rfl⟩
  rw [← g5] at A5 D5 st5
  have ge_b5 : n0 ≤ b5 := Nat.le_trans Z0 (Nat.le_of_eq g5.symm)
  have sz_b5 : h0.size ≤ b5 := Nat.le_trans (Keep.refl h0 []).1 (Nat.le_of_eq g5.symm)
  have K5 : Keep h0 h5 [] := (Keep.refl h0 []).ext E5
  have sz5 : n0 ≤ h5.size := Nat.le_trans Z0 E5.1
  have f6 : Fld Z h5 b5 "evenkeel/client/Window" "committedAhead" "Ljava/util/List;" .null := D5 (Or.inl (hw _ (List.mem_of_getElem? (i := 102) rfl))) (ty := (.object "java/util/List")) (by decide)
  have f7 : Fld Z h5 b5 "evenkeel/client/Window" "finished" "Ljava/util/BitSet;" .null := D5 (Or.inr (hw _ (List.mem_of_getElem? (i := 126) rfl))) (ty := (.object "java/util/BitSet")) (by decide)
  have f8 : Fld Z h5 b5 "evenkeel/client/Window" "restart" "J" (.long (0 : Int64)) := D5 (Or.inl (hw _ (List.mem_of_getElem? (i := 129) rfl))) (ty := .long) (by decide)
  have f9 : Fld Z h5 b5 "evenkeel/client/Window" "left" "Ljava/util/BitSet;" .null := D5 (Or.inr (hw _ (List.mem_of_getElem? (i := 131) rfl))) (ty := (.object "java/util/BitSet")) (by decide)
  have f10 : Fld Z h5 b5 "evenkeel/client/Window" "size" "I" (.int (0 : Int32)) := D5 (Or.inr (hw _ (List.mem_of_getElem? (i := 133) rfl))) (ty := .int) (by decide)
  have f11 : Fld Z h5 b5 "evenkeel/client/Window" "committed" "J" (.long (0 : Int64)) := D5 (Or.inl (hw _ (List.mem_of_getElem? (i := 140) rfl))) (ty := .long) (by decide)
  have f12 : Fld Z h5 b5 "evenkeel/client/Window" "unfinished" "J" (.long (0 : Int64)) := D5 (Or.inl (hw _ (List.mem_of_getElem? (i := 142) rfl))) (ty := .long) (by decide)
  have f13 : Fld Z h5 b5 "evenkeel/client/Window" "next" "J" (.long (0 : Int64)) := D5 (Or.inl (hw _ (List.mem_of_getElem? (i := 144) rfl))) (ty := .long) (by decide)
  have f14 : Fld Z h5 b5 "evenkeel/client/Window" "consumed" "Ljava/util/List;" .null := D5 (Or.inr (hw _ (List.mem_of_getElem? (i := 151) rfl))) (ty := (.object "java/util/List")) (by decide)
  have f15 : Fld Z h5 b5 "evenkeel/client/Window" "committedFailures" "Ljava/util/List;" .null := D5 (Or.inl (hw _ (List.mem_of_getElem? (i := 158) rfl))) (ty := (.object "java/util/List")) (by decide)
  have f16 : Fld Z h5 b5 "evenkeel/client/Window" "consumedAt" "I" (.int (0 : Int32)) := D5 (Or.inl (hw _ (List.mem_of_getElem? (i := 182) rfl))) (ty := .int) (by decide)
  have f17 : Fld Z h5 b5 "evenkeel/client/Window" "failing" "Ljava/util/TreeMap;" .null := D5 (Or.inl (hw _ (List.mem_of_getElem? (i := 260) rfl))) (ty := (.object "java/util/TreeMap")) (by decide)
  obtain ⟨T18, h18, X18, e18, E18, A18, D18, -, st18⟩ := newO X5 hx hZ hown (hw _ (List.mem_of_getElem? (i := 4) rfl)) (hw _ (List.mem_of_getElem? (i := 5) rfl)) (hw _ (List.mem_of_getElem? (i := 6) rfl)) e5 (g := (mkF m 21 #[iv p1, iv p2, lv p3, .second, iv xz, lv q0, .second, .unset, .unset, .unset, .unset, .unset, .unset, .unset, .unset] [(.int xz), (.ref b5), (.ref b5)])) rfl (hb hby at_21) (by decide) (by decide)
  obtain ⟨b18, g18⟩ : ∃ z, z = h5.size := ⟨_, rfl⟩
  rw [← g18] at A18 D18 st18
  have ne18_b5 : b5 ≠ b18 := Nat.ne_of_lt (Nat.lt_of_lt_of_le A5.lt (Nat.le_of_eq g18.symm))
  have ge_b18 : n0 ≤ b18 := Nat.le_trans sz5 (Nat.le_of_eq g18.symm)
  have sz_b18 : h0.size ≤ b18 := Nat.le_trans K5.1 (Nat.le_of_eq g18.symm)
  have K18 : Keep h0 h18 [] := K5.ext E18
  have sz18 : n0 ≤ h18.size := Nat.le_trans sz5 E18.1
  have f19 : Fld Z h18 b18 "evenkeel/model/CommittedOffset" "queue" "Levenkeel/model/TopicQueue;" .null := D18 (Or.inr (hw _ (List.mem_of_getElem? (i := 89) rfl))) (ty := (.object "evenkeel/model/TopicQueue")) (by decide)
  have f20 : Fld Z h18 b18 "evenkeel/model/CommittedOffset" "next" "J" (.long (0 : Int64)) := D18 (Or.inr (hw _ (List.mem_of_getElem? (i := 91) rfl))) (ty := .long) (by decide)
  have f21 : Fld Z h18 b18 "evenkeel/model/CommittedOffset" "ahead" "Ljava/util/List;" .null := D18 (Or.inr (hw _ (List.mem_of_getElem? (i := 93) rfl))) (ty := (.object "java/util/List")) (by decide)
  have f22 : Fld Z h18 b18 "evenkeel/model/CommittedOffset" "failed" "Ljava/util/List;" .null := D18 (Or.inr (hw _ (List.mem_of_getElem? (i := 95) rfl))) (ty := (.object "java/util/List")) (by decide)
  have f24 : Old Z n0 h18 := ((O_.ext E5).ext E18)
  obtain ⟨_, _, ⟨T23, L23, k23, n23⟩, -, X23, ⟨Lc23, hQ23, l23, y23, z23⟩, st23⟩ := X18.specialBack hx (y := (⟨"evenkeel/model/CommittedOffset", "<init>", "(Levenkeel/model/TopicQueue;J)V"⟩ : MethodName)) rfl hown (mvT hZ (hw _ (List.mem_of_getElem? (i := 7) rfl))) (mvT hZ (hw _ (List.mem_of_getElem? (i := 8) rfl))) (mvT hZ (hw _ (List.mem_of_getElem? (i := 9) rfl))) (by decide) (backOf (W := 4) (rm1 l Z a0 hw [] b18 q0 .null (.long (0 : Int64)) .null .null el ea kE h18 n0 sz18 A18 f19 f20 f21 f22 ge_b18 f24 P_) hZ (hw _ (List.mem_of_getElem? (i := 9) rfl)) (hw _ (List.mem_of_getElem? (i := 6) rfl)) (by decide) (by decide)) (g := (mkF m 28 #[iv p1, iv p2, lv p3, .second, iv xz, lv q0, .second, .unset, .unset, .unset, .unset, .unset, .unset, .unset, .unset] [(.long q0), .null, (.ref b18), (.ref b18), (.int xz), (.ref b5), (.ref b5)])) rfl (by rw [hml]; rfl) (Steps.refl _) (a := b18) (argsL := [.null, (.long q0)]) (rest := [(.ref b18), (.int xz), (.ref b5), (.ref b5)]) (lenOf pd_15 rfl) rfl (by show 2 * 0 + _ ≤ _; exact Nat.le_of_eq rfl) (hb hby at_28) (fun _ _ => ⟨rfl, e18, (by decide : 2 + 2 ≤ _), (by decide : 16 + 8 ≤ _)⟩)
  dsimp only [Pt.U, Pt.locs, Pt.cells, Pt.slots] at X23 l23 y23 z23 st23 hQ23
  subst l23 y23 z23
  obtain ⟨rfl, Nq23, Kc23, Fn_23, Fh_23, Ff_23⟩ := hQ23
  have N23 := Fr.app N0 Nq23
  have K23 : Keep h0 T23.heap [] := K18.trans Kc23 (allS (Or.inr sz_b18) all0)
  have sz23 : n0 ≤ T23.heap.size := Nat.le_trans sz18 Kc23.1
  have f26 : Exa Z T23.heap b5 "evenkeel/client/Window" := ((A5.ext E18).keep Kc23)
  have f27 : Fld Z T23.heap b5 "evenkeel/client/Window" "size" "I" (.int (0 : Int32)) := ((f10.ext E18).keep Kc23 (ninS ne18_b5 nin0))
  have f28 : Fld Z T23.heap b5 "evenkeel/client/Window" "committed" "J" (.long (0 : Int64)) := ((f11.ext E18).keep Kc23 (ninS ne18_b5 nin0))
  have f29 : Fld Z T23.heap b5 "evenkeel/client/Window" "committedAhead" "Ljava/util/List;" .null := ((f6.ext E18).keep Kc23 (ninS ne18_b5 nin0))
  have f30 : Fld Z T23.heap b5 "evenkeel/client/Window" "unfinished" "J" (.long (0 : Int64)) := ((f12.ext E18).keep Kc23 (ninS ne18_b5 nin0))
  have f31 : Fld Z T23.heap b5 "evenkeel/client/Window" "next" "J" (.long (0 : Int64)) := ((f13.ext E18).keep Kc23 (ninS ne18_b5 nin0))
  have f32 : Fld Z T23.heap b5 "evenkeel/client/Window" "finished" "Ljava/util/BitSet;" .null := ((f7.ext E18).keep Kc23 (ninS ne18_b5 nin0))
  have f33 : Fld Z T23.heap b5 "evenkeel/client/Window" "restart" "J" (.long (0 : Int64)) := ((f8.ext E18).keep Kc23 (ninS ne18_b5 nin0))
  have f34 : Fld Z T23.heap b5 "evenkeel/client/Window" "consumed" "Ljava/util/List;" .null := ((f14.ext E18).keep Kc23 (ninS ne18_b5 nin0))
  have f35 : Fld Z T23.heap b5 "evenkeel/client/Window" "consumedAt" "I" (.int (0 : Int32)) := ((f16.ext E18).keep Kc23 (ninS ne18_b5 nin0))
  have f36 : Fld Z T23.heap b5 "evenkeel/client/Window" "left" "Ljava/util/BitSet;" .null := ((f9.ext E18).keep Kc23 (ninS ne18_b5 nin0))
  have f37 : Fld Z T23.heap b5 "evenkeel/client/Window" "failing" "Ljava/util/TreeMap;" .null := ((f17.ext E18).keep Kc23 (ninS ne18_b5 nin0))
  have f38 : Fld Z T23.heap b5 "evenkeel/client/Window" "committedFailures" "Ljava/util/List;" .null := ((f15.ext E18).keep Kc23 (ninS ne18_b5 nin0))
  have f39 : Exa Z T23.heap b18 "evenkeel/model/CommittedOffset" := (A18.keep Kc23)
  have f40 : Old Z n0 T23.heap := (f24.keep Kc23 (allS ge_b18 all0))
  obtain ⟨_, _, ⟨T25, L25, k25, n25⟩, -, X25, ⟨Lc25, hQ25, l25, y25, z25⟩, st25⟩ := X23.specialBack hx (y := (⟨"evenkeel/client/Window", "<init>", "(ILevenkeel/model/CommittedOffset;)V"⟩ : MethodName)) rfl hown (mvT hZ (hw _ (List.mem_of_getElem? (i := 96) rfl))) (mvT hZ (hw _ (List.mem_of_getElem? (i := 97) rfl))) (mvT hZ (hw _ (List.mem_of_getElem? (i := 98) rfl))) (by decide) (backOf (W := 1) (rm12 l Z a0 hw [] b5 xz b18 (.int (0 : Int32)) (.long (0 : Int64)) .null (.long (0 : Int64)) (.long (0 : Int64)) .null (.long (0 : Int64)) .null .null .null q0 el ea kE T23.heap n0 sz23 f26 f27 f28 f29 f30 f31 f32 f33 f34 f35 f36 f37 f38 ge_b5 f39 Fn_23 Fh_23 Ff_23 ne18_b5 f40 P_) hZ (hw _ (List.mem_of_getElem? (i := 98) rfl)) (hw _ (List.mem_of_getElem? (i := 3) rfl)) (by decide) (by decide)) (g := (mkF m 31 #[iv p1, iv p2, lv p3, .second, iv xz, lv q0, .second, .unset, .unset, .unset, .unset, .unset, .unset, .unset, .unset] [(.ref b18), (.int xz), (.ref b5), (.ref b5)])) rfl (by rw [hml]; rfl) (Steps.refl _) (a := b5) (argsL := [(.int xz), (.ref b18)]) (rest := [(.ref b5)]) (lenOf pd_16 rfl) rfl (by show 2 * 0 + _ ≤ _; exact Nat.le_of_eq rfl) (hb hby at_31) (fun _ _ => ⟨rfl, rfl, (by decide : 4 + 4 ≤ _), (by decide : 24 + 8 ≤ _)⟩)
  dsimp only [Pt.U, Pt.locs, Pt.cells, Pt.slots] at X25 l25 y25 z25 st25 hQ25
  subst l25 y25 z25
  obtain ⟨bf25, wf25, kf25, bl25, wl25, kl25, rfl, Nq25, Kc25, Fsz_25, Fco_25, Fun_25, Fne_25, Fre_25, Fcs_25, Fca_25, Ffa_25, Fah_25, Fcf_25, g1f_25, g2f_25, Fbf_25, Ef_25, Fuf_25, Fyf_25, Fwf_25, Vf_25, g1l_25, g2l_25, Fbl_25, El_25, Ful_25, Fyl_25, Fwl_25, Vl_25, nbfbl_25, nbfwl_25, nwfbl_25, nwfwl_25, nbfwf_25, nblwl_25⟩ := hQ25
  have N25 := Fr.app N23 Nq25
  have K25 : Keep h0 T25.heap [] := K23.trans Kc25 (allS (Or.inr sz_b5) all0)
  have sz25 : n0 ≤ T25.heap.size := Nat.le_trans sz23 Kc25.1
  have ge_bf25 : n0 ≤ bf25 := Nat.le_trans sz23 g1f_25
  have sz_bf25 : h0.size ≤ bf25 := Nat.le_trans K23.1 g1f_25
  have ne_b5_bf25 : b5 ≠ bf25 := Nat.ne_of_lt (Nat.lt_of_lt_of_le f26.lt g1f_25)
  have ne_b18_bf25 : b18 ≠ bf25 := Nat.ne_of_lt (Nat.lt_of_lt_of_le f39.lt g1f_25)
  have ge_wf25 : n0 ≤ wf25 := Nat.le_trans sz23 g2f_25
  have sz_wf25 : h0.size ≤ wf25 := Nat.le_trans K23.1 g2f_25
  have ne_b5_wf25 : b5 ≠ wf25 := Nat.ne_of_lt (Nat.lt_of_lt_of_le f26.lt g2f_25)
  have ne_b18_wf25 : b18 ≠ wf25 := Nat.ne_of_lt (Nat.lt_of_lt_of_le f39.lt g2f_25)
  have ge_bl25 : n0 ≤ bl25 := Nat.le_trans sz23 g1l_25
  have sz_bl25 : h0.size ≤ bl25 := Nat.le_trans K23.1 g1l_25
  have ne_b5_bl25 : b5 ≠ bl25 := Nat.ne_of_lt (Nat.lt_of_lt_of_le f26.lt g1l_25)
  have ne_b18_bl25 : b18 ≠ bl25 := Nat.ne_of_lt (Nat.lt_of_lt_of_le f39.lt g1l_25)
  have ge_wl25 : n0 ≤ wl25 := Nat.le_trans sz23 g2l_25
  have sz_wl25 : h0.size ≤ wl25 := Nat.le_trans K23.1 g2l_25
  have ne_b5_wl25 : b5 ≠ wl25 := Nat.ne_of_lt (Nat.lt_of_lt_of_le f26.lt g2l_25)
  have ne_b18_wl25 : b18 ≠ wl25 := Nat.ne_of_lt (Nat.lt_of_lt_of_le f39.lt g2l_25)
  have pre41 : ∀ t, own_K p e below m T25 34 #[iv p1, iv p2, lv p3, .second, iv xz, lv q0, .second, .unset, .unset, .unset, .unset, .unset, .unset, .unset, .unset] [(.ref b5)] t → G t := by
    intro t k
    refine pre4 t ?_
    show own_K p e below m s₁ 13 #[iv p1, iv p2, lv p3, .second, iv xz, .unset, .unset, .unset, .unset, .unset, .unset, .unset, .unset, .unset, .unset] [(.long q0)] _
    refine XS.lstore X0.here hx rfl (hb hby at_13) rfl (l' := #[iv p1, iv p2, lv p3, .second, iv xz, lv q0, .second, .unset, .unset, .unset, .unset, .unset, .unset, .unset, .unset]) rfl ?_
    show own_K p e below m s₁ 15 #[iv p1, iv p2, lv p3, .second, iv xz, lv q0, .second, .unset, .unset, .unset, .unset, .unset, .unset, .unset, .unset] [] _
    refine st5 _ ?_
    show own_K p e below m T5 18 #[iv p1, iv p2, lv p3, .second, iv xz, lv q0, .second, .unset, .unset, .unset, .unset, .unset, .unset, .unset, .unset] [(.ref b5)] _
    refine XS.dup X5.here hx rfl (hb hby at_18) rfl rfl ?_
    show own_K p e below m T5 19 #[iv p1, iv p2, lv p3, .second, iv xz, lv q0, .second, .unset, .unset, .unset, .unset, .unset, .unset, .unset, .unset] [(.ref b5), (.ref b5)] _
    refine XS.iload X5.here hx rfl (hb hby at_19) rfl ?_
    show own_K p e below m T5 21 #[iv p1, iv p2, lv p3, .second, iv xz, lv q0, .second, .unset, .unset, .unset, .unset, .unset, .unset, .unset, .unset] [(.int xz), (.ref b5), (.ref b5)] _
    refine st18 _ ?_
    show own_K p e below m T18 24 #[iv p1, iv p2, lv p3, .second, iv xz, lv q0, .second, .unset, .unset, .unset, .unset, .unset, .unset, .unset, .unset] [(.ref b18), (.int xz), (.ref b5), (.ref b5)] _
    refine XS.dup X18.here hx rfl (hb hby at_24) rfl rfl ?_
    show own_K p e below m T18 25 #[iv p1, iv p2, lv p3, .second, iv xz, lv q0, .second, .unset, .unset, .unset, .unset, .unset, .unset, .unset, .unset] [(.ref b18), (.ref b18), (.int xz), (.ref b5), (.ref b5)] _
    refine XS.aconstNull X18.here hx rfl (hb hby at_25) ?_
    show own_K p e below m T18 26 #[iv p1, iv p2, lv p3, .second, iv xz, lv q0, .second, .unset, .unset, .unset, .unset, .unset, .unset, .unset, .unset] [.null, (.ref b18), (.ref b18), (.int xz), (.ref b5), (.ref b5)] _
    refine XS.lload X18.here hx rfl (hb hby at_26) rfl ?_
    show own_K p e below m T18 28 #[iv p1, iv p2, lv p3, .second, iv xz, lv q0, .second, .unset, .unset, .unset, .unset, .unset, .unset, .unset, .unset] [(.long q0), .null, (.ref b18), (.ref b18), (.int xz), (.ref b5), (.ref b5)] _
    refine st23.trans ?_
    show own_K p e below m T23 31 #[iv p1, iv p2, lv p3, .second, iv xz, lv q0, .second, .unset, .unset, .unset, .unset, .unset, .unset, .unset, .unset] [(.ref b18), (.int xz), (.ref b5), (.ref b5)] _
    refine st25.trans ?_
    exact k
  have f43 : Exa Z T25.heap b5 "evenkeel/client/Window" := (f26.keep Kc25)
  obtain ⟨cq42, kq42, q42a, q42b, q42c⟩ := isOf hZ rfl f43
  obtain ⟨_, _, ⟨T42, L42, k42, n42⟩, -, X42, ⟨Lc42, hQ42, l42, y42, z42⟩, st42⟩ := X25.virtualBack hx (y := (⟨"evenkeel/client/Window", "room", "()I"⟩ : MethodName)) (z := (⟨"evenkeel/client/Window", "room", "()I"⟩ : MethodName)) hown (mvT hZ (hw _ (List.mem_of_getElem? (i := 167) rfl))) (mvT hZ (hw _ (List.mem_of_getElem? (i := 168) rfl))) (notFace_of_selects (args := #[]) (mvT hZ (hw _ (List.mem_of_getElem? (i := 170) rfl)))) (mvT hZ (hw _ (List.mem_of_getElem? (i := 170) rfl))) (mvT hZ (hw _ (List.mem_of_getElem? (i := 169) rfl))) (by decide) (backOf (W := 0) (rm20 l Z a0 hw [] b5 (-1 : Int64) xz q0 q0 T25.heap n0 sz25 Fre_25 Fsz_25 Fne_25 Fco_25) hZ (hw _ (List.mem_of_getElem? (i := 171) rfl)) (hw _ (List.mem_of_getElem? (i := 3) rfl)) (by decide) (by decide)) q42a q42c (g := (mkF m 38 #[iv p1, iv p2, lv p3, .second, iv xz, lv q0, .second, rv b5, .unset, .unset, .unset, .unset, .unset, .unset, .unset] [(.ref b5)])) rfl (by rw [hml]; rfl) (Steps.refl _) (argsL := []) (rest := []) (lenOf pd_1 rfl) rfl (by show 2 * 0 + _ ≤ _; exact Nat.le_of_eq rfl) (hb hby at_38) (fun _ _ => ⟨rfl, rfl, (by decide : 8 + 0 ≤ _), (by decide : 32 + 0 ≤ _)⟩)
  dsimp only [Pt.U, Pt.locs, Pt.cells, Pt.slots] at X42 l42 y42 z42 st42 hQ42
  subst l42 y42 z42
  obtain ⟨rfl, Nq42, eh42⟩ := hQ42
  have N42 := Fr.app N25 Nq42
  have pre44 : ∀ t, own_K p e below m T42 41 #[iv p1, iv p2, lv p3, .second, iv xz, lv q0, .second, rv b5, .unset, .unset, .unset, .unset, .unset, .unset, .unset] [(.int (if (-1 : Int64) < (0 : Int64) then (((xz.toInt64) - (q0 - q0)).toInt32) else (0 : Int32)))] t → G t := by
    intro t k
    refine pre41 t ?_
    show own_K p e below m T25 34 #[iv p1, iv p2, lv p3, .second, iv xz, lv q0, .second, .unset, .unset, .unset, .unset, .unset, .unset, .unset, .unset] [(.ref b5)] _
    refine XS.astore X25.here hx rfl (hb hby at_34) rfl rfl (l' := #[iv p1, iv p2, lv p3, .second, iv xz, lv q0, .second, rv b5, .unset, .unset, .unset, .unset, .unset, .unset, .unset]) rfl ?_
    show own_K p e below m T25 36 #[iv p1, iv p2, lv p3, .second, iv xz, lv q0, .second, rv b5, .unset, .unset, .unset, .unset, .unset, .unset, .unset] [] _
    refine XS.aload X25.here hx rfl (hb hby at_36) rfl rfl ?_
    show own_K p e below m T25 38 #[iv p1, iv p2, lv p3, .second, iv xz, lv q0, .second, rv b5, .unset, .unset, .unset, .unset, .unset, .unset, .unset] [(.ref b5)] _
    refine st42.trans ?_
    exact k
  obtain ⟨r1, hr1⟩ : ∃ z : Int32, z = (if (-1 : Int64) < (0 : Int64) then (((xz.toInt64) - (q0 - q0)).toInt32) else (0 : Int32)) := ⟨_, rfl⟩
  have pre45 : ∀ t, own_K p e below m T42 41 #[iv p1, iv p2, lv p3, .second, iv xz, lv q0, .second, rv b5, .unset, .unset, .unset, .unset, .unset, .unset, .unset] [(.int r1)] t → G t := fun t k => pre44 t (by rw [hr1] at k; exact k)
  obtain ⟨_, _, ⟨T46, L46, k46, n46⟩, -, X46, ⟨Lc46, hQ46, l46, y46, z46⟩, st46⟩ := Jvm.LawKit.callS X42 hx (y := (⟨"java/lang/Math", "min", "(II)I"⟩ : MethodName)) hown (mvT hZ (hw _ (List.mem_of_getElem? (i := 172) rfl))) (mvT hZ (hw _ (List.mem_of_getElem? (i := 173) rfl))) (mvT hZ (hw _ (List.mem_of_getElem? (i := 174) rfl))) (mvT hZ (hw _ (List.mem_of_getElem? (i := 175) rfl))) (by decide) (backOf (W := 0) (rm21 l Z a0 hw [] (p2 &&& (3 : Int32)) xz T25.heap n0 sz25 ) hZ (hw _ (List.mem_of_getElem? (i := 175) rfl)) (hw _ (List.mem_of_getElem? (i := 174) rfl)) (by decide) (by decide)) (g := (mkF m 58 #[iv p1, iv p2, lv p3, .second, iv xz, lv q0, .second, rv b5, iv (1 : Int32), .unset, .unset, .unset, .unset, .unset, .unset] [(.int xz), (.int (p2 &&& (3 : Int32)))])) rfl (by rw [hml]; rfl) (argsL := [(.int (p2 &&& (3 : Int32))), (.int xz)]) (rest := []) (lenOf pd_17 rfl) rfl (by show 2 * 0 + _ ≤ _; exact Nat.le_of_eq rfl) (hb hby at_58) (fun _ _ => ⟨rfl, eh42, (by decide : 8 + 0 ≤ _), (by decide : 32 + 0 ≤ _)⟩)
  dsimp only [Pt.U, Pt.locs, Pt.cells, Pt.slots] at X46 l46 y46 z46 st46 hQ46
  subst l46 y46 z46
  obtain ⟨rfl, Nq46, eh46⟩ := hQ46
  have N46 := Fr.app N42 Nq46
  have pre47 : ∀ t, own_K p e below m T46 61 #[iv p1, iv p2, lv p3, .second, iv xz, lv q0, .second, rv b5, iv (1 : Int32), .unset, .unset, .unset, .unset, .unset, .unset] [(.int (if xz < (p2 &&& (3 : Int32)) then xz else (p2 &&& (3 : Int32))))] t → G t := by
    intro t k
    refine pre45 t ?_
    show own_K p e below m T42 41 #[iv p1, iv p2, lv p3, .second, iv xz, lv q0, .second, rv b5, .unset, .unset, .unset, .unset, .unset, .unset, .unset] [(.int r1)] _
    refine XS.iload X42.here hx rfl (hb hby at_41) rfl ?_
    show own_K p e below m T42 43 #[iv p1, iv p2, lv p3, .second, iv xz, lv q0, .second, rv b5, .unset, .unset, .unset, .unset, .unset, .unset, .unset] [(.int xz), (.int r1)] _
    refine XS.icmpNo X42.here hx rfl (hb hby at_43) rfl (teq (hr1.trans (own_room1 hzb))).2 ?_
    show own_K p e below m T42 46 #[iv p1, iv p2, lv p3, .second, iv xz, lv q0, .second, rv b5, .unset, .unset, .unset, .unset, .unset, .unset, .unset] [] _
    refine XS.iconst X42.here hx rfl (hb hby at_46) ?_
    show own_K p e below m T42 47 #[iv p1, iv p2, lv p3, .second, iv xz, lv q0, .second, rv b5, .unset, .unset, .unset, .unset, .unset, .unset, .unset] [(.int (1 : Int32))] _
    refine XS.goto X42.here hx rfl (pc0 := 47) (pc' := 51) rfl (hb hby at_47) (by decide) (by decide) ?_
    show own_K p e below m T42 51 #[iv p1, iv p2, lv p3, .second, iv xz, lv q0, .second, rv b5, .unset, .unset, .unset, .unset, .unset, .unset, .unset] [(.int (1 : Int32))] _
    refine XS.istore X42.here hx rfl (hb hby at_51) rfl (l' := #[iv p1, iv p2, lv p3, .second, iv xz, lv q0, .second, rv b5, iv (1 : Int32), .unset, .unset, .unset, .unset, .unset, .unset]) rfl ?_
    show own_K p e below m T42 53 #[iv p1, iv p2, lv p3, .second, iv xz, lv q0, .second, rv b5, iv (1 : Int32), .unset, .unset, .unset, .unset, .unset, .unset] [] _
    refine XS.iloadN X42.here hx rfl (hb hby at_53) rfl ?_
    show own_K p e below m T42 54 #[iv p1, iv p2, lv p3, .second, iv xz, lv q0, .second, rv b5, iv (1 : Int32), .unset, .unset, .unset, .unset, .unset, .unset] [(.int p2)] _
    refine XS.iconst X42.here hx rfl (hb hby at_54) ?_
    show own_K p e below m T42 55 #[iv p1, iv p2, lv p3, .second, iv xz, lv q0, .second, rv b5, iv (1 : Int32), .unset, .unset, .unset, .unset, .unset, .unset] [(.int (3 : Int32)), (.int p2)] _
    refine XS.iand X42.here hx rfl (hb hby at_55) rfl ?_
    show own_K p e below m T42 56 #[iv p1, iv p2, lv p3, .second, iv xz, lv q0, .second, rv b5, iv (1 : Int32), .unset, .unset, .unset, .unset, .unset, .unset] [(.int (p2 &&& (3 : Int32)))] _
    refine XS.iload X42.here hx rfl (hb hby at_56) rfl ?_
    show own_K p e below m T42 58 #[iv p1, iv p2, lv p3, .second, iv xz, lv q0, .second, rv b5, iv (1 : Int32), .unset, .unset, .unset, .unset, .unset, .unset] [(.int xz), (.int (p2 &&& (3 : Int32)))] _
    refine st46 _ ?_
    exact k
  obtain ⟨xt, hxt⟩ : ∃ z : Int32, z = (if xz < (p2 &&& (3 : Int32)) then xz else (p2 &&& (3 : Int32))) := ⟨_, rfl⟩
  have pre48 : ∀ t, own_K p e below m T46 61 #[iv p1, iv p2, lv p3, .second, iv xz, lv q0, .second, rv b5, iv (1 : Int32), .unset, .unset, .unset, .unset, .unset, .unset] [(.int xt)] t → G t := fun t k => pre47 t (by rw [hxt] at k; exact k)
  obtain ⟨tN, htN, htb⟩ := own_t p2 xz xt hxt hzb
  have pre49 : ∀ t, own_K p e below m T46 66 #[iv p1, iv p2, lv p3, .second, iv xz, lv q0, .second, rv b5, iv (1 : Int32), iv xt, .unset, .unset, .unset, .unset, .unset] [(.int (1 : Int32)), (.int xt)] t → G t := by
    intro t k
    refine pre48 t ?_
    show own_K p e below m T46 61 #[iv p1, iv p2, lv p3, .second, iv xz, lv q0, .second, rv b5, iv (1 : Int32), .unset, .unset, .unset, .unset, .unset, .unset] [(.int xt)] _
    refine XS.istore X46.here hx rfl (hb hby at_61) rfl (l' := #[iv p1, iv p2, lv p3, .second, iv xz, lv q0, .second, rv b5, iv (1 : Int32), iv xt, .unset, .unset, .unset, .unset, .unset]) rfl ?_
    show own_K p e below m T46 63 #[iv p1, iv p2, lv p3, .second, iv xz, lv q0, .second, rv b5, iv (1 : Int32), iv xt, .unset, .unset, .unset, .unset, .unset] [] _
    refine XS.iload X46.here hx rfl (hb hby at_63) rfl ?_
    show own_K p e below m T46 65 #[iv p1, iv p2, lv p3, .second, iv xz, lv q0, .second, rv b5, iv (1 : Int32), iv xt, .unset, .unset, .unset, .unset, .unset] [(.int xt)] _
    refine XS.iconst X46.here hx rfl (hb hby at_65) ?_
    exact k
  obtain ⟨v56, hv56⟩ : ∃ z : Int64, z = (if xt < (1 : Int32) then q0 else (q0 + (1 : Int64))) := ⟨_, rfl⟩
  obtain ⟨T55, h55, lo55, X55, N55, e55, K55, j55_0, j55_1, j55_2, j55_3, j55_4, j55_5, j55_6, j55_7, j55_8, j55_9, j55_10, j55_11, j55_12, j55_13, j55_14, j55_15, j55_16, j55_17, j55_18, j55_19, j55_20, j55_21, j55_22, j55_23, pre55⟩ : ∃ (T' : State) (h' : Heap) (l' : List Loc), Stand p l e room_1 s m #[(.int p1), (.int p2), (.long p3)] below meth c T' l' 8 32 ∧ Fr n0 l' ∧ T'.heap = h' ∧ Keep h0 h' [] ∧ Old Z n0 h' ∧ Exa Z h' b5 "evenkeel/client/Window" ∧ Fld Z h' b5 "evenkeel/client/Window" "committedAhead" "Ljava/util/List;" (.ref el) ∧ Fld Z h' b5 "evenkeel/client/Window" "finished" "Ljava/util/BitSet;" (.ref bf25) ∧ Fld Z h' b5 "evenkeel/client/Window" "restart" "J" (.long (-1 : Int64)) ∧ Fld Z h' b5 "evenkeel/client/Window" "left" "Ljava/util/BitSet;" (.ref bl25) ∧ Fld Z h' b5 "evenkeel/client/Window" "size" "I" (.int xz) ∧ Fld Z h' b5 "evenkeel/client/Window" "committed" "J" (.long q0) ∧ Fld Z h' b5 "evenkeel/client/Window" "unfinished" "J" (.long q0) ∧ Fld Z h' b5 "evenkeel/client/Window" "next" "J" (.long v56) ∧ Fld Z h' b5 "evenkeel/client/Window" "consumed" "Ljava/util/List;" (.ref el) ∧ Fld Z h' b5 "evenkeel/client/Window" "committedFailures" "Ljava/util/List;" (.ref el) ∧ Fld Z h' b5 "evenkeel/client/Window" "consumedAt" "I" (.int (0 : Int32)) ∧ Fld Z h' b5 "evenkeel/client/Window" "failing" "Ljava/util/TreeMap;" .null ∧ Exa Z h' bf25 "java/util/BitSet" ∧ Fld Z h' bf25 "java/util/BitSet" "wordsInUse" "I" (.int (0 : Int32)) ∧ Fld Z h' bf25 "java/util/BitSet" "sizeIsSticky" "Z" (.int (0 : Int32)) ∧ Fld Z h' bf25 "java/util/BitSet" "words" "[J" (.ref wf25) ∧ Arv Z h' wf25 kf25 .long (1 : Int32) [(.long (0 : Int64))] (.long (0 : Int64)) ∧ Exa Z h' bl25 "java/util/BitSet" ∧ Fld Z h' bl25 "java/util/BitSet" "wordsInUse" "I" (.int (0 : Int32)) ∧ Fld Z h' bl25 "java/util/BitSet" "sizeIsSticky" "Z" (.int (0 : Int32)) ∧ Fld Z h' bl25 "java/util/BitSet" "words" "[J" (.ref wl25) ∧ Arv Z h' wl25 kl25 .long (1 : Int32) [(.long (0 : Int64))] (.long (0 : Int64)) ∧ ∀ t, own_K p e below m T' 75 #[iv p1, iv p2, lv p3, .second, iv xz, lv q0, .second, rv b5, iv (1 : Int32), iv xt, .unset, .unset, .unset, .unset, .unset] [] t → G t := by
    by_cases hc66_50 : xt < (1 : Int32)
    · have pre51 : ∀ t, own_K p e below m T46 75 #[iv p1, iv p2, lv p3, .second, iv xz, lv q0, .second, rv b5, iv (1 : Int32), iv xt, .unset, .unset, .unset, .unset, .unset] [] t → G t := by
        intro t k
        refine pre49 t ?_
        show own_K p e below m T46 66 #[iv p1, iv p2, lv p3, .second, iv xz, lv q0, .second, rv b5, iv (1 : Int32), iv xt, .unset, .unset, .unset, .unset, .unset] [(.int (1 : Int32)), (.int xt)] _
        refine XS.icmpYes X46.here hx rfl (pc0 := 66) (pc' := 75) rfl (hb hby at_66) rfl (tlt hc66_50).1 (by decide) (by decide) ?_
        exact k
      have f57 : Old Z n0 T25.heap := (f40.keep Kc25 (allS ge_b5 all0))
      have hq := True.intro
      obtain rfl : v56 = q0 := by simp only [hv56, if_pos hc66_50]
      exact ⟨_, _, _, X46, N46, eh46, K25, f57, f43, Fah_25, Fbf_25, Fre_25, Fbl_25, Fsz_25, Fco_25, Fun_25, Fne_25, Fcs_25, Fcf_25, Fca_25, Ffa_25, Ef_25, Fuf_25, Fyf_25, Fwf_25, Vf_25, El_25, Ful_25, Fyl_25, Fwl_25, Vl_25, fun t k => pre51 t k⟩
    · have f53 : Old Z n0 T25.heap := (f40.keep Kc25 (allS ge_b5 all0))
      obtain ⟨cq52, kq52, q52a, q52b, q52c⟩ := isOf hZ eh46 f43
      obtain ⟨_, _, ⟨T52, L52, k52, n52⟩, -, X52, ⟨Lc52, hQ52, l52, y52, z52⟩, st52⟩ := X46.virtualBack hx (y := (⟨"evenkeel/client/Window", "take", "()Z"⟩ : MethodName)) (z := (⟨"evenkeel/client/Window", "take", "()Z"⟩ : MethodName)) hown (mvT hZ (hw _ (List.mem_of_getElem? (i := 176) rfl))) (mvT hZ (hw _ (List.mem_of_getElem? (i := 177) rfl))) (notFace_of_selects (args := #[]) (mvT hZ (hw _ (List.mem_of_getElem? (i := 179) rfl)))) (mvT hZ (hw _ (List.mem_of_getElem? (i := 179) rfl))) (mvT hZ (hw _ (List.mem_of_getElem? (i := 178) rfl))) (by decide) (backOf (W := 0) (rm22 l Z a0 hw [] b5 q0 el ea kE (.int xz) (.long q0) (.ref el) (.long q0) (.ref bf25) (.long (-1 : Int64)) (.ref bl25) .null (.ref el) T25.heap n0 sz25 f43 Fne_25 Fca_25 Fcs_25 ge_b5 f53 P_ Fsz_25 Fco_25 Fah_25 Fun_25 Fbf_25 Fre_25 Fbl_25 Ffa_25 Fcf_25) hZ (hw _ (List.mem_of_getElem? (i := 180) rfl)) (hw _ (List.mem_of_getElem? (i := 3) rfl)) (by decide) (by decide)) q52a q52c (g := (mkF m 71 #[iv p1, iv p2, lv p3, .second, iv xz, lv q0, .second, rv b5, iv (1 : Int32), iv xt, .unset, .unset, .unset, .unset, .unset] [(.ref b5)])) rfl (by rw [hml]; rfl) (Steps.refl _) (argsL := []) (rest := []) (lenOf pd_5 rfl) rfl (by show 2 * 0 + _ ≤ _; exact Nat.le_of_eq rfl) (hb hby at_71) (fun _ _ => ⟨rfl, eh46, (by decide : 8 + 0 ≤ _), (by decide : 32 + 0 ≤ _)⟩)
      dsimp only [Pt.U, Pt.locs, Pt.cells, Pt.slots] at X52 l52 y52 z52 st52 hQ52
      subst l52 y52 z52
      obtain ⟨rfl, Nq52, Kc52, Fn2_52, P_oa_size_52, P_oa_committed_52, P_oa_committedAhead_52, P_oa_unfinished_52, P_oa_finished_52, P_oa_restart_52, P_oa_consumed_52, P_oa_consumedAt_52, P_oa_left_52, P_oa_failing_52, P_oa_committedFailures_52⟩ := hQ52
      have N52 := Fr.app N46 Nq52
      have K52 : Keep h0 T52.heap [] := K25.trans Kc52 (allS (Or.inr sz_b5) all0)
      have sz52 : n0 ≤ T52.heap.size := Nat.le_trans sz25 Kc52.1
      have pre54 : ∀ t, own_K p e below m T52 75 #[iv p1, iv p2, lv p3, .second, iv xz, lv q0, .second, rv b5, iv (1 : Int32), iv xt, .unset, .unset, .unset, .unset, .unset] [] t → G t := by
        intro t k
        refine pre49 t ?_
        show own_K p e below m T46 66 #[iv p1, iv p2, lv p3, .second, iv xz, lv q0, .second, rv b5, iv (1 : Int32), iv xt, .unset, .unset, .unset, .unset, .unset] [(.int (1 : Int32)), (.int xt)] _
        refine XS.icmpNo X46.here hx rfl (hb hby at_66) rfl (flt hc66_50).1 ?_
        show own_K p e below m T46 69 #[iv p1, iv p2, lv p3, .second, iv xz, lv q0, .second, rv b5, iv (1 : Int32), iv xt, .unset, .unset, .unset, .unset, .unset] [] _
        refine XS.aload X46.here hx rfl (hb hby at_69) rfl rfl ?_
        show own_K p e below m T46 71 #[iv p1, iv p2, lv p3, .second, iv xz, lv q0, .second, rv b5, iv (1 : Int32), iv xt, .unset, .unset, .unset, .unset, .unset] [(.ref b5)] _
        refine st52.trans ?_
        show own_K p e below m T52 74 #[iv p1, iv p2, lv p3, .second, iv xz, lv q0, .second, rv b5, iv (1 : Int32), iv xt, .unset, .unset, .unset, .unset, .unset] [(.int (1 : Int32))] _
        refine XS.pop X52.here hx rfl (hb hby at_74) rfl rfl ?_
        exact k
      have f58 : Old Z n0 T52.heap := (f53.keep Kc52 (allS ge_b5 all0))
      have f59 : Exa Z T52.heap b5 "evenkeel/client/Window" := (f43.keep Kc52)
      have f60 : Exa Z T52.heap bf25 "java/util/BitSet" := (Ef_25.keep Kc52)
      have f61 : Fld Z T52.heap bf25 "java/util/BitSet" "wordsInUse" "I" (.int (0 : Int32)) := (Fuf_25.keep Kc52 (ninS (Ne.symm ne_b5_bf25) nin0))
      have f62 : Fld Z T52.heap bf25 "java/util/BitSet" "sizeIsSticky" "Z" (.int (0 : Int32)) := (Fyf_25.keep Kc52 (ninS (Ne.symm ne_b5_bf25) nin0))
      have f63 : Fld Z T52.heap bf25 "java/util/BitSet" "words" "[J" (.ref wf25) := (Fwf_25.keep Kc52 (ninS (Ne.symm ne_b5_bf25) nin0))
      have f64 : Arv Z T52.heap wf25 kf25 .long (1 : Int32) [(.long (0 : Int64))] (.long (0 : Int64)) := (Vf_25.keep Kc52 (ninS (Ne.symm ne_b5_wf25) nin0))
      have f65 : Exa Z T52.heap bl25 "java/util/BitSet" := (El_25.keep Kc52)
      have f66 : Fld Z T52.heap bl25 "java/util/BitSet" "wordsInUse" "I" (.int (0 : Int32)) := (Ful_25.keep Kc52 (ninS (Ne.symm ne_b5_bl25) nin0))
      have f67 : Fld Z T52.heap bl25 "java/util/BitSet" "sizeIsSticky" "Z" (.int (0 : Int32)) := (Fyl_25.keep Kc52 (ninS (Ne.symm ne_b5_bl25) nin0))
      have f68 : Fld Z T52.heap bl25 "java/util/BitSet" "words" "[J" (.ref wl25) := (Fwl_25.keep Kc52 (ninS (Ne.symm ne_b5_bl25) nin0))
      have f69 : Arv Z T52.heap wl25 kl25 .long (1 : Int32) [(.long (0 : Int64))] (.long (0 : Int64)) := (Vl_25.keep Kc52 (ninS (Ne.symm ne_b5_wl25) nin0))
      have hq := True.intro
      obtain rfl : v56 = (q0 + (1 : Int64)) := by simp only [hv56, if_neg hc66_50]
      exact ⟨_, _, _, X52, N52, rfl, K52, f58, f59, P_oa_committedAhead_52, P_oa_finished_52, P_oa_restart_52, P_oa_left_52, P_oa_size_52, P_oa_committed_52, P_oa_unfinished_52, Fn2_52, P_oa_consumed_52, P_oa_committedFailures_52, P_oa_consumedAt_52, P_oa_failing_52, f60, f61, f62, f63, f64, f65, f66, f67, f68, f69, fun t k => pre54 t k⟩
  have pre70 : ∀ t, own_K p e below m T55 78 #[iv p1, iv p2, lv p3, .second, iv xz, lv q0, .second, rv b5, iv (1 : Int32), iv xt, .unset, .unset, .unset, .unset, .unset] [(.int (2 : Int32)), (.int xt)] t → G t := by
    intro t k
    refine pre55 t ?_
    show own_K p e below m T55 75 #[iv p1, iv p2, lv p3, .second, iv xz, lv q0, .second, rv b5, iv (1 : Int32), iv xt, .unset, .unset, .unset, .unset, .unset] [] _
    refine XS.iload X55.here hx rfl (hb hby at_75) rfl ?_
    show own_K p e below m T55 77 #[iv p1, iv p2, lv p3, .second, iv xz, lv q0, .second, rv b5, iv (1 : Int32), iv xt, .unset, .unset, .unset, .unset, .unset] [(.int xt)] _
    refine XS.iconst X55.here hx rfl (hb hby at_77) ?_
    exact k
  obtain ⟨v76, hv76⟩ : ∃ z : Int64, z = (if xt < (2 : Int32) then v56 else (v56 + (1 : Int64))) := ⟨_, rfl⟩
  obtain ⟨T75, h75, lo75, X75, N75, e75, K75, j75_0, j75_1, j75_2, j75_3, j75_4, j75_5, j75_6, j75_7, j75_8, j75_9, j75_10, j75_11, j75_12, j75_13, j75_14, j75_15, j75_16, j75_17, j75_18, j75_19, j75_20, j75_21, j75_22, j75_23, pre75⟩ : ∃ (T' : State) (h' : Heap) (l' : List Loc), Stand p l e room_1 s m #[(.int p1), (.int p2), (.long p3)] below meth c T' l' 8 32 ∧ Fr n0 l' ∧ T'.heap = h' ∧ Keep h0 h' [] ∧ Old Z n0 h' ∧ Exa Z h' b5 "evenkeel/client/Window" ∧ Fld Z h' b5 "evenkeel/client/Window" "committedAhead" "Ljava/util/List;" (.ref el) ∧ Fld Z h' b5 "evenkeel/client/Window" "finished" "Ljava/util/BitSet;" (.ref bf25) ∧ Fld Z h' b5 "evenkeel/client/Window" "restart" "J" (.long (-1 : Int64)) ∧ Fld Z h' b5 "evenkeel/client/Window" "left" "Ljava/util/BitSet;" (.ref bl25) ∧ Fld Z h' b5 "evenkeel/client/Window" "size" "I" (.int xz) ∧ Fld Z h' b5 "evenkeel/client/Window" "committed" "J" (.long q0) ∧ Fld Z h' b5 "evenkeel/client/Window" "unfinished" "J" (.long q0) ∧ Fld Z h' b5 "evenkeel/client/Window" "next" "J" (.long v76) ∧ Fld Z h' b5 "evenkeel/client/Window" "consumed" "Ljava/util/List;" (.ref el) ∧ Fld Z h' b5 "evenkeel/client/Window" "committedFailures" "Ljava/util/List;" (.ref el) ∧ Fld Z h' b5 "evenkeel/client/Window" "consumedAt" "I" (.int (0 : Int32)) ∧ Fld Z h' b5 "evenkeel/client/Window" "failing" "Ljava/util/TreeMap;" .null ∧ Exa Z h' bf25 "java/util/BitSet" ∧ Fld Z h' bf25 "java/util/BitSet" "wordsInUse" "I" (.int (0 : Int32)) ∧ Fld Z h' bf25 "java/util/BitSet" "sizeIsSticky" "Z" (.int (0 : Int32)) ∧ Fld Z h' bf25 "java/util/BitSet" "words" "[J" (.ref wf25) ∧ Arv Z h' wf25 kf25 .long (1 : Int32) [(.long (0 : Int64))] (.long (0 : Int64)) ∧ Exa Z h' bl25 "java/util/BitSet" ∧ Fld Z h' bl25 "java/util/BitSet" "wordsInUse" "I" (.int (0 : Int32)) ∧ Fld Z h' bl25 "java/util/BitSet" "sizeIsSticky" "Z" (.int (0 : Int32)) ∧ Fld Z h' bl25 "java/util/BitSet" "words" "[J" (.ref wl25) ∧ Arv Z h' wl25 kl25 .long (1 : Int32) [(.long (0 : Int64))] (.long (0 : Int64)) ∧ ∀ t, own_K p e below m T' 87 #[iv p1, iv p2, lv p3, .second, iv xz, lv q0, .second, rv b5, iv (1 : Int32), iv xt, .unset, .unset, .unset, .unset, .unset] [] t → G t := by
    by_cases hc78_71 : xt < (2 : Int32)
    · have pre72 : ∀ t, own_K p e below m T55 87 #[iv p1, iv p2, lv p3, .second, iv xz, lv q0, .second, rv b5, iv (1 : Int32), iv xt, .unset, .unset, .unset, .unset, .unset] [] t → G t := by
        intro t k
        refine pre70 t ?_
        show own_K p e below m T55 78 #[iv p1, iv p2, lv p3, .second, iv xz, lv q0, .second, rv b5, iv (1 : Int32), iv xt, .unset, .unset, .unset, .unset, .unset] [(.int (2 : Int32)), (.int xt)] _
        refine XS.icmpYes X55.here hx rfl (pc0 := 78) (pc' := 87) rfl (hb hby at_78) rfl (tlt hc78_71).1 (by decide) (by decide) ?_
        exact k
      have hq := True.intro
      obtain rfl : v76 = v56 := by simp only [hv76, if_pos hc78_71]
      exact ⟨_, _, _, X55, N55, e55, K55, j55_0, j55_1, j55_2, j55_3, j55_4, j55_5, j55_6, j55_7, j55_8, j55_9, j55_10, j55_11, j55_12, j55_13, j55_14, j55_15, j55_16, j55_17, j55_18, j55_19, j55_20, j55_21, j55_22, j55_23, fun t k => pre72 t k⟩
    · obtain ⟨cq73, kq73, q73a, q73b, q73c⟩ := isOf hZ e55 j55_1
      obtain ⟨_, _, ⟨T73, L73, k73, n73⟩, -, X73, ⟨Lc73, hQ73, l73, y73, z73⟩, st73⟩ := X55.virtualBack hx (y := (⟨"evenkeel/client/Window", "take", "()Z"⟩ : MethodName)) (z := (⟨"evenkeel/client/Window", "take", "()Z"⟩ : MethodName)) hown (mvT hZ (hw _ (List.mem_of_getElem? (i := 176) rfl))) (mvT hZ (hw _ (List.mem_of_getElem? (i := 177) rfl))) (notFace_of_selects (args := #[]) (mvT hZ (hw _ (List.mem_of_getElem? (i := 179) rfl)))) (mvT hZ (hw _ (List.mem_of_getElem? (i := 179) rfl))) (mvT hZ (hw _ (List.mem_of_getElem? (i := 178) rfl))) (by decide) (backOf (W := 0) (rm22 l Z a0 hw [] b5 v56 el ea kE (.int xz) (.long q0) (.ref el) (.long q0) (.ref bf25) (.long (-1 : Int64)) (.ref bl25) .null (.ref el) h55 n0 (Nat.le_trans Z0 K55.1) j55_1 j55_9 j55_12 j55_10 ge_b5 j55_0 P_ j55_6 j55_7 j55_2 j55_8 j55_3 j55_4 j55_5 j55_13 j55_11) hZ (hw _ (List.mem_of_getElem? (i := 180) rfl)) (hw _ (List.mem_of_getElem? (i := 3) rfl)) (by decide) (by decide)) q73a q73c (g := (mkF m 83 #[iv p1, iv p2, lv p3, .second, iv xz, lv q0, .second, rv b5, iv (1 : Int32), iv xt, .unset, .unset, .unset, .unset, .unset] [(.ref b5)])) rfl (by rw [hml]; rfl) (Steps.refl _) (argsL := []) (rest := []) (lenOf pd_5 rfl) rfl (by show 2 * 0 + _ ≤ _; exact Nat.le_of_eq rfl) (hb hby at_83) (fun _ _ => ⟨rfl, e55, (by decide : 8 + 0 ≤ _), (by decide : 32 + 0 ≤ _)⟩)
      dsimp only [Pt.U, Pt.locs, Pt.cells, Pt.slots] at X73 l73 y73 z73 st73 hQ73
      subst l73 y73 z73
      obtain ⟨rfl, Nq73, Kc73, Fn2_73, P_oa_size_73, P_oa_committed_73, P_oa_committedAhead_73, P_oa_unfinished_73, P_oa_finished_73, P_oa_restart_73, P_oa_consumed_73, P_oa_consumedAt_73, P_oa_left_73, P_oa_failing_73, P_oa_committedFailures_73⟩ := hQ73
      have N73 := Fr.app N55 Nq73
      have K73 : Keep h0 T73.heap [] := K55.trans Kc73 (allS (Or.inr sz_b5) all0)
      have sz73 : n0 ≤ T73.heap.size := Nat.le_trans (Nat.le_trans Z0 K55.1) Kc73.1
      have pre74 : ∀ t, own_K p e below m T73 87 #[iv p1, iv p2, lv p3, .second, iv xz, lv q0, .second, rv b5, iv (1 : Int32), iv xt, .unset, .unset, .unset, .unset, .unset] [] t → G t := by
        intro t k
        refine pre70 t ?_
        show own_K p e below m T55 78 #[iv p1, iv p2, lv p3, .second, iv xz, lv q0, .second, rv b5, iv (1 : Int32), iv xt, .unset, .unset, .unset, .unset, .unset] [(.int (2 : Int32)), (.int xt)] _
        refine XS.icmpNo X55.here hx rfl (hb hby at_78) rfl (flt hc78_71).1 ?_
        show own_K p e below m T55 81 #[iv p1, iv p2, lv p3, .second, iv xz, lv q0, .second, rv b5, iv (1 : Int32), iv xt, .unset, .unset, .unset, .unset, .unset] [] _
        refine XS.aload X55.here hx rfl (hb hby at_81) rfl rfl ?_
        show own_K p e below m T55 83 #[iv p1, iv p2, lv p3, .second, iv xz, lv q0, .second, rv b5, iv (1 : Int32), iv xt, .unset, .unset, .unset, .unset, .unset] [(.ref b5)] _
        refine st73.trans ?_
        show own_K p e below m T73 86 #[iv p1, iv p2, lv p3, .second, iv xz, lv q0, .second, rv b5, iv (1 : Int32), iv xt, .unset, .unset, .unset, .unset, .unset] [(.int (1 : Int32))] _
        refine XS.pop X73.here hx rfl (hb hby at_86) rfl rfl ?_
        exact k
      have f77 : Old Z n0 T73.heap := (j55_0.keep Kc73 (allS ge_b5 all0))
      have f78 : Exa Z T73.heap b5 "evenkeel/client/Window" := (j55_1.keep Kc73)
      have f79 : Exa Z T73.heap bf25 "java/util/BitSet" := (j55_14.keep Kc73)
      have f80 : Fld Z T73.heap bf25 "java/util/BitSet" "wordsInUse" "I" (.int (0 : Int32)) := (j55_15.keep Kc73 (ninS (Ne.symm ne_b5_bf25) nin0))
      have f81 : Fld Z T73.heap bf25 "java/util/BitSet" "sizeIsSticky" "Z" (.int (0 : Int32)) := (j55_16.keep Kc73 (ninS (Ne.symm ne_b5_bf25) nin0))
      have f82 : Fld Z T73.heap bf25 "java/util/BitSet" "words" "[J" (.ref wf25) := (j55_17.keep Kc73 (ninS (Ne.symm ne_b5_bf25) nin0))
      have f83 : Arv Z T73.heap wf25 kf25 .long (1 : Int32) [(.long (0 : Int64))] (.long (0 : Int64)) := (j55_18.keep Kc73 (ninS (Ne.symm ne_b5_wf25) nin0))
      have f84 : Exa Z T73.heap bl25 "java/util/BitSet" := (j55_19.keep Kc73)
      have f85 : Fld Z T73.heap bl25 "java/util/BitSet" "wordsInUse" "I" (.int (0 : Int32)) := (j55_20.keep Kc73 (ninS (Ne.symm ne_b5_bl25) nin0))
      have f86 : Fld Z T73.heap bl25 "java/util/BitSet" "sizeIsSticky" "Z" (.int (0 : Int32)) := (j55_21.keep Kc73 (ninS (Ne.symm ne_b5_bl25) nin0))
      have f87 : Fld Z T73.heap bl25 "java/util/BitSet" "words" "[J" (.ref wl25) := (j55_22.keep Kc73 (ninS (Ne.symm ne_b5_bl25) nin0))
      have f88 : Arv Z T73.heap wl25 kl25 .long (1 : Int32) [(.long (0 : Int64))] (.long (0 : Int64)) := (j55_23.keep Kc73 (ninS (Ne.symm ne_b5_wl25) nin0))
      have hq := True.intro
      obtain rfl : v76 = (v56 + (1 : Int64)) := by simp only [hv76, if_neg hc78_71]
      exact ⟨_, _, _, X73, N73, rfl, K73, f77, f78, P_oa_committedAhead_73, P_oa_finished_73, P_oa_restart_73, P_oa_left_73, P_oa_size_73, P_oa_committed_73, P_oa_unfinished_73, Fn2_73, P_oa_consumed_73, P_oa_committedFailures_73, P_oa_consumedAt_73, P_oa_failing_73, f79, f80, f81, f82, f83, f84, f85, f86, f87, f88, fun t k => pre74 t k⟩
  have pre89 : ∀ t, own_K p e below m T75 90 #[iv p1, iv p2, lv p3, .second, iv xz, lv q0, .second, rv b5, iv (1 : Int32), iv xt, .unset, .unset, .unset, .unset, .unset] [(.int (3 : Int32)), (.int xt)] t → G t := by
    intro t k
    refine pre75 t ?_
    show own_K p e below m T75 87 #[iv p1, iv p2, lv p3, .second, iv xz, lv q0, .second, rv b5, iv (1 : Int32), iv xt, .unset, .unset, .unset, .unset, .unset] [] _
    refine XS.iload X75.here hx rfl (hb hby at_87) rfl ?_
    show own_K p e below m T75 89 #[iv p1, iv p2, lv p3, .second, iv xz, lv q0, .second, rv b5, iv (1 : Int32), iv xt, .unset, .unset, .unset, .unset, .unset] [(.int xt)] _
    refine XS.iconst X75.here hx rfl (hb hby at_89) ?_
    exact k
  obtain ⟨v95, hv95⟩ : ∃ z : Int64, z = (if xt < (3 : Int32) then v76 else (v76 + (1 : Int64))) := ⟨_, rfl⟩
  obtain ⟨T94, h94, lo94, X94, N94, e94, K94, j94_0, j94_1, j94_2, j94_3, j94_4, j94_5, j94_6, j94_7, j94_8, j94_9, j94_10, j94_11, j94_12, j94_13, j94_14, j94_15, j94_16, j94_17, j94_18, j94_19, j94_20, j94_21, j94_22, j94_23, pre94⟩ : ∃ (T' : State) (h' : Heap) (l' : List Loc), Stand p l e room_1 s m #[(.int p1), (.int p2), (.long p3)] below meth c T' l' 8 32 ∧ Fr n0 l' ∧ T'.heap = h' ∧ Keep h0 h' [] ∧ Old Z n0 h' ∧ Exa Z h' b5 "evenkeel/client/Window" ∧ Fld Z h' b5 "evenkeel/client/Window" "committedAhead" "Ljava/util/List;" (.ref el) ∧ Fld Z h' b5 "evenkeel/client/Window" "finished" "Ljava/util/BitSet;" (.ref bf25) ∧ Fld Z h' b5 "evenkeel/client/Window" "restart" "J" (.long (-1 : Int64)) ∧ Fld Z h' b5 "evenkeel/client/Window" "left" "Ljava/util/BitSet;" (.ref bl25) ∧ Fld Z h' b5 "evenkeel/client/Window" "size" "I" (.int xz) ∧ Fld Z h' b5 "evenkeel/client/Window" "committed" "J" (.long q0) ∧ Fld Z h' b5 "evenkeel/client/Window" "unfinished" "J" (.long q0) ∧ Fld Z h' b5 "evenkeel/client/Window" "next" "J" (.long v95) ∧ Fld Z h' b5 "evenkeel/client/Window" "consumed" "Ljava/util/List;" (.ref el) ∧ Fld Z h' b5 "evenkeel/client/Window" "committedFailures" "Ljava/util/List;" (.ref el) ∧ Fld Z h' b5 "evenkeel/client/Window" "consumedAt" "I" (.int (0 : Int32)) ∧ Fld Z h' b5 "evenkeel/client/Window" "failing" "Ljava/util/TreeMap;" .null ∧ Exa Z h' bf25 "java/util/BitSet" ∧ Fld Z h' bf25 "java/util/BitSet" "wordsInUse" "I" (.int (0 : Int32)) ∧ Fld Z h' bf25 "java/util/BitSet" "sizeIsSticky" "Z" (.int (0 : Int32)) ∧ Fld Z h' bf25 "java/util/BitSet" "words" "[J" (.ref wf25) ∧ Arv Z h' wf25 kf25 .long (1 : Int32) [(.long (0 : Int64))] (.long (0 : Int64)) ∧ Exa Z h' bl25 "java/util/BitSet" ∧ Fld Z h' bl25 "java/util/BitSet" "wordsInUse" "I" (.int (0 : Int32)) ∧ Fld Z h' bl25 "java/util/BitSet" "sizeIsSticky" "Z" (.int (0 : Int32)) ∧ Fld Z h' bl25 "java/util/BitSet" "words" "[J" (.ref wl25) ∧ Arv Z h' wl25 kl25 .long (1 : Int32) [(.long (0 : Int64))] (.long (0 : Int64)) ∧ ∀ t, own_K p e below m T' 99 #[iv p1, iv p2, lv p3, .second, iv xz, lv q0, .second, rv b5, iv (1 : Int32), iv xt, .unset, .unset, .unset, .unset, .unset] [] t → G t := by
    by_cases hc90_90 : xt < (3 : Int32)
    · have pre91 : ∀ t, own_K p e below m T75 99 #[iv p1, iv p2, lv p3, .second, iv xz, lv q0, .second, rv b5, iv (1 : Int32), iv xt, .unset, .unset, .unset, .unset, .unset] [] t → G t := by
        intro t k
        refine pre89 t ?_
        show own_K p e below m T75 90 #[iv p1, iv p2, lv p3, .second, iv xz, lv q0, .second, rv b5, iv (1 : Int32), iv xt, .unset, .unset, .unset, .unset, .unset] [(.int (3 : Int32)), (.int xt)] _
        refine XS.icmpYes X75.here hx rfl (pc0 := 90) (pc' := 99) rfl (hb hby at_90) rfl (tlt hc90_90).1 (by decide) (by decide) ?_
        exact k
      have hq := True.intro
      obtain rfl : v95 = v76 := by simp only [hv95, if_pos hc90_90]
      exact ⟨_, _, _, X75, N75, e75, K75, j75_0, j75_1, j75_2, j75_3, j75_4, j75_5, j75_6, j75_7, j75_8, j75_9, j75_10, j75_11, j75_12, j75_13, j75_14, j75_15, j75_16, j75_17, j75_18, j75_19, j75_20, j75_21, j75_22, j75_23, fun t k => pre91 t k⟩
    · obtain ⟨cq92, kq92, q92a, q92b, q92c⟩ := isOf hZ e75 j75_1
      obtain ⟨_, _, ⟨T92, L92, k92, n92⟩, -, X92, ⟨Lc92, hQ92, l92, y92, z92⟩, st92⟩ := X75.virtualBack hx (y := (⟨"evenkeel/client/Window", "take", "()Z"⟩ : MethodName)) (z := (⟨"evenkeel/client/Window", "take", "()Z"⟩ : MethodName)) hown (mvT hZ (hw _ (List.mem_of_getElem? (i := 176) rfl))) (mvT hZ (hw _ (List.mem_of_getElem? (i := 177) rfl))) (notFace_of_selects (args := #[]) (mvT hZ (hw _ (List.mem_of_getElem? (i := 179) rfl)))) (mvT hZ (hw _ (List.mem_of_getElem? (i := 179) rfl))) (mvT hZ (hw _ (List.mem_of_getElem? (i := 178) rfl))) (by decide) (backOf (W := 0) (rm22 l Z a0 hw [] b5 v76 el ea kE (.int xz) (.long q0) (.ref el) (.long q0) (.ref bf25) (.long (-1 : Int64)) (.ref bl25) .null (.ref el) h75 n0 (Nat.le_trans Z0 K75.1) j75_1 j75_9 j75_12 j75_10 ge_b5 j75_0 P_ j75_6 j75_7 j75_2 j75_8 j75_3 j75_4 j75_5 j75_13 j75_11) hZ (hw _ (List.mem_of_getElem? (i := 180) rfl)) (hw _ (List.mem_of_getElem? (i := 3) rfl)) (by decide) (by decide)) q92a q92c (g := (mkF m 95 #[iv p1, iv p2, lv p3, .second, iv xz, lv q0, .second, rv b5, iv (1 : Int32), iv xt, .unset, .unset, .unset, .unset, .unset] [(.ref b5)])) rfl (by rw [hml]; rfl) (Steps.refl _) (argsL := []) (rest := []) (lenOf pd_5 rfl) rfl (by show 2 * 0 + _ ≤ _; exact Nat.le_of_eq rfl) (hb hby at_95) (fun _ _ => ⟨rfl, e75, (by decide : 8 + 0 ≤ _), (by decide : 32 + 0 ≤ _)⟩)
      dsimp only [Pt.U, Pt.locs, Pt.cells, Pt.slots] at X92 l92 y92 z92 st92 hQ92
      subst l92 y92 z92
      obtain ⟨rfl, Nq92, Kc92, Fn2_92, P_oa_size_92, P_oa_committed_92, P_oa_committedAhead_92, P_oa_unfinished_92, P_oa_finished_92, P_oa_restart_92, P_oa_consumed_92, P_oa_consumedAt_92, P_oa_left_92, P_oa_failing_92, P_oa_committedFailures_92⟩ := hQ92
      have N92 := Fr.app N75 Nq92
      have K92 : Keep h0 T92.heap [] := K75.trans Kc92 (allS (Or.inr sz_b5) all0)
      have sz92 : n0 ≤ T92.heap.size := Nat.le_trans (Nat.le_trans Z0 K75.1) Kc92.1
      have pre93 : ∀ t, own_K p e below m T92 99 #[iv p1, iv p2, lv p3, .second, iv xz, lv q0, .second, rv b5, iv (1 : Int32), iv xt, .unset, .unset, .unset, .unset, .unset] [] t → G t := by
        intro t k
        refine pre89 t ?_
        show own_K p e below m T75 90 #[iv p1, iv p2, lv p3, .second, iv xz, lv q0, .second, rv b5, iv (1 : Int32), iv xt, .unset, .unset, .unset, .unset, .unset] [(.int (3 : Int32)), (.int xt)] _
        refine XS.icmpNo X75.here hx rfl (hb hby at_90) rfl (flt hc90_90).1 ?_
        show own_K p e below m T75 93 #[iv p1, iv p2, lv p3, .second, iv xz, lv q0, .second, rv b5, iv (1 : Int32), iv xt, .unset, .unset, .unset, .unset, .unset] [] _
        refine XS.aload X75.here hx rfl (hb hby at_93) rfl rfl ?_
        show own_K p e below m T75 95 #[iv p1, iv p2, lv p3, .second, iv xz, lv q0, .second, rv b5, iv (1 : Int32), iv xt, .unset, .unset, .unset, .unset, .unset] [(.ref b5)] _
        refine st92.trans ?_
        show own_K p e below m T92 98 #[iv p1, iv p2, lv p3, .second, iv xz, lv q0, .second, rv b5, iv (1 : Int32), iv xt, .unset, .unset, .unset, .unset, .unset] [(.int (1 : Int32))] _
        refine XS.pop X92.here hx rfl (hb hby at_98) rfl rfl ?_
        exact k
      have f96 : Old Z n0 T92.heap := (j75_0.keep Kc92 (allS ge_b5 all0))
      have f97 : Exa Z T92.heap b5 "evenkeel/client/Window" := (j75_1.keep Kc92)
      have f98 : Exa Z T92.heap bf25 "java/util/BitSet" := (j75_14.keep Kc92)
      have f99 : Fld Z T92.heap bf25 "java/util/BitSet" "wordsInUse" "I" (.int (0 : Int32)) := (j75_15.keep Kc92 (ninS (Ne.symm ne_b5_bf25) nin0))
      have f100 : Fld Z T92.heap bf25 "java/util/BitSet" "sizeIsSticky" "Z" (.int (0 : Int32)) := (j75_16.keep Kc92 (ninS (Ne.symm ne_b5_bf25) nin0))
      have f101 : Fld Z T92.heap bf25 "java/util/BitSet" "words" "[J" (.ref wf25) := (j75_17.keep Kc92 (ninS (Ne.symm ne_b5_bf25) nin0))
      have f102 : Arv Z T92.heap wf25 kf25 .long (1 : Int32) [(.long (0 : Int64))] (.long (0 : Int64)) := (j75_18.keep Kc92 (ninS (Ne.symm ne_b5_wf25) nin0))
      have f103 : Exa Z T92.heap bl25 "java/util/BitSet" := (j75_19.keep Kc92)
      have f104 : Fld Z T92.heap bl25 "java/util/BitSet" "wordsInUse" "I" (.int (0 : Int32)) := (j75_20.keep Kc92 (ninS (Ne.symm ne_b5_bl25) nin0))
      have f105 : Fld Z T92.heap bl25 "java/util/BitSet" "sizeIsSticky" "Z" (.int (0 : Int32)) := (j75_21.keep Kc92 (ninS (Ne.symm ne_b5_bl25) nin0))
      have f106 : Fld Z T92.heap bl25 "java/util/BitSet" "words" "[J" (.ref wl25) := (j75_22.keep Kc92 (ninS (Ne.symm ne_b5_bl25) nin0))
      have f107 : Arv Z T92.heap wl25 kl25 .long (1 : Int32) [(.long (0 : Int64))] (.long (0 : Int64)) := (j75_23.keep Kc92 (ninS (Ne.symm ne_b5_wl25) nin0))
      have hq := True.intro
      obtain rfl : v95 = (v76 + (1 : Int64)) := by simp only [hv95, if_neg hc90_90]
      exact ⟨_, _, _, X92, N92, rfl, K92, f96, f97, P_oa_committedAhead_92, P_oa_finished_92, P_oa_restart_92, P_oa_left_92, P_oa_size_92, P_oa_committed_92, P_oa_unfinished_92, Fn2_92, P_oa_consumed_92, P_oa_committedFailures_92, P_oa_consumedAt_92, P_oa_failing_92, f98, f99, f100, f101, f102, f103, f104, f105, f106, f107, fun t k => pre93 t k⟩
  have hnx := own_next (q := q0) (t := xt) htN htb hv56 hv76 hv95 hq62
  obtain ⟨cq108, kq108, q108a, q108b, q108c⟩ := isOf hZ e94 j94_1
  obtain ⟨_, _, ⟨T108, L108, k108, n108⟩, -, X108, ⟨Lc108, hQ108, l108, y108, z108⟩, st108⟩ := X94.virtualBack hx (y := (⟨"evenkeel/client/Window", "room", "()I"⟩ : MethodName)) (z := (⟨"evenkeel/client/Window", "room", "()I"⟩ : MethodName)) hown (mvT hZ (hw _ (List.mem_of_getElem? (i := 167) rfl))) (mvT hZ (hw _ (List.mem_of_getElem? (i := 168) rfl))) (notFace_of_selects (args := #[]) (mvT hZ (hw _ (List.mem_of_getElem? (i := 170) rfl)))) (mvT hZ (hw _ (List.mem_of_getElem? (i := 170) rfl))) (mvT hZ (hw _ (List.mem_of_getElem? (i := 169) rfl))) (by decide) (backOf (W := 0) (rm20 l Z a0 hw [] b5 (-1 : Int64) xz v95 q0 h94 n0 (Nat.le_trans Z0 K94.1) j94_4 j94_6 j94_9 j94_7) hZ (hw _ (List.mem_of_getElem? (i := 171) rfl)) (hw _ (List.mem_of_getElem? (i := 3) rfl)) (by decide) (by decide)) q108a q108c (g := (mkF m 106 #[iv p1, iv p2, lv p3, .second, iv xz, lv q0, .second, rv b5, iv (1 : Int32), iv xt, .unset, .unset, .unset, .unset, .unset] [(.ref b5)])) rfl (by rw [hml]; rfl) (Steps.refl _) (argsL := []) (rest := []) (lenOf pd_1 rfl) rfl (by show 2 * 0 + _ ≤ _; exact Nat.le_of_eq rfl) (hb hby at_106) (fun _ _ => ⟨rfl, e94, (by decide : 8 + 0 ≤ _), (by decide : 32 + 0 ≤ _)⟩)
  dsimp only [Pt.U, Pt.locs, Pt.cells, Pt.slots] at X108 l108 y108 z108 st108 hQ108
  subst l108 y108 z108
  obtain ⟨rfl, Nq108, eh108⟩ := hQ108
  have N108 := Fr.app N94 Nq108
  have pre109 : ∀ t, own_K p e below m T108 109 #[iv p1, iv p2, lv p3, .second, iv xz, lv q0, .second, rv b5, iv (1 : Int32), iv xt, .unset, .unset, .unset, .unset, .unset] [(.int (if (-1 : Int64) < (0 : Int64) then (((xz.toInt64) - (v95 - q0)).toInt32) else (0 : Int32)))] t → G t := by
    intro t k
    refine pre94 t ?_
    show own_K p e below m T94 99 #[iv p1, iv p2, lv p3, .second, iv xz, lv q0, .second, rv b5, iv (1 : Int32), iv xt, .unset, .unset, .unset, .unset, .unset] [] _
    refine XS.iload X94.here hx rfl (hb hby at_99) rfl ?_
    show own_K p e below m T94 101 #[iv p1, iv p2, lv p3, .second, iv xz, lv q0, .second, rv b5, iv (1 : Int32), iv xt, .unset, .unset, .unset, .unset, .unset] [(.int (1 : Int32))] _
    refine XS.ifNo X94.here hx rfl (hb hby at_101) rfl ((if0 _ _).trans (feq (by decide : ¬ ((1 : Int32) = (0 : Int32)))).1) ?_
    show own_K p e below m T94 104 #[iv p1, iv p2, lv p3, .second, iv xz, lv q0, .second, rv b5, iv (1 : Int32), iv xt, .unset, .unset, .unset, .unset, .unset] [] _
    refine XS.aload X94.here hx rfl (hb hby at_104) rfl rfl ?_
    show own_K p e below m T94 106 #[iv p1, iv p2, lv p3, .second, iv xz, lv q0, .second, rv b5, iv (1 : Int32), iv xt, .unset, .unset, .unset, .unset, .unset] [(.ref b5)] _
    refine st108.trans ?_
    exact k
  obtain ⟨r2, hr2⟩ : ∃ z : Int32, z = (if (-1 : Int64) < (0 : Int64) then (((xz.toInt64) - (v95 - q0)).toInt32) else (0 : Int32)) := ⟨_, rfl⟩
  have pre110 : ∀ t, own_K p e below m T108 109 #[iv p1, iv p2, lv p3, .second, iv xz, lv q0, .second, rv b5, iv (1 : Int32), iv xt, .unset, .unset, .unset, .unset, .unset] [(.int r2)] t → G t := fun t k => pre109 t (by rw [hr2] at k; exact k)
  have pre111 : ∀ t, own_K p e below m T108 127 #[iv p1, iv p2, lv p3, .second, iv xz, lv q0, .second, rv b5, iv (1 : Int32), iv xt, .unset, .unset, .unset, .unset, .unset] [(.int (1 : Int32)), (.int xt)] t → G t := by
    intro t k
    refine pre110 t ?_
    show own_K p e below m T108 109 #[iv p1, iv p2, lv p3, .second, iv xz, lv q0, .second, rv b5, iv (1 : Int32), iv xt, .unset, .unset, .unset, .unset, .unset] [(.int r2)] _
    refine XS.iload X108.here hx rfl (hb hby at_109) rfl ?_
    show own_K p e below m T108 111 #[iv p1, iv p2, lv p3, .second, iv xz, lv q0, .second, rv b5, iv (1 : Int32), iv xt, .unset, .unset, .unset, .unset, .unset] [(.int xz), (.int r2)] _
    refine XS.iload X108.here hx rfl (hb hby at_111) rfl ?_
    show own_K p e below m T108 113 #[iv p1, iv p2, lv p3, .second, iv xz, lv q0, .second, rv b5, iv (1 : Int32), iv xt, .unset, .unset, .unset, .unset, .unset] [(.int xt), (.int xz), (.int r2)] _
    refine XS.isub X108.here hx rfl (hb hby at_113) rfl ?_
    show own_K p e below m T108 114 #[iv p1, iv p2, lv p3, .second, iv xz, lv q0, .second, rv b5, iv (1 : Int32), iv xt, .unset, .unset, .unset, .unset, .unset] [(.int (xz - xt)), (.int r2)] _
    refine XS.icmpNo X108.here hx rfl (hb hby at_114) rfl (teq (hr2.trans (own_room2 hzb htN htb hnx hq62))).2 ?_
    show own_K p e below m T108 117 #[iv p1, iv p2, lv p3, .second, iv xz, lv q0, .second, rv b5, iv (1 : Int32), iv xt, .unset, .unset, .unset, .unset, .unset] [] _
    refine XS.iconst X108.here hx rfl (hb hby at_117) ?_
    show own_K p e below m T108 118 #[iv p1, iv p2, lv p3, .second, iv xz, lv q0, .second, rv b5, iv (1 : Int32), iv xt, .unset, .unset, .unset, .unset, .unset] [(.int (1 : Int32))] _
    refine XS.goto X108.here hx rfl (pc0 := 118) (pc' := 122) rfl (hb hby at_118) (by decide) (by decide) ?_
    show own_K p e below m T108 122 #[iv p1, iv p2, lv p3, .second, iv xz, lv q0, .second, rv b5, iv (1 : Int32), iv xt, .unset, .unset, .unset, .unset, .unset] [(.int (1 : Int32))] _
    refine XS.istore X108.here hx rfl (hb hby at_122) rfl (l' := #[iv p1, iv p2, lv p3, .second, iv xz, lv q0, .second, rv b5, iv (1 : Int32), iv xt, .unset, .unset, .unset, .unset, .unset]) rfl ?_
    show own_K p e below m T108 124 #[iv p1, iv p2, lv p3, .second, iv xz, lv q0, .second, rv b5, iv (1 : Int32), iv xt, .unset, .unset, .unset, .unset, .unset] [] _
    refine XS.iload X108.here hx rfl (hb hby at_124) rfl ?_
    show own_K p e below m T108 126 #[iv p1, iv p2, lv p3, .second, iv xz, lv q0, .second, rv b5, iv (1 : Int32), iv xt, .unset, .unset, .unset, .unset, .unset] [(.int xt)] _
    refine XS.iconst X108.here hx rfl (hb hby at_126) ?_
    exact k
  obtain ⟨v118, hv118⟩ : ∃ z : Int32, z = (if xt < (1 : Int32) then (0 : Int32) else (if ((p2 >>> ((2 : Int32) &&& 31)) &&& (1 : Int32)) = (0 : Int32) then (0 : Int32) else (1 : Int32))) := ⟨_, rfl⟩
  have pre119 : ∀ t, own_K p e below m T108 143 #[iv p1, iv p2, lv p3, .second, iv xz, lv q0, .second, rv b5, iv (1 : Int32), iv xt, .unset, .unset, .unset, .unset, .unset] [(.int v118)] t → G t := by
    by_cases hc127_112 : xt < (1 : Int32)
    · have pre113 : ∀ t, own_K p e below m T108 143 #[iv p1, iv p2, lv p3, .second, iv xz, lv q0, .second, rv b5, iv (1 : Int32), iv xt, .unset, .unset, .unset, .unset, .unset] [(.int (0 : Int32))] t → G t := by
        intro t k
        refine pre111 t ?_
        show own_K p e below m T108 127 #[iv p1, iv p2, lv p3, .second, iv xz, lv q0, .second, rv b5, iv (1 : Int32), iv xt, .unset, .unset, .unset, .unset, .unset] [(.int (1 : Int32)), (.int xt)] _
        refine XS.icmpYes X108.here hx rfl (pc0 := 127) (pc' := 142) rfl (hb hby at_127) rfl (tlt hc127_112).1 (by decide) (by decide) ?_
        show own_K p e below m T108 142 #[iv p1, iv p2, lv p3, .second, iv xz, lv q0, .second, rv b5, iv (1 : Int32), iv xt, .unset, .unset, .unset, .unset, .unset] [] _
        refine XS.iconst X108.here hx rfl (hb hby at_142) ?_
        exact k
      have hq := True.intro
      obtain rfl : v118 = (0 : Int32) := by simp only [hv118, if_pos hc127_112]
      exact fun t k => pre113 t k
    · have pre114 : ∀ t, own_K p e below m T108 135 #[iv p1, iv p2, lv p3, .second, iv xz, lv q0, .second, rv b5, iv (1 : Int32), iv xt, .unset, .unset, .unset, .unset, .unset] [(.int ((p2 >>> ((2 : Int32) &&& 31)) &&& (1 : Int32)))] t → G t := by
        intro t k
        refine pre111 t ?_
        show own_K p e below m T108 127 #[iv p1, iv p2, lv p3, .second, iv xz, lv q0, .second, rv b5, iv (1 : Int32), iv xt, .unset, .unset, .unset, .unset, .unset] [(.int (1 : Int32)), (.int xt)] _
        refine XS.icmpNo X108.here hx rfl (hb hby at_127) rfl (flt hc127_112).1 ?_
        show own_K p e below m T108 130 #[iv p1, iv p2, lv p3, .second, iv xz, lv q0, .second, rv b5, iv (1 : Int32), iv xt, .unset, .unset, .unset, .unset, .unset] [] _
        refine XS.iloadN X108.here hx rfl (hb hby at_130) rfl ?_
        show own_K p e below m T108 131 #[iv p1, iv p2, lv p3, .second, iv xz, lv q0, .second, rv b5, iv (1 : Int32), iv xt, .unset, .unset, .unset, .unset, .unset] [(.int p2)] _
        refine XS.iconst X108.here hx rfl (hb hby at_131) ?_
        show own_K p e below m T108 132 #[iv p1, iv p2, lv p3, .second, iv xz, lv q0, .second, rv b5, iv (1 : Int32), iv xt, .unset, .unset, .unset, .unset, .unset] [(.int (2 : Int32)), (.int p2)] _
        refine XS.ishr X108.here hx rfl (hb hby at_132) rfl ?_
        show own_K p e below m T108 133 #[iv p1, iv p2, lv p3, .second, iv xz, lv q0, .second, rv b5, iv (1 : Int32), iv xt, .unset, .unset, .unset, .unset, .unset] [(.int (p2 >>> ((2 : Int32) &&& 31)))] _
        refine XS.iconst X108.here hx rfl (hb hby at_133) ?_
        show own_K p e below m T108 134 #[iv p1, iv p2, lv p3, .second, iv xz, lv q0, .second, rv b5, iv (1 : Int32), iv xt, .unset, .unset, .unset, .unset, .unset] [(.int (1 : Int32)), (.int (p2 >>> ((2 : Int32) &&& 31)))] _
        refine XS.iand X108.here hx rfl (hb hby at_134) rfl ?_
        exact k
      by_cases hc135_115 : ((p2 >>> ((2 : Int32) &&& 31)) &&& (1 : Int32)) = (0 : Int32)
      · have pre116 : ∀ t, own_K p e below m T108 143 #[iv p1, iv p2, lv p3, .second, iv xz, lv q0, .second, rv b5, iv (1 : Int32), iv xt, .unset, .unset, .unset, .unset, .unset] [(.int (0 : Int32))] t → G t := by
          intro t k
          refine pre114 t ?_
          show own_K p e below m T108 135 #[iv p1, iv p2, lv p3, .second, iv xz, lv q0, .second, rv b5, iv (1 : Int32), iv xt, .unset, .unset, .unset, .unset, .unset] [(.int ((p2 >>> ((2 : Int32) &&& 31)) &&& (1 : Int32)))] _
          refine XS.ifYes X108.here hx rfl (pc0 := 135) (pc' := 142) rfl (hb hby at_135) rfl ((if0 _ _).trans (teq hc135_115).1) (by decide) (by decide) ?_
          show own_K p e below m T108 142 #[iv p1, iv p2, lv p3, .second, iv xz, lv q0, .second, rv b5, iv (1 : Int32), iv xt, .unset, .unset, .unset, .unset, .unset] [] _
          refine XS.iconst X108.here hx rfl (hb hby at_142) ?_
          exact k
        have hq := True.intro
        obtain rfl : v118 = (0 : Int32) := by simp only [hv118, if_neg hc127_112, if_pos hc135_115]
        exact fun t k => pre116 t k
      · have pre117 : ∀ t, own_K p e below m T108 143 #[iv p1, iv p2, lv p3, .second, iv xz, lv q0, .second, rv b5, iv (1 : Int32), iv xt, .unset, .unset, .unset, .unset, .unset] [(.int (1 : Int32))] t → G t := by
          intro t k
          refine pre114 t ?_
          show own_K p e below m T108 135 #[iv p1, iv p2, lv p3, .second, iv xz, lv q0, .second, rv b5, iv (1 : Int32), iv xt, .unset, .unset, .unset, .unset, .unset] [(.int ((p2 >>> ((2 : Int32) &&& 31)) &&& (1 : Int32)))] _
          refine XS.ifNo X108.here hx rfl (hb hby at_135) rfl ((if0 _ _).trans (feq hc135_115).1) ?_
          show own_K p e below m T108 138 #[iv p1, iv p2, lv p3, .second, iv xz, lv q0, .second, rv b5, iv (1 : Int32), iv xt, .unset, .unset, .unset, .unset, .unset] [] _
          refine XS.iconst X108.here hx rfl (hb hby at_138) ?_
          show own_K p e below m T108 139 #[iv p1, iv p2, lv p3, .second, iv xz, lv q0, .second, rv b5, iv (1 : Int32), iv xt, .unset, .unset, .unset, .unset, .unset] [(.int (1 : Int32))] _
          refine XS.goto X108.here hx rfl (pc0 := 139) (pc' := 143) rfl (hb hby at_139) (by decide) (by decide) ?_
          exact k
        have hq := True.intro
        obtain rfl : v118 = (1 : Int32) := by simp only [hv118, if_neg hc127_112, if_neg hc135_115]
        exact fun t k => pre117 t k
  have pre120 : ∀ t, own_K p e below m T108 145 #[iv p1, iv p2, lv p3, .second, iv xz, lv q0, .second, rv b5, iv (1 : Int32), iv xt, iv v118, .unset, .unset, .unset, .unset] [] t → G t := by
    intro t k
    refine pre119 t ?_
    show own_K p e below m T108 143 #[iv p1, iv p2, lv p3, .second, iv xz, lv q0, .second, rv b5, iv (1 : Int32), iv xt, .unset, .unset, .unset, .unset, .unset] [(.int v118)] _
    refine XS.istore X108.here hx rfl (hb hby at_143) rfl (l' := #[iv p1, iv p2, lv p3, .second, iv xz, lv q0, .second, rv b5, iv (1 : Int32), iv xt, iv v118, .unset, .unset, .unset, .unset]) rfl ?_
    exact k
  obtain ⟨dN, hdN, hdb, hdt⟩ := own_fin htN htb hv118
  have pre121 : ∀ t, own_K p e below m T108 147 #[iv p1, iv p2, lv p3, .second, iv xz, lv q0, .second, rv b5, iv (1 : Int32), iv xt, iv v118, .unset, .unset, .unset, .unset] [(.int v118)] t → G t := by
    intro t k
    refine pre120 t ?_
    show own_K p e below m T108 145 #[iv p1, iv p2, lv p3, .second, iv xz, lv q0, .second, rv b5, iv (1 : Int32), iv xt, iv v118, .unset, .unset, .unset, .unset] [] _
    refine XS.iload X108.here hx rfl (hb hby at_145) rfl ?_
    exact k
  obtain ⟨v127, hv127⟩ : ∃ z : Int64, z = (if v118 = (0 : Int32) then q0 else (q0 + (1 : Int64))) := ⟨_, rfl⟩
  obtain ⟨T126, h126, lo126, X126, N126, e126, K126, j126_0, j126_1, j126_2, j126_3, j126_4, j126_5, j126_6, j126_7, j126_8, j126_9, j126_10, j126_11, j126_12, j126_13, j126_14, j126_15, j126_16, j126_17, j126_18, j126_19, j126_20, j126_21, j126_22, j126_23, pre126⟩ : ∃ (T' : State) (h' : Heap) (l' : List Loc), Stand p l e room_1 s m #[(.int p1), (.int p2), (.long p3)] below meth c T' l' 8 32 ∧ Fr n0 l' ∧ T'.heap = h' ∧ Keep h0 h' [] ∧ Old Z n0 h' ∧ Exa Z h' b5 "evenkeel/client/Window" ∧ Fld Z h' b5 "evenkeel/client/Window" "committedAhead" "Ljava/util/List;" (.ref el) ∧ Fld Z h' b5 "evenkeel/client/Window" "finished" "Ljava/util/BitSet;" (.ref bf25) ∧ Fld Z h' b5 "evenkeel/client/Window" "restart" "J" (.long (-1 : Int64)) ∧ Fld Z h' b5 "evenkeel/client/Window" "left" "Ljava/util/BitSet;" (.ref bl25) ∧ Fld Z h' b5 "evenkeel/client/Window" "size" "I" (.int xz) ∧ Fld Z h' b5 "evenkeel/client/Window" "committed" "J" (.long q0) ∧ Fld Z h' b5 "evenkeel/client/Window" "unfinished" "J" (.long v127) ∧ Fld Z h' b5 "evenkeel/client/Window" "next" "J" (.long v95) ∧ Fld Z h' b5 "evenkeel/client/Window" "consumed" "Ljava/util/List;" (.ref el) ∧ Fld Z h' b5 "evenkeel/client/Window" "committedFailures" "Ljava/util/List;" (.ref el) ∧ Fld Z h' b5 "evenkeel/client/Window" "consumedAt" "I" (.int (0 : Int32)) ∧ Fld Z h' b5 "evenkeel/client/Window" "failing" "Ljava/util/TreeMap;" .null ∧ Exa Z h' bf25 "java/util/BitSet" ∧ Fld Z h' bf25 "java/util/BitSet" "wordsInUse" "I" (.int (0 : Int32)) ∧ Fld Z h' bf25 "java/util/BitSet" "sizeIsSticky" "Z" (.int (0 : Int32)) ∧ Fld Z h' bf25 "java/util/BitSet" "words" "[J" (.ref wf25) ∧ Arv Z h' wf25 kf25 .long (1 : Int32) [(.long (0 : Int64))] (.long (0 : Int64)) ∧ Exa Z h' bl25 "java/util/BitSet" ∧ Fld Z h' bl25 "java/util/BitSet" "wordsInUse" "I" (.int (0 : Int32)) ∧ Fld Z h' bl25 "java/util/BitSet" "sizeIsSticky" "Z" (.int (0 : Int32)) ∧ Fld Z h' bl25 "java/util/BitSet" "words" "[J" (.ref wl25) ∧ Arv Z h' wl25 kl25 .long (1 : Int32) [(.long (0 : Int64))] (.long (0 : Int64)) ∧ ∀ t, own_K p e below m T' 158 #[iv p1, iv p2, lv p3, .second, iv xz, lv q0, .second, rv b5, iv (1 : Int32), iv xt, iv v118, .unset, .unset, .unset, .unset] [] t → G t := by
    by_cases hc147_122 : v118 = (0 : Int32)
    · have pre123 : ∀ t, own_K p e below m T108 158 #[iv p1, iv p2, lv p3, .second, iv xz, lv q0, .second, rv b5, iv (1 : Int32), iv xt, iv v118, .unset, .unset, .unset, .unset] [] t → G t := by
        intro t k
        refine pre121 t ?_
        show own_K p e below m T108 147 #[iv p1, iv p2, lv p3, .second, iv xz, lv q0, .second, rv b5, iv (1 : Int32), iv xt, iv v118, .unset, .unset, .unset, .unset] [(.int v118)] _
        refine XS.ifYes X108.here hx rfl (pc0 := 147) (pc' := 158) rfl (hb hby at_147) rfl ((if0 _ _).trans (teq hc147_122).1) (by decide) (by decide) ?_
        exact k
      have hq := True.intro
      obtain rfl : v127 = q0 := by simp only [hv127, if_pos hc147_122]
      exact ⟨_, _, _, X108, N108, eh108, K94, j94_0, j94_1, j94_2, j94_3, j94_4, j94_5, j94_6, j94_7, j94_8, j94_9, j94_10, j94_11, j94_12, j94_13, j94_14, j94_15, j94_16, j94_17, j94_18, j94_19, j94_20, j94_21, j94_22, j94_23, fun t k => pre123 t k⟩
    · obtain ⟨cq124, kq124, q124a, q124b, q124c⟩ := isOf hZ eh108 j94_1
      obtain ⟨_, _, ⟨T124, L124, k124, n124⟩, -, X124, ⟨Lc124, hQ124, l124, y124, z124⟩, st124⟩ := X108.virtualBack hx (y := (⟨"evenkeel/client/Window", "finish", "(J)Z"⟩ : MethodName)) (z := (⟨"evenkeel/client/Window", "finish", "(J)Z"⟩ : MethodName)) hown (mvT hZ (hw _ (List.mem_of_getElem? (i := 230) rfl))) (mvT hZ (hw _ (List.mem_of_getElem? (i := 231) rfl))) (notFace_of_selects (args := #[]) (mvT hZ (hw _ (List.mem_of_getElem? (i := 233) rfl)))) (mvT hZ (hw _ (List.mem_of_getElem? (i := 233) rfl))) (mvT hZ (hw _ (List.mem_of_getElem? (i := 232) rfl))) (by decide) (backOf (W := 0) (rm30 l Z a0 hw [] b5 q0 v95 xz bf25 bl25 (-1 : Int64) el ea kE (.long q0) (.ref el) (.ref el) (.int (0 : Int32)) (.ref el) h94 n0 (Nat.le_trans Z0 K94.1) j94_1 j94_8 j94_9 j94_6 j94_5 j94_19 j94_20 j94_3 j94_14 j94_15 j94_13 j94_4 (own_finlt hnx htN hdt hc147_122 hdN) (by decide) ne_b5_bf25 ne_b5_bl25 hq62.1 hzb.1 ge_b5 j94_0 P_ j94_7 j94_2 j94_10 j94_12 j94_11) hZ (hw _ (List.mem_of_getElem? (i := 234) rfl)) (hw _ (List.mem_of_getElem? (i := 3) rfl)) (by decide) (by decide)) q124a q124c (g := (mkF m 154 #[iv p1, iv p2, lv p3, .second, iv xz, lv q0, .second, rv b5, iv (1 : Int32), iv xt, iv v118, .unset, .unset, .unset, .unset] [(.long q0), (.ref b5)])) rfl (by rw [hml]; rfl) (Steps.refl _) (argsL := [(.long q0)]) (rest := []) (lenOf pd_14 rfl) rfl (by show 2 * 0 + _ ≤ _; exact Nat.le_of_eq rfl) (hb hby at_154) (fun _ _ => ⟨rfl, eh108, (by decide : 8 + 0 ≤ _), (by decide : 32 + 0 ≤ _)⟩)
      dsimp only [Pt.U, Pt.locs, Pt.cells, Pt.slots] at X124 l124 y124 z124 st124 hQ124
      subst l124 y124 z124
      obtain ⟨rfl, Nq124, Kc124, Fu2_124, P_oa_size_124, P_oa_committed_124, P_oa_committedAhead_124, P_oa_next_124, P_oa_finished_124, P_oa_restart_124, P_oa_consumed_124, P_oa_consumedAt_124, P_oa_left_124, P_oa_failing_124, P_oa_committedFailures_124⟩ := hQ124
      have N124 := Fr.app N108 Nq124
      have K124 : Keep h0 T124.heap [] := K94.trans Kc124 (allS (Or.inr sz_b5) all0)
      have sz124 : n0 ≤ T124.heap.size := Nat.le_trans (Nat.le_trans Z0 K94.1) Kc124.1
      have pre125 : ∀ t, own_K p e below m T124 158 #[iv p1, iv p2, lv p3, .second, iv xz, lv q0, .second, rv b5, iv (1 : Int32), iv xt, iv v118, .unset, .unset, .unset, .unset] [] t → G t := by
        intro t k
        refine pre121 t ?_
        show own_K p e below m T108 147 #[iv p1, iv p2, lv p3, .second, iv xz, lv q0, .second, rv b5, iv (1 : Int32), iv xt, iv v118, .unset, .unset, .unset, .unset] [(.int v118)] _
        refine XS.ifNo X108.here hx rfl (hb hby at_147) rfl ((if0 _ _).trans (feq hc147_122).1) ?_
        show own_K p e below m T108 150 #[iv p1, iv p2, lv p3, .second, iv xz, lv q0, .second, rv b5, iv (1 : Int32), iv xt, iv v118, .unset, .unset, .unset, .unset] [] _
        refine XS.aload X108.here hx rfl (hb hby at_150) rfl rfl ?_
        show own_K p e below m T108 152 #[iv p1, iv p2, lv p3, .second, iv xz, lv q0, .second, rv b5, iv (1 : Int32), iv xt, iv v118, .unset, .unset, .unset, .unset] [(.ref b5)] _
        refine XS.lload X108.here hx rfl (hb hby at_152) rfl ?_
        show own_K p e below m T108 154 #[iv p1, iv p2, lv p3, .second, iv xz, lv q0, .second, rv b5, iv (1 : Int32), iv xt, iv v118, .unset, .unset, .unset, .unset] [(.long q0), (.ref b5)] _
        refine st124.trans ?_
        show own_K p e below m T124 157 #[iv p1, iv p2, lv p3, .second, iv xz, lv q0, .second, rv b5, iv (1 : Int32), iv xt, iv v118, .unset, .unset, .unset, .unset] [(.int (1 : Int32))] _
        refine XS.pop X124.here hx rfl (hb hby at_157) rfl rfl ?_
        exact k
      have f128 : Old Z n0 T124.heap := (j94_0.keep Kc124 (allS ge_b5 all0))
      have f129 : Exa Z T124.heap b5 "evenkeel/client/Window" := (j94_1.keep Kc124)
      have f130 : Exa Z T124.heap bf25 "java/util/BitSet" := (j94_14.keep Kc124)
      have f131 : Fld Z T124.heap bf25 "java/util/BitSet" "wordsInUse" "I" (.int (0 : Int32)) := (j94_15.keep Kc124 (ninS (Ne.symm ne_b5_bf25) nin0))
      have f132 : Fld Z T124.heap bf25 "java/util/BitSet" "sizeIsSticky" "Z" (.int (0 : Int32)) := (j94_16.keep Kc124 (ninS (Ne.symm ne_b5_bf25) nin0))
      have f133 : Fld Z T124.heap bf25 "java/util/BitSet" "words" "[J" (.ref wf25) := (j94_17.keep Kc124 (ninS (Ne.symm ne_b5_bf25) nin0))
      have f134 : Arv Z T124.heap wf25 kf25 .long (1 : Int32) [(.long (0 : Int64))] (.long (0 : Int64)) := (j94_18.keep Kc124 (ninS (Ne.symm ne_b5_wf25) nin0))
      have f135 : Exa Z T124.heap bl25 "java/util/BitSet" := (j94_19.keep Kc124)
      have f136 : Fld Z T124.heap bl25 "java/util/BitSet" "wordsInUse" "I" (.int (0 : Int32)) := (j94_20.keep Kc124 (ninS (Ne.symm ne_b5_bl25) nin0))
      have f137 : Fld Z T124.heap bl25 "java/util/BitSet" "sizeIsSticky" "Z" (.int (0 : Int32)) := (j94_21.keep Kc124 (ninS (Ne.symm ne_b5_bl25) nin0))
      have f138 : Fld Z T124.heap bl25 "java/util/BitSet" "words" "[J" (.ref wl25) := (j94_22.keep Kc124 (ninS (Ne.symm ne_b5_bl25) nin0))
      have f139 : Arv Z T124.heap wl25 kl25 .long (1 : Int32) [(.long (0 : Int64))] (.long (0 : Int64)) := (j94_23.keep Kc124 (ninS (Ne.symm ne_b5_wl25) nin0))
      have hq := True.intro
      obtain rfl : v127 = (q0 + (1 : Int64)) := by simp only [hv127, if_neg hc147_122]
      exact ⟨_, _, _, X124, N124, rfl, K124, f128, f129, P_oa_committedAhead_124, P_oa_finished_124, P_oa_restart_124, P_oa_left_124, P_oa_size_124, P_oa_committed_124, Fu2_124, P_oa_next_124, P_oa_consumed_124, P_oa_committedFailures_124, P_oa_consumedAt_124, P_oa_failing_124, f130, f131, f132, f133, f134, f135, f136, f137, f138, f139, fun t k => pre125 t k⟩
  have hun := own_unf (q := q0) hdN hdb hv127 hq62
  have pre140 : ∀ t, own_K p e below m T126 160 #[iv p1, iv p2, lv p3, .second, iv xz, lv q0, .second, rv b5, iv (1 : Int32), iv xt, iv v118, .unset, .unset, .unset, .unset] [(.int v118)] t → G t := by
    intro t k
    refine pre126 t ?_
    show own_K p e below m T126 158 #[iv p1, iv p2, lv p3, .second, iv xz, lv q0, .second, rv b5, iv (1 : Int32), iv xt, iv v118, .unset, .unset, .unset, .unset] [] _
    refine XS.iload X126.here hx rfl (hb hby at_158) rfl ?_
    exact k
  obtain ⟨v144, hv144⟩ : ∃ z : Int32, z = (if v118 = (0 : Int32) then (0 : Int32) else (1 : Int32)) := ⟨_, rfl⟩
  have pre145 : ∀ t, own_K p e below m T126 168 #[iv p1, iv p2, lv p3, .second, iv xz, lv q0, .second, rv b5, iv (1 : Int32), iv xt, iv v118, .unset, .unset, .unset, .unset] [(.int v144)] t → G t := by
    by_cases hc160_141 : v118 = (0 : Int32)
    · have pre142 : ∀ t, own_K p e below m T126 168 #[iv p1, iv p2, lv p3, .second, iv xz, lv q0, .second, rv b5, iv (1 : Int32), iv xt, iv v118, .unset, .unset, .unset, .unset] [(.int (0 : Int32))] t → G t := by
        intro t k
        refine pre140 t ?_
        show own_K p e below m T126 160 #[iv p1, iv p2, lv p3, .second, iv xz, lv q0, .second, rv b5, iv (1 : Int32), iv xt, iv v118, .unset, .unset, .unset, .unset] [(.int v118)] _
        refine XS.ifYes X126.here hx rfl (pc0 := 160) (pc' := 167) rfl (hb hby at_160) rfl ((if0 _ _).trans (teq hc160_141).1) (by decide) (by decide) ?_
        show own_K p e below m T126 167 #[iv p1, iv p2, lv p3, .second, iv xz, lv q0, .second, rv b5, iv (1 : Int32), iv xt, iv v118, .unset, .unset, .unset, .unset] [] _
        refine XS.iconst X126.here hx rfl (hb hby at_167) ?_
        exact k
      have hq := True.intro
      obtain rfl : v144 = (0 : Int32) := by simp only [hv144, if_pos hc160_141]
      exact fun t k => pre142 t k
    · have pre143 : ∀ t, own_K p e below m T126 168 #[iv p1, iv p2, lv p3, .second, iv xz, lv q0, .second, rv b5, iv (1 : Int32), iv xt, iv v118, .unset, .unset, .unset, .unset] [(.int (1 : Int32))] t → G t := by
        intro t k
        refine pre140 t ?_
        show own_K p e below m T126 160 #[iv p1, iv p2, lv p3, .second, iv xz, lv q0, .second, rv b5, iv (1 : Int32), iv xt, iv v118, .unset, .unset, .unset, .unset] [(.int v118)] _
        refine XS.ifNo X126.here hx rfl (hb hby at_160) rfl ((if0 _ _).trans (feq hc160_141).1) ?_
        show own_K p e below m T126 163 #[iv p1, iv p2, lv p3, .second, iv xz, lv q0, .second, rv b5, iv (1 : Int32), iv xt, iv v118, .unset, .unset, .unset, .unset] [] _
        refine XS.iconst X126.here hx rfl (hb hby at_163) ?_
        show own_K p e below m T126 164 #[iv p1, iv p2, lv p3, .second, iv xz, lv q0, .second, rv b5, iv (1 : Int32), iv xt, iv v118, .unset, .unset, .unset, .unset] [(.int (1 : Int32))] _
        refine XS.goto X126.here hx rfl (pc0 := 164) (pc' := 168) rfl (hb hby at_164) (by decide) (by decide) ?_
        exact k
      have hq := True.intro
      obtain rfl : v144 = (1 : Int32) := by simp only [hv144, if_neg hc160_141]
      exact fun t k => pre143 t k
  have pre146 : ∀ t, own_K p e below m T126 170 #[iv p1, iv p2, lv p3, .second, iv xz, lv q0, .second, rv b5, iv (1 : Int32), iv xt, iv v118, iv v144, .unset, .unset, .unset] [] t → G t := by
    intro t k
    refine pre145 t ?_
    show own_K p e below m T126 168 #[iv p1, iv p2, lv p3, .second, iv xz, lv q0, .second, rv b5, iv (1 : Int32), iv xt, iv v118, .unset, .unset, .unset, .unset] [(.int v144)] _
    refine XS.istore X126.here hx rfl (hb hby at_168) rfl (l' := #[iv p1, iv p2, lv p3, .second, iv xz, lv q0, .second, rv b5, iv (1 : Int32), iv xt, iv v118, iv v144, .unset, .unset, .unset]) rfl ?_
    exact k
  have hdn := own_done hdN hdb hv144
  obtain ⟨cq147, kq147, q147a, q147b, q147c⟩ := isOf hZ e126 j126_1
  obtain ⟨_, _, ⟨T147, L147, k147, n147⟩, -, X147, ⟨Lc147, hQ147, l147, y147, z147⟩, st147⟩ := X126.virtualBack hx (y := (⟨"evenkeel/client/Window", "room", "()I"⟩ : MethodName)) (z := (⟨"evenkeel/client/Window", "room", "()I"⟩ : MethodName)) hown (mvT hZ (hw _ (List.mem_of_getElem? (i := 167) rfl))) (mvT hZ (hw _ (List.mem_of_getElem? (i := 168) rfl))) (notFace_of_selects (args := #[]) (mvT hZ (hw _ (List.mem_of_getElem? (i := 170) rfl)))) (mvT hZ (hw _ (List.mem_of_getElem? (i := 170) rfl))) (mvT hZ (hw _ (List.mem_of_getElem? (i := 169) rfl))) (by decide) (backOf (W := 0) (rm20 l Z a0 hw [] b5 (-1 : Int64) xz v95 q0 h126 n0 (Nat.le_trans Z0 K126.1) j126_4 j126_6 j126_9 j126_7) hZ (hw _ (List.mem_of_getElem? (i := 171) rfl)) (hw _ (List.mem_of_getElem? (i := 3) rfl)) (by decide) (by decide)) q147a q147c (g := (mkF m 177 #[iv p1, iv p2, lv p3, .second, iv xz, lv q0, .second, rv b5, iv (1 : Int32), iv xt, iv v118, iv v144, .unset, .unset, .unset] [(.ref b5)])) rfl (by rw [hml]; rfl) (Steps.refl _) (argsL := []) (rest := []) (lenOf pd_1 rfl) rfl (by show 2 * 0 + _ ≤ _; exact Nat.le_of_eq rfl) (hb hby at_177) (fun _ _ => ⟨rfl, e126, (by decide : 8 + 0 ≤ _), (by decide : 32 + 0 ≤ _)⟩)
  dsimp only [Pt.U, Pt.locs, Pt.cells, Pt.slots] at X147 l147 y147 z147 st147 hQ147
  subst l147 y147 z147
  obtain ⟨rfl, Nq147, eh147⟩ := hQ147
  have N147 := Fr.app N126 Nq147
  have pre148 : ∀ t, own_K p e below m T147 180 #[iv p1, iv p2, lv p3, .second, iv xz, lv q0, .second, rv b5, iv (1 : Int32), iv xt, iv v118, iv v144, .unset, .unset, .unset] [(.int (if (-1 : Int64) < (0 : Int64) then (((xz.toInt64) - (v95 - q0)).toInt32) else (0 : Int32)))] t → G t := by
    intro t k
    refine pre146 t ?_
    show own_K p e below m T126 170 #[iv p1, iv p2, lv p3, .second, iv xz, lv q0, .second, rv b5, iv (1 : Int32), iv xt, iv v118, iv v144, .unset, .unset, .unset] [] _
    refine XS.iload X126.here hx rfl (hb hby at_170) rfl ?_
    show own_K p e below m T126 172 #[iv p1, iv p2, lv p3, .second, iv xz, lv q0, .second, rv b5, iv (1 : Int32), iv xt, iv v118, iv v144, .unset, .unset, .unset] [(.int (1 : Int32))] _
    refine XS.ifNo X126.here hx rfl (hb hby at_172) rfl ((if0 _ _).trans (feq (by decide : ¬ ((1 : Int32) = (0 : Int32)))).1) ?_
    show own_K p e below m T126 175 #[iv p1, iv p2, lv p3, .second, iv xz, lv q0, .second, rv b5, iv (1 : Int32), iv xt, iv v118, iv v144, .unset, .unset, .unset] [] _
    refine XS.aload X126.here hx rfl (hb hby at_175) rfl rfl ?_
    show own_K p e below m T126 177 #[iv p1, iv p2, lv p3, .second, iv xz, lv q0, .second, rv b5, iv (1 : Int32), iv xt, iv v118, iv v144, .unset, .unset, .unset] [(.ref b5)] _
    refine st147.trans ?_
    exact k
  obtain ⟨r3, hr3⟩ : ∃ z : Int32, z = (if (-1 : Int64) < (0 : Int64) then (((xz.toInt64) - (v95 - q0)).toInt32) else (0 : Int32)) := ⟨_, rfl⟩
  have pre149 : ∀ t, own_K p e below m T147 180 #[iv p1, iv p2, lv p3, .second, iv xz, lv q0, .second, rv b5, iv (1 : Int32), iv xt, iv v118, iv v144, .unset, .unset, .unset] [(.int r3)] t → G t := fun t k => pre148 t (by rw [hr3] at k; exact k)
  obtain ⟨T150, h150, X150, e150, E150, A150, D150, -, st150⟩ := newO X147 hx hZ hown (hw _ (List.mem_of_getElem? (i := 189) rfl)) (hw _ (List.mem_of_getElem? (i := 190) rfl)) (hw _ (List.mem_of_getElem? (i := 191) rfl)) eh147 (g := (mkF m 203 #[iv p1, iv p2, lv p3, .second, iv xz, lv q0, .second, rv b5, iv (1 : Int32), iv xt, iv v118, iv v144, .unset, .unset, .unset] [(.long (q0 + (v144.toInt64))), (.ref b5)])) rfl (hb hby at_203) (by decide) (by decide)
  obtain ⟨b150, g150⟩ : ∃ z, z = h126.size := ⟨_, rfl⟩
  rw [← g150] at A150 D150 st150
  have ne150_b5 : b5 ≠ b150 := Nat.ne_of_lt (Nat.lt_of_lt_of_le j126_1.lt (Nat.le_of_eq g150.symm))
  have ne150_bf25 : bf25 ≠ b150 := Nat.ne_of_lt (Nat.lt_of_lt_of_le j126_14.lt (Nat.le_of_eq g150.symm))
  have ne150_wf25 : wf25 ≠ b150 := Nat.ne_of_lt (Nat.lt_of_lt_of_le j126_18.lt (Nat.le_of_eq g150.symm))
  have ne150_bl25 : bl25 ≠ b150 := Nat.ne_of_lt (Nat.lt_of_lt_of_le j126_19.lt (Nat.le_of_eq g150.symm))
  have ne150_wl25 : wl25 ≠ b150 := Nat.ne_of_lt (Nat.lt_of_lt_of_le j126_23.lt (Nat.le_of_eq g150.symm))
  have ge_b150 : n0 ≤ b150 := Nat.le_trans (Nat.le_trans Z0 K126.1) (Nat.le_of_eq g150.symm)
  have sz_b150 : h0.size ≤ b150 := Nat.le_trans K126.1 (Nat.le_of_eq g150.symm)
  have K150 : Keep h0 h150 [] := K126.ext E150
  have sz150 : n0 ≤ h150.size := Nat.le_trans (Nat.le_trans Z0 K126.1) E150.1
  have f151 : Fld Z h150 b150 "java/util/AbstractList" "modCount" "I" (.int (0 : Int32)) := D150 (Or.inl (hw _ (List.mem_of_getElem? (i := 209) rfl))) (ty := .int) (by decide)
  have f152 : Fld Z h150 b150 "java/util/ArrayList" "elementData" "[Ljava/lang/Object;" .null := D150 (Or.inl (hw _ (List.mem_of_getElem? (i := 212) rfl))) (ty := (.array (.object "java/lang/Object"))) (by decide)
  have f154 : Old Z n0 h150 := (j126_0.ext E150)
  obtain ⟨_, _, ⟨T153, L153, k153, n153⟩, -, X153, ⟨Lc153, hQ153, l153, y153, z153⟩, st153⟩ := X150.specialBack hx (y := (⟨"java/util/ArrayList", "<init>", "()V"⟩ : MethodName)) rfl hown (mvT hZ (hw _ (List.mem_of_getElem? (i := 192) rfl))) (mvT hZ (hw _ (List.mem_of_getElem? (i := 193) rfl))) (mvT hZ (hw _ (List.mem_of_getElem? (i := 194) rfl))) (by decide) (backOf (W := 4) (rm23 l Z a0 hw [] b150 (.int (0 : Int32)) .null da h150 n0 sz150 A150 f151 f152 ge_b150 f154 SD) hZ (hw _ (List.mem_of_getElem? (i := 194) rfl)) (hw _ (List.mem_of_getElem? (i := 191) rfl)) (by decide) (by decide)) (g := (mkF m 207 #[iv p1, iv p2, lv p3, .second, iv xz, lv q0, .second, rv b5, iv (1 : Int32), iv xt, iv v118, iv v144, .unset, .unset, .unset] [(.ref b150), (.ref b150), (.long (q0 + (v144.toInt64))), (.ref b5)])) rfl (by rw [hml]; rfl) (Steps.refl _) (a := b150) (argsL := []) (rest := [(.ref b150), (.long (q0 + (v144.toInt64))), (.ref b5)]) (lenOf pd_3 rfl) rfl (by show 2 * 0 + _ ≤ _; exact Nat.le_of_eq rfl) (hb hby at_207) (fun _ _ => ⟨rfl, e150, (by decide : 9 + 0 ≤ _), (by decide : 35 + 0 ≤ _)⟩)
  dsimp only [Pt.U, Pt.locs, Pt.cells, Pt.slots] at X153 l153 y153 z153 st153 hQ153
  subst l153 y153 z153
  obtain ⟨rfl, Nq153, Kc153⟩ := hQ153
  have N153 := Fr.app N147 Nq153
  have K153 : Keep h0 T153.heap [] := K150.trans Kc153 (allS (Or.inr sz_b150) all0)
  have sz153 : n0 ≤ T153.heap.size := Nat.le_trans sz150 Kc153.1
  obtain ⟨T155, h155, X155, e155, E155, A155, D155, -, st155⟩ := newO X153 hx hZ hown (hw _ (List.mem_of_getElem? (i := 189) rfl)) (hw _ (List.mem_of_getElem? (i := 190) rfl)) (hw _ (List.mem_of_getElem? (i := 191) rfl)) rfl (g := (mkF m 210 #[iv p1, iv p2, lv p3, .second, iv xz, lv q0, .second, rv b5, iv (1 : Int32), iv xt, iv v118, iv v144, .unset, .unset, .unset] [(.ref b150), (.long (q0 + (v144.toInt64))), (.ref b5)])) rfl (hb hby at_210) (by decide) (by decide)
  obtain ⟨b155, g155⟩ : ∃ z, z = T153.heap.size := ⟨_, rfl⟩
  rw [← g155] at A155 D155 st155
  have f156 : Exa Z T153.heap b5 "evenkeel/client/Window" := ((j126_1.ext E150).keep Kc153)
  have ne155_b5 : b5 ≠ b155 := Nat.ne_of_lt (Nat.lt_of_lt_of_le f156.lt (Nat.le_of_eq g155.symm))
  have f157 : Exa Z T153.heap bf25 "java/util/BitSet" := ((j126_14.ext E150).keep Kc153)
  have ne155_bf25 : bf25 ≠ b155 := Nat.ne_of_lt (Nat.lt_of_lt_of_le f157.lt (Nat.le_of_eq g155.symm))
  have f158 : Arv Z T153.heap wf25 kf25 .long (1 : Int32) [(.long (0 : Int64))] (.long (0 : Int64)) := ((j126_18.ext E150).keep Kc153 (ninS ne150_wf25 nin0))
  have ne155_wf25 : wf25 ≠ b155 := Nat.ne_of_lt (Nat.lt_of_lt_of_le f158.lt (Nat.le_of_eq g155.symm))
  have f159 : Exa Z T153.heap bl25 "java/util/BitSet" := ((j126_19.ext E150).keep Kc153)
  have ne155_bl25 : bl25 ≠ b155 := Nat.ne_of_lt (Nat.lt_of_lt_of_le f159.lt (Nat.le_of_eq g155.symm))
  have f160 : Arv Z T153.heap wl25 kl25 .long (1 : Int32) [(.long (0 : Int64))] (.long (0 : Int64)) := ((j126_23.ext E150).keep Kc153 (ninS ne150_wl25 nin0))
  have ne155_wl25 : wl25 ≠ b155 := Nat.ne_of_lt (Nat.lt_of_lt_of_le f160.lt (Nat.le_of_eq g155.symm))
  have f161 : Exa Z T153.heap b150 "java/util/ArrayList" := (A150.keep Kc153)
  have ne155_b150 : b150 ≠ b155 := Nat.ne_of_lt (Nat.lt_of_lt_of_le f161.lt (Nat.le_of_eq g155.symm))
  have ge_b155 : n0 ≤ b155 := Nat.le_trans sz153 (Nat.le_of_eq g155.symm)
  have sz_b155 : h0.size ≤ b155 := Nat.le_trans K153.1 (Nat.le_of_eq g155.symm)
  have K155 : Keep h0 h155 [] := K153.ext E155
  have sz155 : n0 ≤ h155.size := Nat.le_trans sz153 E155.1
  have f162 : Fld Z h155 b155 "java/util/AbstractList" "modCount" "I" (.int (0 : Int32)) := D155 (Or.inl (hw _ (List.mem_of_getElem? (i := 209) rfl))) (ty := .int) (by decide)
  have f163 : Fld Z h155 b155 "java/util/ArrayList" "elementData" "[Ljava/lang/Object;" .null := D155 (Or.inl (hw _ (List.mem_of_getElem? (i := 212) rfl))) (ty := (.array (.object "java/lang/Object"))) (by decide)
  have f165 : Old Z n0 h155 := ((f154.keep Kc153 (allS ge_b150 all0)).ext E155)
  obtain ⟨_, _, ⟨T164, L164, k164, n164⟩, -, X164, ⟨Lc164, hQ164, l164, y164, z164⟩, st164⟩ := X155.specialBack hx (y := (⟨"java/util/ArrayList", "<init>", "()V"⟩ : MethodName)) rfl hown (mvT hZ (hw _ (List.mem_of_getElem? (i := 192) rfl))) (mvT hZ (hw _ (List.mem_of_getElem? (i := 193) rfl))) (mvT hZ (hw _ (List.mem_of_getElem? (i := 194) rfl))) (by decide) (backOf (W := 5) (rm23 l Z a0 hw [] b155 (.int (0 : Int32)) .null da h155 n0 sz155 A155 f162 f163 ge_b155 f165 SD) hZ (hw _ (List.mem_of_getElem? (i := 194) rfl)) (hw _ (List.mem_of_getElem? (i := 191) rfl)) (by decide) (by decide)) (g := (mkF m 214 #[iv p1, iv p2, lv p3, .second, iv xz, lv q0, .second, rv b5, iv (1 : Int32), iv xt, iv v118, iv v144, .unset, .unset, .unset] [(.ref b155), (.ref b155), (.ref b150), (.long (q0 + (v144.toInt64))), (.ref b5)])) rfl (by rw [hml]; rfl) (Steps.refl _) (a := b155) (argsL := []) (rest := [(.ref b155), (.ref b150), (.long (q0 + (v144.toInt64))), (.ref b5)]) (lenOf pd_3 rfl) rfl (by show 2 * 0 + _ ≤ _; exact Nat.le_of_eq rfl) (hb hby at_214) (fun _ _ => ⟨rfl, e155, (by decide : 10 + 0 ≤ _), (by decide : 38 + 0 ≤ _)⟩)
  dsimp only [Pt.U, Pt.locs, Pt.cells, Pt.slots] at X164 l164 y164 z164 st164 hQ164
  subst l164 y164 z164
  obtain ⟨rfl, Nq164, Kc164⟩ := hQ164
  have N164 := Fr.app N153 Nq164
  have K164 : Keep h0 T164.heap [] := K155.trans Kc164 (allS (Or.inr sz_b155) all0)
  have sz164 : n0 ≤ T164.heap.size := Nat.le_trans sz155 Kc164.1
  have f167 : Exa Z T164.heap b5 "evenkeel/client/Window" := ((f156.ext E155).keep Kc164)
  have f168 : Fld Z T164.heap b5 "evenkeel/client/Window" "size" "I" (.int xz) := ((((j126_6.ext E150).keep Kc153 (ninS ne150_b5 nin0)).ext E155).keep Kc164 (ninS ne155_b5 nin0))
  have f169 : Fld Z T164.heap b5 "evenkeel/client/Window" "committed" "J" (.long q0) := ((((j126_7.ext E150).keep Kc153 (ninS ne150_b5 nin0)).ext E155).keep Kc164 (ninS ne155_b5 nin0))
  have f170 : Fld Z T164.heap b5 "evenkeel/client/Window" "committedAhead" "Ljava/util/List;" (.ref el) := ((((j126_2.ext E150).keep Kc153 (ninS ne150_b5 nin0)).ext E155).keep Kc164 (ninS ne155_b5 nin0))
  have f171 : Fld Z T164.heap b5 "evenkeel/client/Window" "unfinished" "J" (.long v127) := ((((j126_8.ext E150).keep Kc153 (ninS ne150_b5 nin0)).ext E155).keep Kc164 (ninS ne155_b5 nin0))
  have f172 : Fld Z T164.heap b5 "evenkeel/client/Window" "next" "J" (.long v95) := ((((j126_9.ext E150).keep Kc153 (ninS ne150_b5 nin0)).ext E155).keep Kc164 (ninS ne155_b5 nin0))
  have f173 : Fld Z T164.heap b5 "evenkeel/client/Window" "finished" "Ljava/util/BitSet;" (.ref bf25) := ((((j126_3.ext E150).keep Kc153 (ninS ne150_b5 nin0)).ext E155).keep Kc164 (ninS ne155_b5 nin0))
  have f174 : Fld Z T164.heap b5 "evenkeel/client/Window" "restart" "J" (.long (-1 : Int64)) := ((((j126_4.ext E150).keep Kc153 (ninS ne150_b5 nin0)).ext E155).keep Kc164 (ninS ne155_b5 nin0))
  have f175 : Fld Z T164.heap b5 "evenkeel/client/Window" "consumed" "Ljava/util/List;" (.ref el) := ((((j126_10.ext E150).keep Kc153 (ninS ne150_b5 nin0)).ext E155).keep Kc164 (ninS ne155_b5 nin0))
  have f176 : Fld Z T164.heap b5 "evenkeel/client/Window" "consumedAt" "I" (.int (0 : Int32)) := ((((j126_12.ext E150).keep Kc153 (ninS ne150_b5 nin0)).ext E155).keep Kc164 (ninS ne155_b5 nin0))
  have f177 : Fld Z T164.heap b5 "evenkeel/client/Window" "left" "Ljava/util/BitSet;" (.ref bl25) := ((((j126_5.ext E150).keep Kc153 (ninS ne150_b5 nin0)).ext E155).keep Kc164 (ninS ne155_b5 nin0))
  have f178 : Fld Z T164.heap b5 "evenkeel/client/Window" "failing" "Ljava/util/TreeMap;" .null := ((((j126_13.ext E150).keep Kc153 (ninS ne150_b5 nin0)).ext E155).keep Kc164 (ninS ne155_b5 nin0))
  have f179 : Fld Z T164.heap b5 "evenkeel/client/Window" "committedFailures" "Ljava/util/List;" (.ref el) := ((((j126_11.ext E150).keep Kc153 (ninS ne150_b5 nin0)).ext E155).keep Kc164 (ninS ne155_b5 nin0))
  obtain ⟨cq166, kq166, q166a, q166b, q166c⟩ := isOf hZ rfl f167
  obtain ⟨_, _, ⟨T166, L166, k166, n166⟩, -, X166, ⟨Lc166, hQ166, l166, y166, z166⟩, st166⟩ := X164.virtualBack hx (y := (⟨"evenkeel/client/Window", "committed", "(JLjava/util/List;Ljava/util/List;)V"⟩ : MethodName)) (z := (⟨"evenkeel/client/Window", "committed", "(JLjava/util/List;Ljava/util/List;)V"⟩ : MethodName)) hown (mvT hZ (hw _ (List.mem_of_getElem? (i := 213) rfl))) (mvT hZ (hw _ (List.mem_of_getElem? (i := 214) rfl))) (notFace_of_selects (args := #[]) (mvT hZ (hw _ (List.mem_of_getElem? (i := 216) rfl)))) (mvT hZ (hw _ (List.mem_of_getElem? (i := 216) rfl))) (mvT hZ (hw _ (List.mem_of_getElem? (i := 215) rfl))) (by decide) (backOf (W := 0) (rm26 l Z a0 hw [] b5 (q0 + (v144.toInt64)) b150 b155 (.int xz) (.long q0) (.ref el) (.long v127) (.long v95) (.ref bf25) (.long (-1 : Int64)) (.ref el) (.int (0 : Int32)) (.ref bl25) .null (.ref el) T164.heap n0 sz164 f167 ge_b5 f168 f169 f170 f171 f172 f173 f174 f175 f176 f177 f178 f179) hZ (hw _ (List.mem_of_getElem? (i := 217) rfl)) (hw _ (List.mem_of_getElem? (i := 3) rfl)) (by decide) (by decide)) q166a q166c (g := (mkF m 217 #[iv p1, iv p2, lv p3, .second, iv xz, lv q0, .second, rv b5, iv (1 : Int32), iv xt, iv v118, iv v144, .unset, .unset, .unset] [(.ref b155), (.ref b150), (.long (q0 + (v144.toInt64))), (.ref b5)])) rfl (by rw [hml]; rfl) (Steps.refl _) (argsL := [(.long (q0 + (v144.toInt64))), (.ref b150), (.ref b155)]) (rest := []) (lenOf pd_18 rfl) rfl (by show 2 * 0 + _ ≤ _; exact Nat.le_of_eq rfl) (hb hby at_217) (fun _ _ => ⟨rfl, rfl, (by decide : 10 + 0 ≤ _), (by decide : 38 + 0 ≤ _)⟩)
  dsimp only [Pt.U, Pt.locs, Pt.cells, Pt.slots] at X166 l166 y166 z166 st166 hQ166
  subst l166 y166 z166
  obtain ⟨rfl, Nq166, Kc166, Fc2_166, Fa2_166, Fb2_166, P_oa_size_166, P_oa_unfinished_166, P_oa_next_166, P_oa_finished_166, P_oa_restart_166, P_oa_consumed_166, P_oa_consumedAt_166, P_oa_left_166, P_oa_failing_166⟩ := hQ166
  have N166 := Fr.app N164 Nq166
  have K166 : Keep h0 T166.heap [] := K164.trans Kc166 (allS (Or.inr sz_b5) all0)
  have sz166 : n0 ≤ T166.heap.size := Nat.le_trans sz164 Kc166.1
  have pre180 : ∀ t, own_K p e below m T166 220 #[iv p1, iv p2, lv p3, .second, iv xz, lv q0, .second, rv b5, iv (1 : Int32), iv xt, iv v118, iv v144, .unset, .unset, .unset] [] t → G t := by
    intro t k
    refine pre149 t ?_
    show own_K p e below m T147 180 #[iv p1, iv p2, lv p3, .second, iv xz, lv q0, .second, rv b5, iv (1 : Int32), iv xt, iv v118, iv v144, .unset, .unset, .unset] [(.int r3)] _
    refine XS.iload X147.here hx rfl (hb hby at_180) rfl ?_
    show own_K p e below m T147 182 #[iv p1, iv p2, lv p3, .second, iv xz, lv q0, .second, rv b5, iv (1 : Int32), iv xt, iv v118, iv v144, .unset, .unset, .unset] [(.int xz), (.int r3)] _
    refine XS.iload X147.here hx rfl (hb hby at_182) rfl ?_
    show own_K p e below m T147 184 #[iv p1, iv p2, lv p3, .second, iv xz, lv q0, .second, rv b5, iv (1 : Int32), iv xt, iv v118, iv v144, .unset, .unset, .unset] [(.int xt), (.int xz), (.int r3)] _
    refine XS.isub X147.here hx rfl (hb hby at_184) rfl ?_
    show own_K p e below m T147 185 #[iv p1, iv p2, lv p3, .second, iv xz, lv q0, .second, rv b5, iv (1 : Int32), iv xt, iv v118, iv v144, .unset, .unset, .unset] [(.int (xz - xt)), (.int r3)] _
    refine XS.icmpNo X147.here hx rfl (hb hby at_185) rfl (teq (hr3.trans (own_room2 hzb htN htb hnx hq62))).2 ?_
    show own_K p e below m T147 188 #[iv p1, iv p2, lv p3, .second, iv xz, lv q0, .second, rv b5, iv (1 : Int32), iv xt, iv v118, iv v144, .unset, .unset, .unset] [] _
    refine XS.iconst X147.here hx rfl (hb hby at_188) ?_
    show own_K p e below m T147 189 #[iv p1, iv p2, lv p3, .second, iv xz, lv q0, .second, rv b5, iv (1 : Int32), iv xt, iv v118, iv v144, .unset, .unset, .unset] [(.int (1 : Int32))] _
    refine XS.goto X147.here hx rfl (pc0 := 189) (pc' := 193) rfl (hb hby at_189) (by decide) (by decide) ?_
    show own_K p e below m T147 193 #[iv p1, iv p2, lv p3, .second, iv xz, lv q0, .second, rv b5, iv (1 : Int32), iv xt, iv v118, iv v144, .unset, .unset, .unset] [(.int (1 : Int32))] _
    refine XS.istore X147.here hx rfl (hb hby at_193) rfl (l' := #[iv p1, iv p2, lv p3, .second, iv xz, lv q0, .second, rv b5, iv (1 : Int32), iv xt, iv v118, iv v144, .unset, .unset, .unset]) rfl ?_
    show own_K p e below m T147 195 #[iv p1, iv p2, lv p3, .second, iv xz, lv q0, .second, rv b5, iv (1 : Int32), iv xt, iv v118, iv v144, .unset, .unset, .unset] [] _
    refine XS.aload X147.here hx rfl (hb hby at_195) rfl rfl ?_
    show own_K p e below m T147 197 #[iv p1, iv p2, lv p3, .second, iv xz, lv q0, .second, rv b5, iv (1 : Int32), iv xt, iv v118, iv v144, .unset, .unset, .unset] [(.ref b5)] _
    refine XS.lload X147.here hx rfl (hb hby at_197) rfl ?_
    show own_K p e below m T147 199 #[iv p1, iv p2, lv p3, .second, iv xz, lv q0, .second, rv b5, iv (1 : Int32), iv xt, iv v118, iv v144, .unset, .unset, .unset] [(.long q0), (.ref b5)] _
    refine XS.iload X147.here hx rfl (hb hby at_199) rfl ?_
    show own_K p e below m T147 201 #[iv p1, iv p2, lv p3, .second, iv xz, lv q0, .second, rv b5, iv (1 : Int32), iv xt, iv v118, iv v144, .unset, .unset, .unset] [(.int v144), (.long q0), (.ref b5)] _
    refine XS.i2l X147.here hx rfl (hb hby at_201) rfl ?_
    show own_K p e below m T147 202 #[iv p1, iv p2, lv p3, .second, iv xz, lv q0, .second, rv b5, iv (1 : Int32), iv xt, iv v118, iv v144, .unset, .unset, .unset] [(.long (v144.toInt64)), (.long q0), (.ref b5)] _
    refine XS.ladd X147.here hx rfl (hb hby at_202) rfl ?_
    show own_K p e below m T147 203 #[iv p1, iv p2, lv p3, .second, iv xz, lv q0, .second, rv b5, iv (1 : Int32), iv xt, iv v118, iv v144, .unset, .unset, .unset] [(.long (q0 + (v144.toInt64))), (.ref b5)] _
    refine st150 _ ?_
    show own_K p e below m T150 206 #[iv p1, iv p2, lv p3, .second, iv xz, lv q0, .second, rv b5, iv (1 : Int32), iv xt, iv v118, iv v144, .unset, .unset, .unset] [(.ref b150), (.long (q0 + (v144.toInt64))), (.ref b5)] _
    refine XS.dup X150.here hx rfl (hb hby at_206) rfl rfl ?_
    show own_K p e below m T150 207 #[iv p1, iv p2, lv p3, .second, iv xz, lv q0, .second, rv b5, iv (1 : Int32), iv xt, iv v118, iv v144, .unset, .unset, .unset] [(.ref b150), (.ref b150), (.long (q0 + (v144.toInt64))), (.ref b5)] _
    refine st153.trans ?_
    show own_K p e below m T153 210 #[iv p1, iv p2, lv p3, .second, iv xz, lv q0, .second, rv b5, iv (1 : Int32), iv xt, iv v118, iv v144, .unset, .unset, .unset] [(.ref b150), (.long (q0 + (v144.toInt64))), (.ref b5)] _
    refine st155 _ ?_
    show own_K p e below m T155 213 #[iv p1, iv p2, lv p3, .second, iv xz, lv q0, .second, rv b5, iv (1 : Int32), iv xt, iv v118, iv v144, .unset, .unset, .unset] [(.ref b155), (.ref b150), (.long (q0 + (v144.toInt64))), (.ref b5)] _
    refine XS.dup X155.here hx rfl (hb hby at_213) rfl rfl ?_
    show own_K p e below m T155 214 #[iv p1, iv p2, lv p3, .second, iv xz, lv q0, .second, rv b5, iv (1 : Int32), iv xt, iv v118, iv v144, .unset, .unset, .unset] [(.ref b155), (.ref b155), (.ref b150), (.long (q0 + (v144.toInt64))), (.ref b5)] _
    refine st164.trans ?_
    show own_K p e below m T164 217 #[iv p1, iv p2, lv p3, .second, iv xz, lv q0, .second, rv b5, iv (1 : Int32), iv xt, iv v118, iv v144, .unset, .unset, .unset] [(.ref b155), (.ref b150), (.long (q0 + (v144.toInt64))), (.ref b5)] _
    refine st166.trans ?_
    exact k
  have f182 : Exa Z T166.heap b5 "evenkeel/client/Window" := (f167.keep Kc166)
  obtain ⟨cq181, kq181, q181a, q181b, q181c⟩ := isOf hZ rfl f182
  obtain ⟨_, _, ⟨T181, L181, k181, n181⟩, -, X181, ⟨Lc181, hQ181, l181, y181, z181⟩, st181⟩ := X166.virtualBack hx (y := (⟨"evenkeel/client/Window", "room", "()I"⟩ : MethodName)) (z := (⟨"evenkeel/client/Window", "room", "()I"⟩ : MethodName)) hown (mvT hZ (hw _ (List.mem_of_getElem? (i := 167) rfl))) (mvT hZ (hw _ (List.mem_of_getElem? (i := 168) rfl))) (notFace_of_selects (args := #[]) (mvT hZ (hw _ (List.mem_of_getElem? (i := 170) rfl)))) (mvT hZ (hw _ (List.mem_of_getElem? (i := 170) rfl))) (mvT hZ (hw _ (List.mem_of_getElem? (i := 169) rfl))) (by decide) (backOf (W := 0) (rm20 l Z a0 hw [] b5 (-1 : Int64) xz v95 (q0 + (v144.toInt64)) T166.heap n0 sz166 P_oa_restart_166 P_oa_size_166 P_oa_next_166 Fc2_166) hZ (hw _ (List.mem_of_getElem? (i := 171) rfl)) (hw _ (List.mem_of_getElem? (i := 3) rfl)) (by decide) (by decide)) q181a q181c (g := (mkF m 227 #[iv p1, iv p2, lv p3, .second, iv xz, lv q0, .second, rv b5, iv (1 : Int32), iv xt, iv v118, iv v144, .unset, .unset, .unset] [(.ref b5)])) rfl (by rw [hml]; rfl) (Steps.refl _) (argsL := []) (rest := []) (lenOf pd_1 rfl) rfl (by show 2 * 0 + _ ≤ _; exact Nat.le_of_eq rfl) (hb hby at_227) (fun _ _ => ⟨rfl, rfl, (by decide : 10 + 0 ≤ _), (by decide : 38 + 0 ≤ _)⟩)
  dsimp only [Pt.U, Pt.locs, Pt.cells, Pt.slots] at X181 l181 y181 z181 st181 hQ181
  subst l181 y181 z181
  obtain ⟨rfl, Nq181, eh181⟩ := hQ181
  have N181 := Fr.app N166 Nq181
  have pre183 : ∀ t, own_K p e below m T181 230 #[iv p1, iv p2, lv p3, .second, iv xz, lv q0, .second, rv b5, iv (1 : Int32), iv xt, iv v118, iv v144, .unset, .unset, .unset] [(.int (if (-1 : Int64) < (0 : Int64) then (((xz.toInt64) - (v95 - (q0 + (v144.toInt64)))).toInt32) else (0 : Int32)))] t → G t := by
    intro t k
    refine pre180 t ?_
    show own_K p e below m T166 220 #[iv p1, iv p2, lv p3, .second, iv xz, lv q0, .second, rv b5, iv (1 : Int32), iv xt, iv v118, iv v144, .unset, .unset, .unset] [] _
    refine XS.iload X166.here hx rfl (hb hby at_220) rfl ?_
    show own_K p e below m T166 222 #[iv p1, iv p2, lv p3, .second, iv xz, lv q0, .second, rv b5, iv (1 : Int32), iv xt, iv v118, iv v144, .unset, .unset, .unset] [(.int (1 : Int32))] _
    refine XS.ifNo X166.here hx rfl (hb hby at_222) rfl ((if0 _ _).trans (feq (by decide : ¬ ((1 : Int32) = (0 : Int32)))).1) ?_
    show own_K p e below m T166 225 #[iv p1, iv p2, lv p3, .second, iv xz, lv q0, .second, rv b5, iv (1 : Int32), iv xt, iv v118, iv v144, .unset, .unset, .unset] [] _
    refine XS.aload X166.here hx rfl (hb hby at_225) rfl rfl ?_
    show own_K p e below m T166 227 #[iv p1, iv p2, lv p3, .second, iv xz, lv q0, .second, rv b5, iv (1 : Int32), iv xt, iv v118, iv v144, .unset, .unset, .unset] [(.ref b5)] _
    refine st181.trans ?_
    exact k
  obtain ⟨r4, hr4⟩ : ∃ z : Int32, z = (if (-1 : Int64) < (0 : Int64) then (((xz.toInt64) - (v95 - (q0 + (v144.toInt64)))).toInt32) else (0 : Int32)) := ⟨_, rfl⟩
  have pre184 : ∀ t, own_K p e below m T181 230 #[iv p1, iv p2, lv p3, .second, iv xz, lv q0, .second, rv b5, iv (1 : Int32), iv xt, iv v118, iv v144, .unset, .unset, .unset] [(.int r4)] t → G t := fun t k => pre183 t (by rw [hr4] at k; exact k)
  have pre185 : ∀ t, own_K p e below m T181 255 #[iv p1, iv p2, lv p3, .second, iv xz, lv q0, .second, rv b5, iv (1 : Int32), iv xt, iv v118, iv v144, .unset, .unset, .unset] [(.long ((((p2.toUInt32 >>> ((3 : Int32) &&& 31).toUInt32).toInt32) &&& (7 : Int32)).toInt64))] t → G t := by
    intro t k
    refine pre184 t ?_
    show own_K p e below m T181 230 #[iv p1, iv p2, lv p3, .second, iv xz, lv q0, .second, rv b5, iv (1 : Int32), iv xt, iv v118, iv v144, .unset, .unset, .unset] [(.int r4)] _
    refine XS.iload X181.here hx rfl (hb hby at_230) rfl ?_
    show own_K p e below m T181 232 #[iv p1, iv p2, lv p3, .second, iv xz, lv q0, .second, rv b5, iv (1 : Int32), iv xt, iv v118, iv v144, .unset, .unset, .unset] [(.int xz), (.int r4)] _
    refine XS.iload X181.here hx rfl (hb hby at_232) rfl ?_
    show own_K p e below m T181 234 #[iv p1, iv p2, lv p3, .second, iv xz, lv q0, .second, rv b5, iv (1 : Int32), iv xt, iv v118, iv v144, .unset, .unset, .unset] [(.int xt), (.int xz), (.int r4)] _
    refine XS.isub X181.here hx rfl (hb hby at_234) rfl ?_
    show own_K p e below m T181 235 #[iv p1, iv p2, lv p3, .second, iv xz, lv q0, .second, rv b5, iv (1 : Int32), iv xt, iv v118, iv v144, .unset, .unset, .unset] [(.int (xz - xt)), (.int r4)] _
    refine XS.iload X181.here hx rfl (hb hby at_235) rfl ?_
    show own_K p e below m T181 237 #[iv p1, iv p2, lv p3, .second, iv xz, lv q0, .second, rv b5, iv (1 : Int32), iv xt, iv v118, iv v144, .unset, .unset, .unset] [(.int v144), (.int (xz - xt)), (.int r4)] _
    refine XS.iadd X181.here hx rfl (hb hby at_237) rfl ?_
    show own_K p e below m T181 238 #[iv p1, iv p2, lv p3, .second, iv xz, lv q0, .second, rv b5, iv (1 : Int32), iv xt, iv v118, iv v144, .unset, .unset, .unset] [(.int ((xz - xt) + v144)), (.int r4)] _
    refine XS.icmpNo X181.here hx rfl (hb hby at_238) rfl (teq (hr4.trans (own_room4 hzb htN htb hnx hq62 hdn hdb))).2 ?_
    show own_K p e below m T181 241 #[iv p1, iv p2, lv p3, .second, iv xz, lv q0, .second, rv b5, iv (1 : Int32), iv xt, iv v118, iv v144, .unset, .unset, .unset] [] _
    refine XS.iconst X181.here hx rfl (hb hby at_241) ?_
    show own_K p e below m T181 242 #[iv p1, iv p2, lv p3, .second, iv xz, lv q0, .second, rv b5, iv (1 : Int32), iv xt, iv v118, iv v144, .unset, .unset, .unset] [(.int (1 : Int32))] _
    refine XS.goto X181.here hx rfl (pc0 := 242) (pc' := 246) rfl (hb hby at_242) (by decide) (by decide) ?_
    show own_K p e below m T181 246 #[iv p1, iv p2, lv p3, .second, iv xz, lv q0, .second, rv b5, iv (1 : Int32), iv xt, iv v118, iv v144, .unset, .unset, .unset] [(.int (1 : Int32))] _
    refine XS.istore X181.here hx rfl (hb hby at_246) rfl (l' := #[iv p1, iv p2, lv p3, .second, iv xz, lv q0, .second, rv b5, iv (1 : Int32), iv xt, iv v118, iv v144, .unset, .unset, .unset]) rfl ?_
    show own_K p e below m T181 248 #[iv p1, iv p2, lv p3, .second, iv xz, lv q0, .second, rv b5, iv (1 : Int32), iv xt, iv v118, iv v144, .unset, .unset, .unset] [] _
    refine XS.iloadN X181.here hx rfl (hb hby at_248) rfl ?_
    show own_K p e below m T181 249 #[iv p1, iv p2, lv p3, .second, iv xz, lv q0, .second, rv b5, iv (1 : Int32), iv xt, iv v118, iv v144, .unset, .unset, .unset] [(.int p2)] _
    refine XS.iconst X181.here hx rfl (hb hby at_249) ?_
    show own_K p e below m T181 250 #[iv p1, iv p2, lv p3, .second, iv xz, lv q0, .second, rv b5, iv (1 : Int32), iv xt, iv v118, iv v144, .unset, .unset, .unset] [(.int (3 : Int32)), (.int p2)] _
    refine XS.iushr X181.here hx rfl (hb hby at_250) rfl ?_
    show own_K p e below m T181 251 #[iv p1, iv p2, lv p3, .second, iv xz, lv q0, .second, rv b5, iv (1 : Int32), iv xt, iv v118, iv v144, .unset, .unset, .unset] [(.int ((p2.toUInt32 >>> ((3 : Int32) &&& 31).toUInt32).toInt32))] _
    refine XS.bipush X181.here hx rfl (hb hby at_251) ?_
    show own_K p e below m T181 253 #[iv p1, iv p2, lv p3, .second, iv xz, lv q0, .second, rv b5, iv (1 : Int32), iv xt, iv v118, iv v144, .unset, .unset, .unset] [(.int (7 : Int32)), (.int ((p2.toUInt32 >>> ((3 : Int32) &&& 31).toUInt32).toInt32))] _
    refine XS.iand X181.here hx rfl (hb hby at_253) rfl ?_
    show own_K p e below m T181 254 #[iv p1, iv p2, lv p3, .second, iv xz, lv q0, .second, rv b5, iv (1 : Int32), iv xt, iv v118, iv v144, .unset, .unset, .unset] [(.int (((p2.toUInt32 >>> ((3 : Int32) &&& 31).toUInt32).toInt32) &&& (7 : Int32)))] _
    refine XS.i2l X181.here hx rfl (hb hby at_254) rfl ?_
    exact k
  obtain ⟨qg, hqg⟩ : ∃ z : Int64, z = ((((p2.toUInt32 >>> ((3 : Int32) &&& 31).toUInt32).toInt32) &&& (7 : Int32)).toInt64) := ⟨_, rfl⟩
  have pre186 : ∀ t, own_K p e below m T181 255 #[iv p1, iv p2, lv p3, .second, iv xz, lv q0, .second, rv b5, iv (1 : Int32), iv xt, iv v118, iv v144, .unset, .unset, .unset] [(.long qg)] t → G t := fun t k => pre185 t (by rw [hqg] at k; exact k)
  have pre187 : ∀ t, own_K p e below m T181 268 #[iv p1, iv p2, lv p3, .second, iv xz, lv q0, .second, rv b5, iv (1 : Int32), iv xt, iv v118, iv v144, lv qg, .second, .unset] [(.long ((q0 + (xt.toInt64)) + qg)), (.ref b5)] t → G t := by
    intro t k
    refine pre186 t ?_
    show own_K p e below m T181 255 #[iv p1, iv p2, lv p3, .second, iv xz, lv q0, .second, rv b5, iv (1 : Int32), iv xt, iv v118, iv v144, .unset, .unset, .unset] [(.long qg)] _
    refine XS.lstore X181.here hx rfl (hb hby at_255) rfl (l' := #[iv p1, iv p2, lv p3, .second, iv xz, lv q0, .second, rv b5, iv (1 : Int32), iv xt, iv v118, iv v144, lv qg, .second, .unset]) rfl ?_
    show own_K p e below m T181 257 #[iv p1, iv p2, lv p3, .second, iv xz, lv q0, .second, rv b5, iv (1 : Int32), iv xt, iv v118, iv v144, lv qg, .second, .unset] [] _
    refine XS.aload X181.here hx rfl (hb hby at_257) rfl rfl ?_
    show own_K p e below m T181 259 #[iv p1, iv p2, lv p3, .second, iv xz, lv q0, .second, rv b5, iv (1 : Int32), iv xt, iv v118, iv v144, lv qg, .second, .unset] [(.ref b5)] _
    refine XS.lload X181.here hx rfl (hb hby at_259) rfl ?_
    show own_K p e below m T181 261 #[iv p1, iv p2, lv p3, .second, iv xz, lv q0, .second, rv b5, iv (1 : Int32), iv xt, iv v118, iv v144, lv qg, .second, .unset] [(.long q0), (.ref b5)] _
    refine XS.iload X181.here hx rfl (hb hby at_261) rfl ?_
    show own_K p e below m T181 263 #[iv p1, iv p2, lv p3, .second, iv xz, lv q0, .second, rv b5, iv (1 : Int32), iv xt, iv v118, iv v144, lv qg, .second, .unset] [(.int xt), (.long q0), (.ref b5)] _
    refine XS.i2l X181.here hx rfl (hb hby at_263) rfl ?_
    show own_K p e below m T181 264 #[iv p1, iv p2, lv p3, .second, iv xz, lv q0, .second, rv b5, iv (1 : Int32), iv xt, iv v118, iv v144, lv qg, .second, .unset] [(.long (xt.toInt64)), (.long q0), (.ref b5)] _
    refine XS.ladd X181.here hx rfl (hb hby at_264) rfl ?_
    show own_K p e below m T181 265 #[iv p1, iv p2, lv p3, .second, iv xz, lv q0, .second, rv b5, iv (1 : Int32), iv xt, iv v118, iv v144, lv qg, .second, .unset] [(.long (q0 + (xt.toInt64))), (.ref b5)] _
    refine XS.lload X181.here hx rfl (hb hby at_265) rfl ?_
    show own_K p e below m T181 267 #[iv p1, iv p2, lv p3, .second, iv xz, lv q0, .second, rv b5, iv (1 : Int32), iv xt, iv v118, iv v144, lv qg, .second, .unset] [(.long qg), (.long (q0 + (xt.toInt64))), (.ref b5)] _
    refine XS.ladd X181.here hx rfl (hb hby at_267) rfl ?_
    exact k
  obtain ⟨qk, hqk⟩ : ∃ z : Int64, z = ((q0 + (xt.toInt64)) + qg) := ⟨_, rfl⟩
  have pre188 : ∀ t, own_K p e below m T181 268 #[iv p1, iv p2, lv p3, .second, iv xz, lv q0, .second, rv b5, iv (1 : Int32), iv xt, iv v118, iv v144, lv qg, .second, .unset] [(.long qk), (.ref b5)] t → G t := fun t k => pre187 t (by rw [hqk] at k; exact k)
  obtain ⟨cq189, kq189, q189a, q189b, q189c⟩ := isOf hZ eh181 f182
  obtain ⟨_, _, ⟨T189, L189, k189, n189⟩, -, X189, ⟨Lc189, hQ189, l189, y189, z189⟩, st189⟩ := X181.virtualBack hx (y := (⟨"evenkeel/client/Window", "skip", "(J)Z"⟩ : MethodName)) (z := (⟨"evenkeel/client/Window", "skip", "(J)Z"⟩ : MethodName)) hown (mvT hZ (hw _ (List.mem_of_getElem? (i := 218) rfl))) (mvT hZ (hw _ (List.mem_of_getElem? (i := 219) rfl))) (notFace_of_selects (args := #[]) (mvT hZ (hw _ (List.mem_of_getElem? (i := 221) rfl)))) (mvT hZ (hw _ (List.mem_of_getElem? (i := 221) rfl))) (mvT hZ (hw _ (List.mem_of_getElem? (i := 220) rfl))) (by decide) (backOf (W := 0) (rm27 l Z a0 hw [] b5 qk (q0 + (v144.toInt64)) v127 v95 (-1 : Int64) (.int xz) (.ref b150) (.ref bf25) (.ref el) (.int (0 : Int32)) (.ref bl25) (.ref b155) T166.heap n0 sz166 f182 Fc2_166 P_oa_unfinished_166 P_oa_next_166 P_oa_restart_166 P_oa_failing_166 ge_b5 P_oa_size_166 Fa2_166 P_oa_finished_166 P_oa_consumed_166 P_oa_consumedAt_166 P_oa_left_166 Fb2_166) hZ (hw _ (List.mem_of_getElem? (i := 222) rfl)) (hw _ (List.mem_of_getElem? (i := 3) rfl)) (by decide) (by decide)) q189a q189c (g := (mkF m 268 #[iv p1, iv p2, lv p3, .second, iv xz, lv q0, .second, rv b5, iv (1 : Int32), iv xt, iv v118, iv v144, lv qg, .second, .unset] [(.long qk), (.ref b5)])) rfl (by rw [hml]; rfl) (Steps.refl _) (argsL := [(.long qk)]) (rest := []) (lenOf pd_14 rfl) rfl (by show 2 * 0 + _ ≤ _; exact Nat.le_of_eq rfl) (hb hby at_268) (fun _ _ => ⟨rfl, eh181, (by decide : 10 + 0 ≤ _), (by decide : 38 + 0 ≤ _)⟩)
  dsimp only [Pt.U, Pt.locs, Pt.cells, Pt.slots] at X189 l189 y189 z189 st189 hQ189
  subst l189 y189 z189
  obtain ⟨rfl, Nq189, Kc189, Fc2_189, Fu2_189, Fn2_189, Fr2_189, Ff2_189, P_oa_size_189, P_oa_committedAhead_189, P_oa_finished_189, P_oa_consumed_189, P_oa_consumedAt_189, P_oa_left_189, P_oa_committedFailures_189⟩ := hQ189
  have N189 := Fr.app N181 Nq189
  have K189 : Keep h0 T189.heap [] := K166.trans Kc189 (allS (Or.inr sz_b5) all0)
  have sz189 : n0 ≤ T189.heap.size := Nat.le_trans sz166 Kc189.1
  have pre190 : ∀ t, own_K p e below m T189 271 #[iv p1, iv p2, lv p3, .second, iv xz, lv q0, .second, rv b5, iv (1 : Int32), iv xt, iv v118, iv v144, lv qg, .second, .unset] [(.int (if v127 = v95 then (1 : Int32) else (0 : Int32)))] t → G t := by
    intro t k
    refine pre188 t ?_
    show own_K p e below m T181 268 #[iv p1, iv p2, lv p3, .second, iv xz, lv q0, .second, rv b5, iv (1 : Int32), iv xt, iv v118, iv v144, lv qg, .second, .unset] [(.long qk), (.ref b5)] _
    refine st189.trans ?_
    exact k
  obtain ⟨xm, hxm⟩ : ∃ z : Int32, z = (if v127 = v95 then (1 : Int32) else (0 : Int32)) := ⟨_, rfl⟩
  have pre191 : ∀ t, own_K p e below m T189 271 #[iv p1, iv p2, lv p3, .second, iv xz, lv q0, .second, rv b5, iv (1 : Int32), iv xt, iv v118, iv v144, lv qg, .second, .unset] [(.int xm)] t → G t := fun t k => pre190 t (by rw [hxm] at k; exact k)
  have pre192 : ∀ t, own_K p e below m T189 284 #[iv p1, iv p2, lv p3, .second, iv xz, lv q0, .second, rv b5, iv (1 : Int32), iv xt, iv v118, iv v144, lv qg, .second, iv xm] [(.int v144), (.int xt), (.int xm)] t → G t := by
    intro t k
    refine pre191 t ?_
    show own_K p e below m T189 271 #[iv p1, iv p2, lv p3, .second, iv xz, lv q0, .second, rv b5, iv (1 : Int32), iv xt, iv v118, iv v144, lv qg, .second, .unset] [(.int xm)] _
    refine XS.istore X189.here hx rfl (hb hby at_271) rfl (l' := #[iv p1, iv p2, lv p3, .second, iv xz, lv q0, .second, rv b5, iv (1 : Int32), iv xt, iv v118, iv v144, lv qg, .second, iv xm]) rfl ?_
    show own_K p e below m T189 273 #[iv p1, iv p2, lv p3, .second, iv xz, lv q0, .second, rv b5, iv (1 : Int32), iv xt, iv v118, iv v144, lv qg, .second, iv xm] [] _
    refine XS.iload X189.here hx rfl (hb hby at_273) rfl ?_
    show own_K p e below m T189 275 #[iv p1, iv p2, lv p3, .second, iv xz, lv q0, .second, rv b5, iv (1 : Int32), iv xt, iv v118, iv v144, lv qg, .second, iv xm] [(.int (1 : Int32))] _
    refine XS.ifNo X189.here hx rfl (hb hby at_275) rfl ((if0 _ _).trans (feq (by decide : ¬ ((1 : Int32) = (0 : Int32)))).1) ?_
    show own_K p e below m T189 278 #[iv p1, iv p2, lv p3, .second, iv xz, lv q0, .second, rv b5, iv (1 : Int32), iv xt, iv v118, iv v144, lv qg, .second, iv xm] [] _
    refine XS.iload X189.here hx rfl (hb hby at_278) rfl ?_
    show own_K p e below m T189 280 #[iv p1, iv p2, lv p3, .second, iv xz, lv q0, .second, rv b5, iv (1 : Int32), iv xt, iv v118, iv v144, lv qg, .second, iv xm] [(.int xm)] _
    refine XS.iload X189.here hx rfl (hb hby at_280) rfl ?_
    show own_K p e below m T189 282 #[iv p1, iv p2, lv p3, .second, iv xz, lv q0, .second, rv b5, iv (1 : Int32), iv xt, iv v118, iv v144, lv qg, .second, iv xm] [(.int xt), (.int xm)] _
    refine XS.iload X189.here hx rfl (hb hby at_282) rfl ?_
    exact k
  obtain ⟨v196, hv196⟩ : ∃ z : Int32, z = (if xt = v144 then (1 : Int32) else (0 : Int32)) := ⟨_, rfl⟩
  have pre197 : ∀ t, own_K p e below m T189 292 #[iv p1, iv p2, lv p3, .second, iv xz, lv q0, .second, rv b5, iv (1 : Int32), iv xt, iv v118, iv v144, lv qg, .second, iv xm] [(.int v196), (.int xm)] t → G t := by
    by_cases hc284_193 : xt = v144
    · have pre194 : ∀ t, own_K p e below m T189 292 #[iv p1, iv p2, lv p3, .second, iv xz, lv q0, .second, rv b5, iv (1 : Int32), iv xt, iv v118, iv v144, lv qg, .second, iv xm] [(.int (1 : Int32)), (.int xm)] t → G t := by
        intro t k
        refine pre192 t ?_
        show own_K p e below m T189 284 #[iv p1, iv p2, lv p3, .second, iv xz, lv q0, .second, rv b5, iv (1 : Int32), iv xt, iv v118, iv v144, lv qg, .second, iv xm] [(.int v144), (.int xt), (.int xm)] _
        refine XS.icmpNo X189.here hx rfl (hb hby at_284) rfl (teq hc284_193).2 ?_
        show own_K p e below m T189 287 #[iv p1, iv p2, lv p3, .second, iv xz, lv q0, .second, rv b5, iv (1 : Int32), iv xt, iv v118, iv v144, lv qg, .second, iv xm] [(.int xm)] _
        refine XS.iconst X189.here hx rfl (hb hby at_287) ?_
        show own_K p e below m T189 288 #[iv p1, iv p2, lv p3, .second, iv xz, lv q0, .second, rv b5, iv (1 : Int32), iv xt, iv v118, iv v144, lv qg, .second, iv xm] [(.int (1 : Int32)), (.int xm)] _
        refine XS.goto X189.here hx rfl (pc0 := 288) (pc' := 292) rfl (hb hby at_288) (by decide) (by decide) ?_
        exact k
      have hq := True.intro
      obtain rfl : v196 = (1 : Int32) := by simp only [hv196, if_pos hc284_193]
      exact fun t k => pre194 t k
    · have pre195 : ∀ t, own_K p e below m T189 292 #[iv p1, iv p2, lv p3, .second, iv xz, lv q0, .second, rv b5, iv (1 : Int32), iv xt, iv v118, iv v144, lv qg, .second, iv xm] [(.int (0 : Int32)), (.int xm)] t → G t := by
        intro t k
        refine pre192 t ?_
        show own_K p e below m T189 284 #[iv p1, iv p2, lv p3, .second, iv xz, lv q0, .second, rv b5, iv (1 : Int32), iv xt, iv v118, iv v144, lv qg, .second, iv xm] [(.int v144), (.int xt), (.int xm)] _
        refine XS.icmpYes X189.here hx rfl (pc0 := 284) (pc' := 291) rfl (hb hby at_284) rfl (feq hc284_193).2 (by decide) (by decide) ?_
        show own_K p e below m T189 291 #[iv p1, iv p2, lv p3, .second, iv xz, lv q0, .second, rv b5, iv (1 : Int32), iv xt, iv v118, iv v144, lv qg, .second, iv xm] [(.int xm)] _
        refine XS.iconst X189.here hx rfl (hb hby at_291) ?_
        exact k
      have hq := True.intro
      obtain rfl : v196 = (0 : Int32) := by simp only [hv196, if_neg hc284_193]
      exact fun t k => pre195 t k
  have f199 : Exa Z T189.heap b5 "evenkeel/client/Window" := (f182.keep Kc189)
  obtain ⟨cq198, kq198, q198a, q198b, q198c⟩ := isOf hZ rfl f199
  obtain ⟨_, _, ⟨T198, L198, k198, n198⟩, -, X198, ⟨Lc198, hQ198, l198, y198, z198⟩, st198⟩ := X189.virtualBack hx (y := (⟨"evenkeel/client/Window", "room", "()I"⟩ : MethodName)) (z := (⟨"evenkeel/client/Window", "room", "()I"⟩ : MethodName)) hown (mvT hZ (hw _ (List.mem_of_getElem? (i := 167) rfl))) (mvT hZ (hw _ (List.mem_of_getElem? (i := 168) rfl))) (notFace_of_selects (args := #[]) (mvT hZ (hw _ (List.mem_of_getElem? (i := 170) rfl)))) (mvT hZ (hw _ (List.mem_of_getElem? (i := 170) rfl))) (mvT hZ (hw _ (List.mem_of_getElem? (i := 169) rfl))) (by decide) (backOf (W := 0) (rm20 l Z a0 hw [] b5 (if v127 = v95 then (-1 : Int64) else (if (-1 : Int64) < qk then qk else (-1 : Int64))) xz (if v127 = v95 then qk else v95) (if v127 = v95 then qk else (q0 + (v144.toInt64))) T189.heap n0 sz189 Fr2_189 P_oa_size_189 Fn2_189 Fc2_189) hZ (hw _ (List.mem_of_getElem? (i := 171) rfl)) (hw _ (List.mem_of_getElem? (i := 3) rfl)) (by decide) (by decide)) q198a q198c (g := (mkF m 309 #[iv p1, iv p2, lv p3, .second, iv xz, lv q0, .second, rv b5, iv (1 : Int32), iv xt, iv v118, iv v144, lv qg, .second, iv xm] [(.ref b5)])) rfl (by rw [hml]; rfl) (Steps.refl _) (argsL := []) (rest := []) (lenOf pd_1 rfl) rfl (by show 2 * 0 + _ ≤ _; exact Nat.le_of_eq rfl) (hb hby at_309) (fun _ _ => ⟨rfl, rfl, (by decide : 10 + 0 ≤ _), (by decide : 38 + 0 ≤ _)⟩)
  dsimp only [Pt.U, Pt.locs, Pt.cells, Pt.slots] at X198 l198 y198 z198 st198 hQ198
  subst l198 y198 z198
  obtain ⟨rfl, Nq198, eh198⟩ := hQ198
  have N198 := Fr.app N189 Nq198
  have pre200 : ∀ t, own_K p e below m T198 312 #[iv p1, iv p2, lv p3, .second, iv xz, lv q0, .second, rv b5, iv (1 : Int32), iv xt, iv v118, iv v144, lv qg, .second, iv xm] [(.int (if (if v127 = v95 then (-1 : Int64) else (if (-1 : Int64) < qk then qk else (-1 : Int64))) < (0 : Int64) then (((xz.toInt64) - ((if v127 = v95 then qk else v95) - (if v127 = v95 then qk else (q0 + (v144.toInt64))))).toInt32) else (0 : Int32)))] t → G t := by
    intro t k
    refine pre197 t ?_
    show own_K p e below m T189 292 #[iv p1, iv p2, lv p3, .second, iv xz, lv q0, .second, rv b5, iv (1 : Int32), iv xt, iv v118, iv v144, lv qg, .second, iv xm] [(.int v196), (.int xm)] _
    refine XS.icmpNo X189.here hx rfl (hb hby at_292) rfl (teq (hxm.trans ((own_moved hnx hun htN htb hdn hdb).trans hv196.symm))).2 ?_
    show own_K p e below m T189 295 #[iv p1, iv p2, lv p3, .second, iv xz, lv q0, .second, rv b5, iv (1 : Int32), iv xt, iv v118, iv v144, lv qg, .second, iv xm] [] _
    refine XS.iconst X189.here hx rfl (hb hby at_295) ?_
    show own_K p e below m T189 296 #[iv p1, iv p2, lv p3, .second, iv xz, lv q0, .second, rv b5, iv (1 : Int32), iv xt, iv v118, iv v144, lv qg, .second, iv xm] [(.int (1 : Int32))] _
    refine XS.goto X189.here hx rfl (pc0 := 296) (pc' := 300) rfl (hb hby at_296) (by decide) (by decide) ?_
    show own_K p e below m T189 300 #[iv p1, iv p2, lv p3, .second, iv xz, lv q0, .second, rv b5, iv (1 : Int32), iv xt, iv v118, iv v144, lv qg, .second, iv xm] [(.int (1 : Int32))] _
    refine XS.istore X189.here hx rfl (hb hby at_300) rfl (l' := #[iv p1, iv p2, lv p3, .second, iv xz, lv q0, .second, rv b5, iv (1 : Int32), iv xt, iv v118, iv v144, lv qg, .second, iv xm]) rfl ?_
    show own_K p e below m T189 302 #[iv p1, iv p2, lv p3, .second, iv xz, lv q0, .second, rv b5, iv (1 : Int32), iv xt, iv v118, iv v144, lv qg, .second, iv xm] [] _
    refine XS.iload X189.here hx rfl (hb hby at_302) rfl ?_
    show own_K p e below m T189 304 #[iv p1, iv p2, lv p3, .second, iv xz, lv q0, .second, rv b5, iv (1 : Int32), iv xt, iv v118, iv v144, lv qg, .second, iv xm] [(.int (1 : Int32))] _
    refine XS.ifNo X189.here hx rfl (hb hby at_304) rfl ((if0 _ _).trans (feq (by decide : ¬ ((1 : Int32) = (0 : Int32)))).1) ?_
    show own_K p e below m T189 307 #[iv p1, iv p2, lv p3, .second, iv xz, lv q0, .second, rv b5, iv (1 : Int32), iv xt, iv v118, iv v144, lv qg, .second, iv xm] [] _
    refine XS.aload X189.here hx rfl (hb hby at_307) rfl rfl ?_
    show own_K p e below m T189 309 #[iv p1, iv p2, lv p3, .second, iv xz, lv q0, .second, rv b5, iv (1 : Int32), iv xt, iv v118, iv v144, lv qg, .second, iv xm] [(.ref b5)] _
    refine st198.trans ?_
    exact k
  obtain ⟨r5, hr5⟩ : ∃ z : Int32, z = (if (if v127 = v95 then (-1 : Int64) else (if (-1 : Int64) < qk then qk else (-1 : Int64))) < (0 : Int64) then (((xz.toInt64) - ((if v127 = v95 then qk else v95) - (if v127 = v95 then qk else (q0 + (v144.toInt64))))).toInt32) else (0 : Int32)) := ⟨_, rfl⟩
  have pre201 : ∀ t, own_K p e below m T198 312 #[iv p1, iv p2, lv p3, .second, iv xz, lv q0, .second, rv b5, iv (1 : Int32), iv xt, iv v118, iv v144, lv qg, .second, iv xm] [(.int r5)] t → G t := fun t k => pre200 t (by rw [hr5] at k; exact k)
  have pre202 : ∀ t, own_K p e below m T198 314 #[iv p1, iv p2, lv p3, .second, iv xz, lv q0, .second, rv b5, iv (1 : Int32), iv xt, iv v118, iv v144, lv qg, .second, iv xm] [(.int xm), (.int r5)] t → G t := by
    intro t k
    refine pre201 t ?_
    show own_K p e below m T198 312 #[iv p1, iv p2, lv p3, .second, iv xz, lv q0, .second, rv b5, iv (1 : Int32), iv xt, iv v118, iv v144, lv qg, .second, iv xm] [(.int r5)] _
    refine XS.iload X198.here hx rfl (hb hby at_312) rfl ?_
    exact k
  obtain ⟨v206, hv206⟩ : ∃ z : Int32, z = (if xm = (0 : Int32) then (0 : Int32) else xz) := ⟨_, rfl⟩
  have pre207 : ∀ t, own_K p e below m T198 323 #[iv p1, iv p2, lv p3, .second, iv xz, lv q0, .second, rv b5, iv (1 : Int32), iv xt, iv v118, iv v144, lv qg, .second, iv xm] [(.int v206), (.int r5)] t → G t := by
    by_cases hc314_203 : xm = (0 : Int32)
    · have pre204 : ∀ t, own_K p e below m T198 323 #[iv p1, iv p2, lv p3, .second, iv xz, lv q0, .second, rv b5, iv (1 : Int32), iv xt, iv v118, iv v144, lv qg, .second, iv xm] [(.int (0 : Int32)), (.int r5)] t → G t := by
        intro t k
        refine pre202 t ?_
        show own_K p e below m T198 314 #[iv p1, iv p2, lv p3, .second, iv xz, lv q0, .second, rv b5, iv (1 : Int32), iv xt, iv v118, iv v144, lv qg, .second, iv xm] [(.int xm), (.int r5)] _
        refine XS.ifYes X198.here hx rfl (pc0 := 314) (pc' := 322) rfl (hb hby at_314) rfl ((if0 _ _).trans (teq hc314_203).1) (by decide) (by decide) ?_
        show own_K p e below m T198 322 #[iv p1, iv p2, lv p3, .second, iv xz, lv q0, .second, rv b5, iv (1 : Int32), iv xt, iv v118, iv v144, lv qg, .second, iv xm] [(.int r5)] _
        refine XS.iconst X198.here hx rfl (hb hby at_322) ?_
        exact k
      have hq := True.intro
      obtain rfl : v206 = (0 : Int32) := by simp only [hv206, if_pos hc314_203]
      exact fun t k => pre204 t k
    · have pre205 : ∀ t, own_K p e below m T198 323 #[iv p1, iv p2, lv p3, .second, iv xz, lv q0, .second, rv b5, iv (1 : Int32), iv xt, iv v118, iv v144, lv qg, .second, iv xm] [(.int xz), (.int r5)] t → G t := by
        intro t k
        refine pre202 t ?_
        show own_K p e below m T198 314 #[iv p1, iv p2, lv p3, .second, iv xz, lv q0, .second, rv b5, iv (1 : Int32), iv xt, iv v118, iv v144, lv qg, .second, iv xm] [(.int xm), (.int r5)] _
        refine XS.ifNo X198.here hx rfl (hb hby at_314) rfl ((if0 _ _).trans (feq hc314_203).1) ?_
        show own_K p e below m T198 317 #[iv p1, iv p2, lv p3, .second, iv xz, lv q0, .second, rv b5, iv (1 : Int32), iv xt, iv v118, iv v144, lv qg, .second, iv xm] [(.int r5)] _
        refine XS.iload X198.here hx rfl (hb hby at_317) rfl ?_
        show own_K p e below m T198 319 #[iv p1, iv p2, lv p3, .second, iv xz, lv q0, .second, rv b5, iv (1 : Int32), iv xt, iv v118, iv v144, lv qg, .second, iv xm] [(.int xz), (.int r5)] _
        refine XS.goto X198.here hx rfl (pc0 := 319) (pc' := 323) rfl (hb hby at_319) (by decide) (by decide) ?_
        exact k
      have hq := True.intro
      obtain rfl : v206 = xz := by simp only [hv206, if_neg hc314_203]
      exact fun t k => pre205 t k
  have pre208 : ∀ t, own_K p e below m T198 335 #[iv p1, iv p2, lv p3, .second, iv xz, lv q0, .second, rv b5, iv (1 : Int32), iv xt, iv v118, iv v144, lv qg, .second, iv xm] [(.int (1 : Int32))] t → G t := by
    intro t k
    refine pre207 t ?_
    show own_K p e below m T198 323 #[iv p1, iv p2, lv p3, .second, iv xz, lv q0, .second, rv b5, iv (1 : Int32), iv xt, iv v118, iv v144, lv qg, .second, iv xm] [(.int v206), (.int r5)] _
    refine XS.icmpNo X198.here hx rfl (hb hby at_323) rfl (teq (hr5.trans ((own_room5 hzb hq62 hqg hqk htN htb hxm).trans hv206.symm))).2 ?_
    show own_K p e below m T198 326 #[iv p1, iv p2, lv p3, .second, iv xz, lv q0, .second, rv b5, iv (1 : Int32), iv xt, iv v118, iv v144, lv qg, .second, iv xm] [] _
    refine XS.iconst X198.here hx rfl (hb hby at_326) ?_
    show own_K p e below m T198 327 #[iv p1, iv p2, lv p3, .second, iv xz, lv q0, .second, rv b5, iv (1 : Int32), iv xt, iv v118, iv v144, lv qg, .second, iv xm] [(.int (1 : Int32))] _
    refine XS.goto X198.here hx rfl (pc0 := 327) (pc' := 331) rfl (hb hby at_327) (by decide) (by decide) ?_
    show own_K p e below m T198 331 #[iv p1, iv p2, lv p3, .second, iv xz, lv q0, .second, rv b5, iv (1 : Int32), iv xt, iv v118, iv v144, lv qg, .second, iv xm] [(.int (1 : Int32))] _
    refine XS.istore X198.here hx rfl (hb hby at_331) rfl (l' := #[iv p1, iv p2, lv p3, .second, iv xz, lv q0, .second, rv b5, iv (1 : Int32), iv xt, iv v118, iv v144, lv qg, .second, iv xm]) rfl ?_
    show own_K p e below m T198 333 #[iv p1, iv p2, lv p3, .second, iv xz, lv q0, .second, rv b5, iv (1 : Int32), iv xt, iv v118, iv v144, lv qg, .second, iv xm] [] _
    refine XS.iload X198.here hx rfl (hb hby at_333) rfl ?_
    exact k
  obtain ⟨fs, hr, hrun, hended, hW, hsame⟩ := X198.leave (v := some (.int (1 : Int32))) (fun h => by rw [Bd.returns] at h; cases h)
  refine ⟨_, _, hG _ (pre208 _ ?_), hrun, hended, _, _, rfl, ?_, ⟨_, rfl⟩, hW, hsame.mono (by decide) (by decide)⟩
  · show own_K p e below m T198 335 #[iv p1, iv p2, lv p3, .second, iv xz, lv q0, .second, rv b5, iv (1 : Int32), iv xt, iv v118, iv v144, lv qg, .second, iv xm] [(.int (1 : Int32))] _
    exact retN X198 hx (t := .boolean) Bd.returns (by simp) (hb hby at_335) hr
  · show Q0 Z p1 p2 p3 el ea kE da h0 n0 _ T198.heap _
    rw [eh198]
    exact ⟨rfl, N198, K189⟩
set_option maxRecDepth 65536 in
set_option maxHeartbeats 40000000 in
theorem comes_1 {Post : Tables → Env → Array Value → State → Outcome → State → Prop} (hpost : ∀ tb e args s v u, (limb_1_1.after args s (.returned v) u = true ∧ limb_1_2.after args s (.returned v) u = true ∧ True) → FrameEnd s (.returned v) u (Jvm.fieldLocs frame_1_writes args s ++ Jvm.arrayLocs frame_1_arrays args s ++ Jvm.staticLocs frame_1_statics s) 32 192 → Post tb e args s (.returned v) u) :
    ArmFor flags0 classFile x code maxLocals ret World_1 tables_1 room_1 Calls_1 rest_1 Pre_1 Post := by
  intro l hfl _ _ p e ha hc hk s m args below hf hA hF happ hP
  obtain ⟨hcalls, hrest, hpre⟩ := hP
  obtain ⟨-, -, -, hnamed, -, -, -, hat⟩ := (Spec.applies_iff hf).mp happ
  obtain ⟨hg, hn⟩ := and_e (Cond.before_iff.mp (show (Jvm.Cond.and given_1 narrow_1).before args s = true from hpre))
  obtain ⟨ga1, gb1⟩ := and_e hg
  obtain ⟨ga2, gb2⟩ := and_e gb1
  obtain ⟨ga3, gb3⟩ := and_e gb2
  obtain ⟨w0, w1, w2, rfl⟩ : ∃ w0 w1 w2 : Value, args = #[w0, w1, w2] := by
    have hs : args.size = 3 := by simpa [Cond.value, given_1] using ga1
    obtain ⟨L⟩ := args
    match L, hs with
    | [w0, w1, w2], _ => exact ⟨w0, w1, w2, rfl⟩
  have hw := fun d (hd : d ∈ tables_1) => atoms_spec (ws := Jvm.Cond.code x code maxLocals ret :: tables_1) hat d (List.mem_cons_of_mem _ hd)
  have hfit : Fit s := fun {y c} hc i hi => by
    obtain ⟨ha, rfl⟩ := Array.getElem?_eq_some_iff.mp hc
    have q := List.all_eq_true.mp ((Array.all_eq_true_iff_forall_mem.mp hF) _ (Array.getElem_mem ha)) i (List.mem_range.mpr hi)
    simpa [Array.getElem?_eq_getElem hi] using q
  obtain ⟨hsets, hown0⟩ := atoms_of _ (rest_1_c_eq ▸ (show rest_1_c.before _ s = true from hrest))
  have hr0 := Cond.before_iff.mp hown0
  obtain ⟨i0, ei0⟩ := is_v ga2
  obtain rfl : w0 = (.int i0) := Option.some.inj ei0
  obtain ⟨i1, ei1⟩ := is_v ga3
  obtain rfl : w1 = (.int i1) := Option.some.inj ei1
  obtain ⟨i2, ei2⟩ := isL_v gb3
  obtain rfl : w2 = (.long i2) := Option.some.inj ei2
  have bs : ∀ {d : Jvm.Cond}, d.before #[(.int i0), (.int i1), (.long i2)] s = true → d.value #[(.int i0), (.int i1), (.long i2)] s none s [] = some true := fun h => Cond.before_iff.mp h
  have q2 := bs (hsets _ (List.mem_of_getElem? (i := 2) rfl))
  obtain ⟨el, kel⟩ := exa_v q2
  have SL := Sta.start kel (Or.inl (hsets _ (List.mem_of_getElem? (i := 1) rfl)))
  have EL := Exa.start kel q2
  have q3 := bs (hsets _ (List.mem_of_getElem? (i := 3) rfl))
  obtain ⟨ea, kea⟩ := arr_v q3
  have FE := Fld.start ((fld_at kel).symm.trans kea)
  obtain ⟨cle, Ae⟩ := Arr.start kea q3
  have ql := own_len0 (N := 0) kea Ae (bs (hsets _ (List.mem_of_getElem? (i := 5) rfl))) (by decide)
  have VE : Arv s s.heap ea cle.cls (.object "java/lang/Object") (0 : Int32) [] .null := ⟨cle, Ae, rfl, ql, by decide, fun k hk => absurd hk (by rw [ql]; omega), fun i hi => absurd hi (by rw [ql]; omega)⟩
  have FA := Fld.start ((fld_at kel).symm.trans (eqv_i (Term.int_eval (0 : Int32)) (bs (hsets _ (List.mem_of_getElem? (i := 6) rfl)))))
  have kB := eqv_i (Term.int_eval (1 : Int32)) (bs (hsets _ (List.mem_of_getElem? (i := 18) rfl)))
  have SB := Sta.start kB (Or.inl (hsets _ (List.mem_of_getElem? (i := 17) rfl)))
  have P_ : own_P s el ea cle.cls := ⟨SL, EL, FE, VE, FA, SB⟩
  have qd := bs (hsets _ (List.mem_of_getElem? (i := 13) rfl))
  obtain ⟨da, kda⟩ := arr_v qd
  have SD := Sta.start kda (Or.inr ⟨(hw _ (List.mem_of_getElem? (i := 191) rfl)), (hsets _ (List.mem_of_getElem? (i := 9) rfl))⟩)
  obtain ⟨n, o, h1, h2, h3, _, L, rfl, ⟨rfl, N, _⟩, hq⟩ := rm0 l s _ hw tables_1 i0 i1 i2 el ea cle.cls da s.heap s.heap.size (Nat.le_refl _) (Old.start s) P_ SD p e ha hc hk s m _ below hf ((Spec.applies_iff_loose hf).mp happ).1 ⟨rfl, State.Warmed39.refl s, rfl⟩ trivial
  refine ⟨n, _, h1, h2, h3, hpost _ _ _ _ _ _ ⟨Cond.after_iff.mpr rfl, Cond.after_iff.mpr (eq_i res_at (Term.int_eval (1)) rfl), trivial⟩ ⟨hq.1, hq.2.1, (hq.2.2.sift fun y hy => Or.inr (N y hy)).mono (by decide) (by decide)⟩⟩
theorem main_1_1 : Claimed_1_1 := comes_1 fun _ _ _ _ _ _ h hF => ⟨h.1, hF⟩
theorem main_1_2 : Claimed_1_2 := comes_1 fun _ _ _ _ _ _ h hF => ⟨h.2.1, hF⟩
end Jvm.Pilot.@@N@@
namespace Jvm.Pilot.@@N@@
open Jvm Jvm.ClassFile Sem Op Lib Jvm.Free Jvm.Stand Jvm.Pilot.@@N@@.Jvm.D
/-! MADE BY PROGRAM (witnessworld.py) out of the Statement's table words and the real class files: 32 classes; the members and pool entries that the words name. The judged class is class 1, her method 1. -/
namespace start1
open Jvm.ClassFile
def u (s : String) : CpInfo := .utf8 (stringToUtf16 s)
/-- a pool by its gaps: so many unusable entries, then the entry; so many at the end -/
def gap : Nat → List CpInfo → List CpInfo
  | 0, r => r
  | n + 1, r => .unusable :: gap n r
def poolList (es : List (Nat × CpInfo)) (last : Nat) : List CpInfo := es.foldr (fun e r => gap e.1 (e.2 :: r)) (gap last [])
def pool (es : List (Nat × CpInfo)) (last : Nat) : Array CpInfo := ⟨poolList es last⟩
def fileOf (pool : Array CpInfo) (this : Nat) (attrs : Array Attribute := #[]) (ms : Array MethodInfo := #[]) (fl : Nat := 33) (sup : Nat := 0) (ifs : Array Nat := #[]) (fds : Array FieldInfo := #[]) : ClassFile where
  minorVersion := 0
  majorVersion := 65
  constantPool := pool
  accessFlags := fl
  thisClass := this
  superClass := sup
  interfaces := ifs
  fields := fds
  methods := ms
  attributes := attrs
def plain (name : String) (sup : Option ClassId) : Class where
  name := name
  kind := .ordinary
  loader := none
  accessFlags := 33
  super := sup
  interfaces := #[]
  cf := none
  fields := #[]
  methods := #[]
  instanceTypes := #[]
  staticTypes := #[]
  resolved := #[]
  callSites := []
  init := .initialized
  statics := none
  mirror := none

def pool0 : Array CpInfo := pool [(5, u "<init>"), (0, u "()V"), (1, .class_ 10), (1, u "java/lang/Object")] 113

def k0c0 : Code := { maxStack := 0, maxLocals := 1, code := object_method_1_code, exceptionTable := #[], attributes := #[] }
def k0m0 : Method := { name := "<init>", desc := "()V", sig := { parameters := [], returnType := none }, accessFlags := 1, code := some k0c0 }
/-- java/lang/Object -/
def k0 : Class := { plain "java/lang/Object" none with
  accessFlags := 33
  interfaces := #[]
  cf := some (fileOf pool0 8 #[] #[{ accessFlags := 1, nameIndex := 5, descriptorIndex := 6, attributes := #[] }] 33 0 #[] #[])
  fields := #[]
  methods := #[k0m0]
  instanceTypes := #[]
  staticTypes := #[]
  resolved := Array.replicate 124 none
  statics := none }

def pool1 : Array CpInfo := pool [(2, .class_ 4), (0, .nameAndType 5 6), (0, u "java/lang/Object"), (0, u "<init>"), (0, u "()V"), (0, .long 4611686018427387903), (1, .class_ 10), (0, u "evenkeel/client/Window"), (0, .class_ 12), (0, u "evenkeel/model/CommittedOffset"), (0, .methodref 11 14), (0, .nameAndType 5 15), (0, u "(Levenkeel/model/TopicQueue;J)V"), (0, .methodref 9 17), (0, .nameAndType 5 18), (0, u "(ILevenkeel/model/CommittedOffset;)V"), (0, .methodref 9 20), (0, .nameAndType 21 22), (0, u "room"), (0, u "()I"), (0, .methodref 24 25), (0, .class_ 26), (0, .nameAndType 27 28), (0, u "java/lang/Math"), (0, u "min"), (0, u "(II)I"), (0, .methodref 9 30), (0, .nameAndType 31 32), (0, u "take"), (0, u "()Z"), (0, .methodref 9 34), (0, .nameAndType 35 36), (0, u "finish"), (0, u "(J)Z"), (0, .class_ 38), (0, u "java/util/ArrayList"), (0, .methodref 37 3), (0, .methodref 9 41), (0, .nameAndType 42 43), (0, u "committed"), (0, u "(JLjava/util/List;Ljava/util/List;)V"), (0, .methodref 9 45), (0, .nameAndType 46 36), (0, u "skip"), (0, .class_ 48), (0, u "evenkeel/client/WindowRoomPinLaw"), (2, u "law"), (0, u "(IIJ)Z")] 3

def k1m0 : Method := { name := "<init>", desc := "()V", sig := { parameters := [], returnType := none }, accessFlags := 1, code := none }
def k1c1 : Code := { maxStack := 8, maxLocals := 15, code := code, exceptionTable := #[], attributes := #[] }
def k1m1 : Method := { name := "law", desc := "(IIJ)Z", sig := { parameters := [.int, .int, .long], returnType := some .boolean }, accessFlags := 9, code := some k1c1 }
/-- evenkeel/client/WindowRoomPinLaw -/
def k1 : Class := { plain "evenkeel/client/WindowRoomPinLaw" (some 0) with
  accessFlags := 49
  interfaces := #[]
  cf := some (fileOf pool1 47 #[] #[{ accessFlags := 1, nameIndex := 5, descriptorIndex := 6, attributes := #[] }, { accessFlags := 9, nameIndex := 51, descriptorIndex := 52, attributes := #[] }] 49 2 #[] #[])
  fields := #[]
  methods := #[k1m0, k1m1]
  instanceTypes := #[]
  staticTypes := #[]
  resolved := Array.replicate 56 none
  statics := none }

def pool2 : Array CpInfo := pool [(1, .methodref 2 3), (0, .class_ 4), (0, .nameAndType 5 6), (0, u "java/lang/Object"), (0, u "<init>"), (0, u "()V"), (0, .interfaceMethodref 8 9), (0, .class_ 10), (0, .nameAndType 11 12), (0, u "java/util/List"), (0, u "of"), (0, u "()Ljava/util/List;"), (0, .fieldref 14 15), (0, .class_ 16), (0, .nameAndType 17 18), (0, u "evenkeel/client/Window"), (0, u "committedAhead"), (0, u "Ljava/util/List;"), (0, .class_ 20), (0, u "java/util/BitSet"), (0, .methodref 19 3), (0, .fieldref 14 23), (0, .nameAndType 24 25), (0, u "finished"), (0, u "Ljava/util/BitSet;"), (0, .long 18446744073709551615), (1, .fieldref 14 29), (0, .nameAndType 30 31), (0, u "restart"), (0, u "J"), (0, .fieldref 14 33), (0, .nameAndType 34 25), (0, u "left"), (0, .fieldref 14 36), (0, .nameAndType 37 38), (0, u "size"), (0, u "I"), (0, .methodref 40 41), (0, .class_ 42), (0, .nameAndType 43 44), (0, u "evenkeel/model/CommittedOffset"), (0, u "next"), (0, u "()J"), (0, .fieldref 14 46), (0, .nameAndType 47 31), (0, u "committed"), (0, .fieldref 14 49), (0, .nameAndType 50 31), (0, u "unfinished"), (0, .fieldref 14 52), (0, .nameAndType 43 31), (0, .methodref 40 54), (0, .nameAndType 55 12), (0, u "ahead"), (0, .fieldref 14 57), (0, .nameAndType 58 18), (0, u "consumed"), (0, .methodref 40 60), (0, .nameAndType 61 12), (0, u "failed"), (0, .fieldref 14 63), (0, .nameAndType 64 18), (0, u "committedFailures"), (0, .interfaceMethodref 8 66), (0, .nameAndType 67 68), (0, u "isEmpty"), (0, u "()Z"), (3, .fieldref 14 73), (0, .nameAndType 74 75), (0, u "failing"), (0, u "Ljava/util/TreeMap;"), (4, .interfaceMethodref 81 82), (0, .class_ 83), (0, .nameAndType 84 68), (0, u "java/util/Iterator"), (0, u "hasNext"), (17, u "()I"), (9, .methodref 14 113), (0, .nameAndType 114 68), (0, u "allFinished"), (9, .methodref 125 126), (0, .class_ 127), (0, .nameAndType 128 129), (0, u "java/lang/Math"), (0, u "max"), (0, u "(JJ)J"), (0, .fieldref 14 131), (0, .nameAndType 132 38), (0, u "consumedAt"), (0, .interfaceMethodref 8 134), (0, .nameAndType 37 102), (2, u "get"), (9, .methodref 14 148), (0, .nameAndType 149 150), (0, u "finish"), (0, u "(J)Z"), (0, .methodref 14 152), (0, .nameAndType 153 150), (0, u "inHand"), (0, .methodref 14 155), (0, .nameAndType 156 157), (0, u "bit"), (0, u "(J)I"), (10, .methodref 19 66), (0, .methodref 19 170), (0, .nameAndType 137 171), (0, u "(I)Z"), (7, .methodref 14 180), (0, .nameAndType 181 150), (0, u "skip"), (51, u "(ILevenkeel/model/CommittedOffset;)V"), (3, u "room"), (1, u "take"), (6, u "(JLjava/util/List;Ljava/util/List;)V")] 10

def k2c0 : Code := { maxStack := 3, maxLocals := 5, code := prog_141_method_1_code, exceptionTable := #[], attributes := #[] }
def k2m0 : Method := { name := "<init>", desc := "(ILevenkeel/model/CommittedOffset;)V", sig := { parameters := [.int, (.object "evenkeel/model/CommittedOffset")], returnType := none }, accessFlags := 0, code := some k2c0 }
def k2c1 : Code := { maxStack := 6, maxLocals := 1, code := prog_141_method_3_code, exceptionTable := #[], attributes := #[] }
def k2m1 : Method := { name := "room", desc := "()I", sig := { parameters := [], returnType := some .int }, accessFlags := 0, code := some k2c1 }
def k2c2 : Code := { maxStack := 5, maxLocals := 3, code := prog_141_method_5_code, exceptionTable := #[], attributes := #[] }
def k2m2 : Method := { name := "skip", desc := "(J)Z", sig := { parameters := [.long], returnType := some .boolean }, accessFlags := 0, code := some k2c2 }
def k2c3 : Code := { maxStack := 7, maxLocals := 4, code := prog_141_method_6_code, exceptionTable := #[], attributes := #[] }
def k2m3 : Method := { name := "take", desc := "()Z", sig := { parameters := [], returnType := some .boolean }, accessFlags := 0, code := some k2c3 }
def k2c4 : Code := { maxStack := 5, maxLocals := 3, code := prog_141_method_11_code, exceptionTable := #[], attributes := #[] }
def k2m4 : Method := { name := "finish", desc := "(J)Z", sig := { parameters := [.long], returnType := some .boolean }, accessFlags := 0, code := some k2c4 }
def k2c5 : Code := { maxStack := 4, maxLocals := 3, code := prog_141_method_12_code, exceptionTable := #[], attributes := #[] }
def k2m5 : Method := { name := "inHand", desc := "(J)Z", sig := { parameters := [.long], returnType := some .boolean }, accessFlags := 2, code := some k2c5 }
def k2c6 : Code := { maxStack := 3, maxLocals := 5, code := prog_141_method_19_code, exceptionTable := #[], attributes := #[] }
def k2m6 : Method := { name := "committed", desc := "(JLjava/util/List;Ljava/util/List;)V", sig := { parameters := [.long, (.object "java/util/List"), (.object "java/util/List")], returnType := none }, accessFlags := 0, code := some k2c6 }
def k2c7 : Code := { maxStack := 4, maxLocals := 1, code := prog_141_method_20_code, exceptionTable := #[], attributes := #[] }
def k2m7 : Method := { name := "allFinished", desc := "()Z", sig := { parameters := [], returnType := some .boolean }, accessFlags := 2, code := some k2c7 }
def k2c8 : Code := { maxStack := 4, maxLocals := 3, code := prog_141_method_23_code, exceptionTable := #[], attributes := #[] }
def k2m8 : Method := { name := "bit", desc := "(J)I", sig := { parameters := [.long], returnType := some .int }, accessFlags := 2, code := some k2c8 }
/-- evenkeel/client/Window -/
def k2 : Class := { plain "evenkeel/client/Window" (some 0) with
  accessFlags := 48
  interfaces := #[]
  cf := some (fileOf pool2 14 #[] #[{ accessFlags := 0, nameIndex := 5, descriptorIndex := 233, attributes := #[] }, { accessFlags := 0, nameIndex := 237, descriptorIndex := 102, attributes := #[] }, { accessFlags := 0, nameIndex := 181, descriptorIndex := 150, attributes := #[] }, { accessFlags := 0, nameIndex := 239, descriptorIndex := 68, attributes := #[] }, { accessFlags := 0, nameIndex := 149, descriptorIndex := 150, attributes := #[] }, { accessFlags := 2, nameIndex := 153, descriptorIndex := 150, attributes := #[] }, { accessFlags := 0, nameIndex := 47, descriptorIndex := 246, attributes := #[] }, { accessFlags := 2, nameIndex := 114, descriptorIndex := 68, attributes := #[] }, { accessFlags := 2, nameIndex := 156, descriptorIndex := 157, attributes := #[] }] 48 2 #[] #[{ accessFlags := 18, nameIndex := 37, descriptorIndex := 38, attributes := #[] }, { accessFlags := 2, nameIndex := 47, descriptorIndex := 31, attributes := #[] }, { accessFlags := 2, nameIndex := 17, descriptorIndex := 18, attributes := #[] }, { accessFlags := 2, nameIndex := 50, descriptorIndex := 31, attributes := #[] }, { accessFlags := 2, nameIndex := 43, descriptorIndex := 31, attributes := #[] }, { accessFlags := 18, nameIndex := 24, descriptorIndex := 25, attributes := #[] }, { accessFlags := 2, nameIndex := 30, descriptorIndex := 31, attributes := #[] }, { accessFlags := 18, nameIndex := 58, descriptorIndex := 18, attributes := #[] }, { accessFlags := 2, nameIndex := 132, descriptorIndex := 38, attributes := #[] }, { accessFlags := 18, nameIndex := 34, descriptorIndex := 25, attributes := #[] }, { accessFlags := 2, nameIndex := 74, descriptorIndex := 75, attributes := #[] }, { accessFlags := 2, nameIndex := 64, descriptorIndex := 18, attributes := #[] }])
  fields := #[{ name := "size", type := .int, accessFlags := 18, slot := 0, constantValue := 0 }, { name := "committed", type := .long, accessFlags := 2, slot := 1, constantValue := 0 }, { name := "committedAhead", type := (.object "java/util/List"), accessFlags := 2, slot := 2, constantValue := 0 }, { name := "unfinished", type := .long, accessFlags := 2, slot := 3, constantValue := 0 }, { name := "next", type := .long, accessFlags := 2, slot := 4, constantValue := 0 }, { name := "finished", type := (.object "java/util/BitSet"), accessFlags := 18, slot := 5, constantValue := 0 }, { name := "restart", type := .long, accessFlags := 2, slot := 6, constantValue := 0 }, { name := "consumed", type := (.object "java/util/List"), accessFlags := 18, slot := 7, constantValue := 0 }, { name := "consumedAt", type := .int, accessFlags := 2, slot := 8, constantValue := 0 }, { name := "left", type := (.object "java/util/BitSet"), accessFlags := 18, slot := 9, constantValue := 0 }, { name := "failing", type := (.object "java/util/TreeMap"), accessFlags := 2, slot := 10, constantValue := 0 }, { name := "committedFailures", type := (.object "java/util/List"), accessFlags := 2, slot := 11, constantValue := 0 }]
  methods := #[k2m0, k2m1, k2m2, k2m3, k2m4, k2m5, k2m6, k2m7, k2m8]
  instanceTypes := #[.int, .long, (.object "java/util/List"), .long, .long, (.object "java/util/BitSet"), .long, (.object "java/util/List"), .int, (.object "java/util/BitSet"), (.object "java/util/TreeMap"), (.object "java/util/List")]
  staticTypes := #[]
  resolved := Array.replicate 257 none
  statics := none }

def pool3 : Array CpInfo := pool [(1, .methodref 2 3), (0, .class_ 4), (0, .nameAndType 5 6), (0, u "java/lang/Object"), (0, u "<init>"), (0, u "()V"), (0, .class_ 8), (0, u "java/lang/Record")] 13

def k3c0 : Code := { maxStack := 1, maxLocals := 1, code := jdk_30_method_1_code, exceptionTable := #[], attributes := #[] }
def k3m0 : Method := { name := "<init>", desc := "()V", sig := { parameters := [], returnType := none }, accessFlags := 4, code := some k3c0 }
/-- java/lang/Record -/
def k3 : Class := { plain "java/lang/Record" (some 0) with
  accessFlags := 1057
  interfaces := #[]
  cf := some (fileOf pool3 7 #[] #[{ accessFlags := 4, nameIndex := 5, descriptorIndex := 6, attributes := #[] }] 1057 2 #[] #[])
  fields := #[]
  methods := #[k3m0]
  instanceTypes := #[]
  staticTypes := #[]
  resolved := Array.replicate 22 none
  statics := none }

def pool4 : Array CpInfo := pool [(1, .methodref 2 3), (0, .class_ 4), (0, .nameAndType 5 6), (0, u "java/lang/Record"), (0, u "<init>"), (0, u "()V"), (0, .interfaceMethodref 8 9), (0, .class_ 10), (0, .nameAndType 11 12), (0, u "java/util/List"), (0, u "copyOf"), (0, u "(Ljava/util/Collection;)Ljava/util/List;"), (0, .interfaceMethodref 8 14), (0, .nameAndType 15 16), (0, u "iterator"), (0, u "()Ljava/util/Iterator;"), (0, .interfaceMethodref 18 19), (0, .class_ 20), (0, .nameAndType 21 22), (0, u "java/util/Iterator"), (0, u "hasNext"), (0, u "()Z"), (2, u "next"), (1, .class_ 28), (0, u "evenkeel/model/CommittedOffset$Span"), (1, .class_ 32), (1, u "evenkeel/model/CommittedOffset"), (2, .class_ 36), (0, u "evenkeel/model/CommittedOffset$Failed"), (4, .fieldref 30 42), (0, .nameAndType 43 44), (0, u "queue"), (0, u "Levenkeel/model/TopicQueue;"), (0, .fieldref 30 46), (0, .nameAndType 25 47), (0, u "J"), (0, .fieldref 30 49), (0, .nameAndType 50 51), (0, u "ahead"), (0, u "Ljava/util/List;"), (0, .fieldref 30 53), (0, .nameAndType 54 51), (0, u "failed"), (3, u "()J"), (34, .interfaceMethodref 8 94), (0, .nameAndType 95 96), (0, u "of"), (0, u "()Ljava/util/List;"), (0, .methodref 30 98), (0, .nameAndType 5 99), (0, u "(Levenkeel/model/TopicQueue;JLjava/util/List;Ljava/util/List;)V"), (97, u "(Levenkeel/model/TopicQueue;J)V")] 67

def k4c0 : Code := { maxStack := 6, maxLocals := 12, code := prog_145_method_1_code, exceptionTable := #[], attributes := #[] }
def k4m0 : Method := { name := "<init>", desc := "(Levenkeel/model/TopicQueue;JLjava/util/List;Ljava/util/List;)V", sig := { parameters := [(.object "evenkeel/model/TopicQueue"), .long, (.object "java/util/List"), (.object "java/util/List")], returnType := none }, accessFlags := 1, code := some k4c0 }
def k4c1 : Code := { maxStack := 6, maxLocals := 4, code := prog_145_method_2_code, exceptionTable := #[], attributes := #[] }
def k4m1 : Method := { name := "<init>", desc := "(Levenkeel/model/TopicQueue;J)V", sig := { parameters := [(.object "evenkeel/model/TopicQueue"), .long], returnType := none }, accessFlags := 1, code := some k4c1 }
def k4c2 : Code := { maxStack := 2, maxLocals := 1, code := prog_145_method_17_code, exceptionTable := #[], attributes := #[] }
def k4m2 : Method := { name := "next", desc := "()J", sig := { parameters := [], returnType := some .long }, accessFlags := 1, code := some k4c2 }
def k4c3 : Code := { maxStack := 1, maxLocals := 1, code := prog_145_method_18_code, exceptionTable := #[], attributes := #[] }
def k4m3 : Method := { name := "ahead", desc := "()Ljava/util/List;", sig := { parameters := [], returnType := some (.object "java/util/List") }, accessFlags := 1, code := some k4c3 }
def k4c4 : Code := { maxStack := 1, maxLocals := 1, code := prog_145_method_19_code, exceptionTable := #[], attributes := #[] }
def k4m4 : Method := { name := "failed", desc := "()Ljava/util/List;", sig := { parameters := [], returnType := some (.object "java/util/List") }, accessFlags := 1, code := some k4c4 }
/-- evenkeel/model/CommittedOffset -/
def k4 : Class := { plain "evenkeel/model/CommittedOffset" (some 3) with
  accessFlags := 49
  interfaces := #[]
  cf := some (fileOf pool4 30 #[.nestMembers #[35, 27]] #[{ accessFlags := 1, nameIndex := 5, descriptorIndex := 99, attributes := #[] }, { accessFlags := 1, nameIndex := 5, descriptorIndex := 197, attributes := #[] }, { accessFlags := 1, nameIndex := 25, descriptorIndex := 58, attributes := #[] }, { accessFlags := 1, nameIndex := 50, descriptorIndex := 96, attributes := #[] }, { accessFlags := 1, nameIndex := 54, descriptorIndex := 96, attributes := #[] }] 49 2 #[] #[{ accessFlags := 18, nameIndex := 43, descriptorIndex := 44, attributes := #[] }, { accessFlags := 18, nameIndex := 25, descriptorIndex := 47, attributes := #[] }, { accessFlags := 18, nameIndex := 50, descriptorIndex := 51, attributes := #[] }, { accessFlags := 18, nameIndex := 54, descriptorIndex := 51, attributes := #[] }])
  fields := #[{ name := "queue", type := (.object "evenkeel/model/TopicQueue"), accessFlags := 18, slot := 0, constantValue := 0 }, { name := "next", type := .long, accessFlags := 18, slot := 1, constantValue := 0 }, { name := "ahead", type := (.object "java/util/List"), accessFlags := 18, slot := 2, constantValue := 0 }, { name := "failed", type := (.object "java/util/List"), accessFlags := 18, slot := 3, constantValue := 0 }]
  methods := #[k4m0, k4m1, k4m2, k4m3, k4m4]
  instanceTypes := #[(.object "evenkeel/model/TopicQueue"), .long, (.object "java/util/List"), (.object "java/util/List")]
  staticTypes := #[]
  resolved := Array.replicate 265 none
  statics := none }

def pool5 : Array CpInfo := pool [(8, .class_ 10), (1, u "java/lang/Iterable"), (24, .class_ 36), (0, u "java/lang/Object")] 25

/-- java/lang/Iterable -/
def k5 : Class := { plain "java/lang/Iterable" (some 0) with
  accessFlags := 1537
  interfaces := #[]
  cf := some (fileOf pool5 8 #[] #[] 1537 35 #[] #[])
  fields := #[]
  methods := #[]
  instanceTypes := #[]
  staticTypes := #[]
  resolved := Array.replicate 62 none
  statics := none }

def pool6 : Array CpInfo := pool [(10, .class_ 12), (1, u "java/util/Collection"), (47, .class_ 61), (0, u "java/lang/Object"), (0, .class_ 63), (0, u "java/lang/Iterable")] 51

/-- java/util/Collection -/
def k6 : Class := { plain "java/util/Collection" (some 0) with
  accessFlags := 1537
  interfaces := #[5]
  cf := some (fileOf pool6 10 #[] #[] 1537 60 #[62] #[])
  fields := #[]
  methods := #[]
  instanceTypes := #[]
  staticTypes := #[]
  resolved := Array.replicate 115 none
  statics := none }

def pool7 : Array CpInfo := pool [(8, .class_ 10), (1, u "java/util/SequencedCollection"), (15, .class_ 27), (0, u "java/lang/Object"), (0, .class_ 29), (0, u "java/util/Collection")] 27

/-- java/util/SequencedCollection -/
def k7 : Class := { plain "java/util/SequencedCollection" (some 0) with
  accessFlags := 1537
  interfaces := #[6]
  cf := some (fileOf pool7 8 #[] #[] 1537 26 #[28] #[])
  fields := #[]
  methods := #[]
  instanceTypes := #[]
  staticTypes := #[]
  resolved := Array.replicate 57 none
  statics := none }

def pool8 : Array CpInfo := pool [(8, .class_ 10), (1, u "java/util/List"), (7, u "()Z"), (48, u "isEmpty"), (11, u "size"), (0, u "()I"), (7, u "of"), (1, .fieldref 91 92), (0, .class_ 93), (0, .nameAndType 94 95), (0, u "java/util/ImmutableCollections"), (0, u "EMPTY_LIST"), (0, u "Ljava/util/ImmutableCollections$ListN;"), (7, .class_ 104), (0, u "java/lang/Object"), (7, .methodref 91 113), (0, .nameAndType 114 115), (0, u "listCopy"), (0, u "(Ljava/util/Collection;)Ljava/util/List;"), (3, u "()Ljava/util/List;"), (0, .class_ 121), (0, u "java/util/SequencedCollection"), (1, u "iterator"), (0, u "()Ljava/util/Iterator;"), (109, u "copyOf")] 16

def k8m0 : Method := { name := "size", desc := "()I", sig := { parameters := [], returnType := some .int }, accessFlags := 1025, code := none }
def k8m1 : Method := { name := "isEmpty", desc := "()Z", sig := { parameters := [], returnType := some .boolean }, accessFlags := 1025, code := none }
def k8m2 : Method := { name := "iterator", desc := "()Ljava/util/Iterator;", sig := { parameters := [], returnType := some (.object "java/util/Iterator") }, accessFlags := 1025, code := none }
def k8c3 : Code := { maxStack := 1, maxLocals := 0, code := jdk_40_method_36_code, exceptionTable := #[], attributes := #[] }
def k8m3 : Method := { name := "of", desc := "()Ljava/util/List;", sig := { parameters := [], returnType := some (.object "java/util/List") }, accessFlags := 9, code := some k8c3 }
def k8c4 : Code := { maxStack := 1, maxLocals := 1, code := jdk_40_method_48_code, exceptionTable := #[], attributes := #[] }
def k8m4 : Method := { name := "copyOf", desc := "(Ljava/util/Collection;)Ljava/util/List;", sig := { parameters := [(.object "java/util/Collection")], returnType := some (.object "java/util/List") }, accessFlags := 9, code := some k8c4 }
/-- java/util/List -/
def k8 : Class := { plain "java/util/List" (some 0) with
  accessFlags := 1537
  interfaces := #[7]
  cf := some (fileOf pool8 8 #[] #[{ accessFlags := 1025, nameIndex := 79, descriptorIndex := 80, attributes := #[] }, { accessFlags := 1025, nameIndex := 67, descriptorIndex := 18, attributes := #[] }, { accessFlags := 1025, nameIndex := 123, descriptorIndex := 124, attributes := #[] }, { accessFlags := 9, nameIndex := 88, descriptorIndex := 119, attributes := #[] }, { accessFlags := 9, nameIndex := 234, descriptorIndex := 115, attributes := #[] }] 1537 103 #[120] #[])
  fields := #[]
  methods := #[k8m0, k8m1, k8m2, k8m3, k8m4]
  instanceTypes := #[]
  staticTypes := #[]
  resolved := Array.replicate 251 none
  statics := none }

def pool9 : Array CpInfo := pool [(2, .class_ 4), (1, u "java/lang/Object"), (0, u "<init>"), (0, u "()V"), (3, .class_ 11), (0, u "java/util/ImmutableCollections$List12"), (0, .class_ 13), (0, u "java/util/ImmutableCollections$ListN"), (0, .fieldref 12 15), (0, .nameAndType 16 17), (0, u "allowNulls"), (0, u "Z"), (0, .class_ 19), (0, u "java/util/List"), (27, .class_ 49), (1, u "java/util/ImmutableCollections"), (0, u "$assertionsDisabled"), (5, u "[Ljava/lang/Object;"), (5, u "EMPTY_LIST"), (0, u "Ljava/util/ImmutableCollections$ListN;"), (8, u "EMPTY_LIST_NULLS"), (22, u "SALT32L"), (0, u "J"), (2, u "REVERSE"), (6, u "archivedObjects"), (2, u "EMPTY"), (0, u "Ljava/lang/Object;"), (0, .class_ 112), (0, u "java/util/ImmutableCollections$SetN"), (5, u "EMPTY_SET"), (0, u "Ljava/util/ImmutableCollections$SetN;"), (0, .class_ 121), (0, u "java/util/ImmutableCollections$MapN"), (3, u "EMPTY_MAP"), (0, u "Ljava/util/ImmutableCollections$MapN;"), (4, u "EXPAND_FACTOR"), (0, u "I"), (9, u "listCopy"), (0, u "(Ljava/util/Collection;)Ljava/util/List;"), (25, .class_ 170), (0, u "java/util/ImmutableCollections$MapN$MapNIterator"), (0, .class_ 172), (0, u "java/util/ImmutableCollections$MapN$1"), (0, .class_ 174), (0, u "java/util/ImmutableCollections$Map1"), (0, .class_ 176), (0, u "java/util/ImmutableCollections$AbstractImmutableMap"), (0, .class_ 178), (0, u "java/util/ImmutableCollections$SetN$SetNIterator"), (0, .class_ 180), (0, u "java/util/ImmutableCollections$Set12"), (0, .class_ 182), (0, u "java/util/ImmutableCollections$Set12$1"), (0, .class_ 184), (0, u "java/util/ImmutableCollections$AbstractImmutableSet"), (0, .class_ 186), (0, u "java/util/ImmutableCollections$SubList"), (0, .class_ 188), (0, u "java/util/ImmutableCollections$ListItr"), (0, .class_ 190), (0, u "java/util/ImmutableCollections$AbstractImmutableList"), (0, .class_ 192), (0, u "java/util/ImmutableCollections$AbstractImmutableCollection"), (0, .class_ 194), (0, u "java/util/ImmutableCollections$Access"), (0, .class_ 196), (0, u "java/util/ImmutableCollections$Access$1")] 16

def k9m0 : Method := { name := "<init>", desc := "()V", sig := { parameters := [], returnType := none }, accessFlags := 2, code := none }
def k9c1 : Code := { maxStack := 1, maxLocals := 2, code := jdk_56_method_3_code, exceptionTable := #[], attributes := #[] }
def k9m1 : Method := { name := "listCopy", desc := "(Ljava/util/Collection;)Ljava/util/List;", sig := { parameters := [(.object "java/util/Collection")], returnType := some (.object "java/util/List") }, accessFlags := 8, code := some k9c1 }
/-- java/util/ImmutableCollections -/
def k9 : Class := { plain "java/util/ImmutableCollections" (some 0) with
  accessFlags := 32
  interfaces := #[]
  cf := some (fileOf pool9 47 #[.nestMembers #[120, 169, 171, 173, 175, 111, 177, 179, 181, 183, 12, 10, 185, 187, 189, 191, 193, 195]] #[{ accessFlags := 2, nameIndex := 5, descriptorIndex := 6, attributes := #[] }, { accessFlags := 8, nameIndex := 142, descriptorIndex := 143, attributes := #[] }] 32 2 #[] #[{ accessFlags := 26, nameIndex := 95, descriptorIndex := 96, attributes := #[] }, { accessFlags := 26, nameIndex := 99, descriptorIndex := 17, attributes := #[] }, { accessFlags := 10, nameIndex := 106, descriptorIndex := 56, attributes := #[] }, { accessFlags := 26, nameIndex := 109, descriptorIndex := 110, attributes := #[] }, { accessFlags := 24, nameIndex := 62, descriptorIndex := 63, attributes := #[] }, { accessFlags := 24, nameIndex := 72, descriptorIndex := 63, attributes := #[] }, { accessFlags := 24, nameIndex := 118, descriptorIndex := 119, attributes := #[] }, { accessFlags := 24, nameIndex := 125, descriptorIndex := 126, attributes := #[] }, { accessFlags := 24, nameIndex := 131, descriptorIndex := 132, attributes := #[] }, { accessFlags := 4120, nameIndex := 50, descriptorIndex := 17, attributes := #[] }])
  fields := #[{ name := "SALT32L", type := .long, accessFlags := 26, slot := 0, constantValue := 0 }, { name := "REVERSE", type := .boolean, accessFlags := 26, slot := 1, constantValue := 0 }, { name := "archivedObjects", type := (.array (.object "java/lang/Object")), accessFlags := 10, slot := 2, constantValue := 0 }, { name := "EMPTY", type := (.object "java/lang/Object"), accessFlags := 26, slot := 3, constantValue := 0 }, { name := "EMPTY_LIST", type := (.object "java/util/ImmutableCollections$ListN"), accessFlags := 24, slot := 4, constantValue := 0 }, { name := "EMPTY_LIST_NULLS", type := (.object "java/util/ImmutableCollections$ListN"), accessFlags := 24, slot := 5, constantValue := 0 }, { name := "EMPTY_SET", type := (.object "java/util/ImmutableCollections$SetN"), accessFlags := 24, slot := 6, constantValue := 0 }, { name := "EMPTY_MAP", type := (.object "java/util/ImmutableCollections$MapN"), accessFlags := 24, slot := 7, constantValue := 0 }, { name := "EXPAND_FACTOR", type := .int, accessFlags := 24, slot := 8, constantValue := 0 }, { name := "$assertionsDisabled", type := .boolean, accessFlags := 4120, slot := 9, constantValue := 0 }]
  methods := #[k9m0, k9m1]
  instanceTypes := #[]
  staticTypes := #[.long, .boolean, (.array (.object "java/lang/Object")), (.object "java/lang/Object"), (.object "java/util/ImmutableCollections$ListN"), (.object "java/util/ImmutableCollections$ListN"), (.object "java/util/ImmutableCollections$SetN"), (.object "java/util/ImmutableCollections$MapN"), .int, .boolean]
  resolved := Array.replicate 213 none
  statics := some 0 }

def pool10 : Array CpInfo := pool [(1, .methodref 2 3), (0, .class_ 4), (0, .nameAndType 5 6), (0, u "java/lang/Object"), (0, u "<init>"), (0, u "()V"), (1, .class_ 10), (1, u "java/util/AbstractCollection"), (0, u "size"), (0, u "()I"), (64, .class_ 78), (0, u "java/util/Collection")] 81

def k10c0 : Code := { maxStack := 1, maxLocals := 1, code := jdk_22_method_1_code, exceptionTable := #[], attributes := #[] }
def k10m0 : Method := { name := "<init>", desc := "()V", sig := { parameters := [], returnType := none }, accessFlags := 4, code := some k10c0 }
def k10m1 : Method := { name := "size", desc := "()I", sig := { parameters := [], returnType := some .int }, accessFlags := 1025, code := none }
/-- java/util/AbstractCollection -/
def k10 : Class := { plain "java/util/AbstractCollection" (some 0) with
  accessFlags := 1057
  interfaces := #[6]
  cf := some (fileOf pool10 8 #[] #[{ accessFlags := 4, nameIndex := 5, descriptorIndex := 6, attributes := #[] }, { accessFlags := 1025, nameIndex := 11, descriptorIndex := 12, attributes := #[] }] 1057 2 #[77] #[])
  fields := #[]
  methods := #[k10m0, k10m1]
  instanceTypes := #[]
  staticTypes := #[]
  resolved := Array.replicate 160 none
  statics := none }

def pool11 : Array CpInfo := pool [(2, .class_ 4), (1, u "java/util/AbstractCollection"), (0, u "<init>"), (0, u "()V"), (1, .class_ 10), (1, u "java/util/ImmutableCollections"), (2, .class_ 14), (0, u "java/util/ImmutableCollections$AbstractImmutableCollection")] 41

def k11m0 : Method := { name := "<init>", desc := "()V", sig := { parameters := [], returnType := none }, accessFlags := 0, code := none }
/-- java/util/ImmutableCollections$AbstractImmutableCollection -/
def k11 : Class := { plain "java/util/ImmutableCollections$AbstractImmutableCollection" (some 10) with
  accessFlags := 1056
  interfaces := #[]
  cf := some (fileOf pool11 13 #[.nestHost 8] #[{ accessFlags := 0, nameIndex := 5, descriptorIndex := 6, attributes := #[] }] 1056 2 #[] #[])
  fields := #[]
  methods := #[k11m0]
  instanceTypes := #[]
  staticTypes := #[]
  resolved := Array.replicate 56 none
  statics := none }

def pool12 : Array CpInfo := pool [(1, .class_ 2), (0, u "java/util/RandomAccess"), (0, .class_ 4), (0, u "java/lang/Object")] 2

/-- java/util/RandomAccess -/
def k12 : Class := { plain "java/util/RandomAccess" (some 0) with
  accessFlags := 1537
  interfaces := #[]
  cf := some (fileOf pool12 1 #[] #[] 1537 3 #[] #[])
  fields := #[]
  methods := #[]
  instanceTypes := #[]
  staticTypes := #[]
  resolved := Array.replicate 7 none
  statics := none }

def pool13 : Array CpInfo := pool [(2, .class_ 4), (1, u "java/util/ImmutableCollections$AbstractImmutableCollection"), (0, u "<init>"), (0, u "()V"), (1, .class_ 10), (1, u "java/util/ImmutableCollections"), (2, .methodref 14 15), (0, .class_ 16), (0, .nameAndType 17 18), (0, u "java/util/ImmutableCollections$AbstractImmutableList"), (0, u "size"), (0, u "()I"), (42, .class_ 62), (0, u "java/util/ImmutableCollections$ListItr"), (0, .methodref 61 64), (0, .nameAndType 5 65), (0, u "(Ljava/util/List;I)V"), (11, .class_ 78), (0, u "java/util/List"), (2, u "iterator"), (0, u "()Ljava/util/Iterator;"), (41, .class_ 125), (0, u "java/util/RandomAccess")] 70

def k13m0 : Method := { name := "<init>", desc := "()V", sig := { parameters := [], returnType := none }, accessFlags := 0, code := none }
def k13c1 : Code := { maxStack := 4, maxLocals := 1, code := jdk_46_method_10_code, exceptionTable := #[], attributes := #[] }
def k13m1 : Method := { name := "iterator", desc := "()Ljava/util/Iterator;", sig := { parameters := [], returnType := some (.object "java/util/Iterator") }, accessFlags := 1, code := some k13c1 }
/-- java/util/ImmutableCollections$AbstractImmutableList -/
def k13 : Class := { plain "java/util/ImmutableCollections$AbstractImmutableList" (some 11) with
  accessFlags := 1056
  interfaces := #[8, 12]
  cf := some (fileOf pool13 14 #[.nestHost 8] #[{ accessFlags := 0, nameIndex := 5, descriptorIndex := 6, attributes := #[] }, { accessFlags := 1, nameIndex := 81, descriptorIndex := 82, attributes := #[] }] 1056 2 #[77, 124] #[])
  fields := #[]
  methods := #[k13m0, k13m1]
  instanceTypes := #[]
  staticTypes := #[]
  resolved := Array.replicate 196 none
  statics := none }

def pool14 : Array CpInfo := pool [(1, .class_ 2), (0, u "java/io/Serializable"), (0, .class_ 4), (0, u "java/lang/Object")] 2

/-- java/io/Serializable -/
def k14 : Class := { plain "java/io/Serializable" (some 0) with
  accessFlags := 1537
  interfaces := #[]
  cf := some (fileOf pool14 1 #[] #[] 1537 3 #[] #[])
  fields := #[]
  methods := #[]
  instanceTypes := #[]
  staticTypes := #[]
  resolved := Array.replicate 7 none
  statics := none }

def pool15 : Array CpInfo := pool [(2, .class_ 4), (1, u "java/util/ImmutableCollections$AbstractImmutableList"), (9, .class_ 16), (1, u "java/util/ImmutableCollections$List12"), (0, u "e0"), (0, u "Ljava/lang/Object;"), (1, .class_ 22), (1, u "java/util/ImmutableCollections"), (3, u "e1"), (43, .class_ 71), (0, u "java/io/Serializable")] 53

/-- java/util/ImmutableCollections$List12 -/
def k15 : Class := { plain "java/util/ImmutableCollections$List12" (some 13) with
  accessFlags := 48
  interfaces := #[14]
  cf := some (fileOf pool15 14 #[.nestHost 20] #[] 48 2 #[70] #[{ accessFlags := 18, nameIndex := 17, descriptorIndex := 18, attributes := #[] }, { accessFlags := 18, nameIndex := 26, descriptorIndex := 18, attributes := #[] }])
  fields := #[{ name := "e0", type := (.object "java/lang/Object"), accessFlags := 18, slot := 0, constantValue := 0 }, { name := "e1", type := (.object "java/lang/Object"), accessFlags := 18, slot := 1, constantValue := 0 }]
  methods := #[]
  instanceTypes := #[(.object "java/lang/Object"), (.object "java/lang/Object")]
  staticTypes := #[]
  resolved := Array.replicate 125 none
  statics := none }

def pool16 : Array CpInfo := pool [(2, .class_ 4), (1, u "java/util/ImmutableCollections$AbstractImmutableList"), (2, .fieldref 8 9), (0, .class_ 10), (0, .nameAndType 11 12), (0, u "java/util/ImmutableCollections$ListN"), (0, u "elements"), (0, u "[Ljava/lang/Object;"), (2, u "allowNulls"), (0, u "Z"), (42, .class_ 60), (0, u "java/io/Serializable"), (13, u "isEmpty"), (0, u "()Z"), (1, u "size"), (0, u "()I"), (35, .class_ 115), (0, u "java/util/ImmutableCollections")] 3

def k16c0 : Code := { maxStack := 1, maxLocals := 1, code := jdk_45_method_2_code, exceptionTable := #[], attributes := #[] }
def k16m0 : Method := { name := "isEmpty", desc := "()Z", sig := { parameters := [], returnType := some .boolean }, accessFlags := 1, code := some k16c0 }
def k16c1 : Code := { maxStack := 1, maxLocals := 1, code := jdk_45_method_3_code, exceptionTable := #[], attributes := #[] }
def k16m1 : Method := { name := "size", desc := "()I", sig := { parameters := [], returnType := some .int }, accessFlags := 1, code := some k16c1 }
/-- java/util/ImmutableCollections$ListN -/
def k16 : Class := { plain "java/util/ImmutableCollections$ListN" (some 13) with
  accessFlags := 48
  interfaces := #[14]
  cf := some (fileOf pool16 8 #[.nestHost 114] #[{ accessFlags := 1, nameIndex := 74, descriptorIndex := 75, attributes := #[] }, { accessFlags := 1, nameIndex := 77, descriptorIndex := 78, attributes := #[] }] 48 2 #[59] #[{ accessFlags := 18, nameIndex := 11, descriptorIndex := 12, attributes := #[] }, { accessFlags := 18, nameIndex := 15, descriptorIndex := 16, attributes := #[] }])
  fields := #[{ name := "elements", type := (.array (.object "java/lang/Object")), accessFlags := 18, slot := 0, constantValue := 0 }, { name := "allowNulls", type := .boolean, accessFlags := 18, slot := 1, constantValue := 0 }]
  methods := #[k16m0, k16m1]
  instanceTypes := #[(.array (.object "java/lang/Object")), .boolean]
  staticTypes := #[]
  resolved := Array.replicate 119 none
  statics := none }

def pool17 : Array CpInfo := pool [(16, .class_ 18), (1, u "java/util/Iterator"), (0, u "hasNext"), (0, u "()Z"), (10, .class_ 32), (0, u "java/lang/Object")] 20

def k17m0 : Method := { name := "hasNext", desc := "()Z", sig := { parameters := [], returnType := some .boolean }, accessFlags := 1025, code := none }
/-- java/util/Iterator -/
def k17 : Class := { plain "java/util/Iterator" (some 0) with
  accessFlags := 1537
  interfaces := #[]
  cf := some (fileOf pool17 16 #[] #[{ accessFlags := 1025, nameIndex := 19, descriptorIndex := 20, attributes := #[] }] 1537 31 #[] #[])
  fields := #[]
  methods := #[k17m0]
  instanceTypes := #[]
  staticTypes := #[]
  resolved := Array.replicate 53 none
  statics := none }

def pool18 : Array CpInfo := pool [(1, .class_ 2), (0, u "java/util/ListIterator"), (0, .class_ 4), (0, u "java/lang/Object"), (0, .class_ 6), (0, u "java/util/Iterator")] 20

/-- java/util/ListIterator -/
def k18 : Class := { plain "java/util/ListIterator" (some 0) with
  accessFlags := 1537
  interfaces := #[17]
  cf := some (fileOf pool18 1 #[] #[] 1537 3 #[5] #[])
  fields := #[]
  methods := #[]
  instanceTypes := #[]
  staticTypes := #[]
  resolved := Array.replicate 27 none
  statics := none }

def pool19 : Array CpInfo := pool [(1, .methodref 2 3), (0, .class_ 4), (0, .nameAndType 5 6), (0, u "java/lang/Object"), (0, u "<init>"), (0, u "()V"), (0, .fieldref 8 9), (0, .class_ 10), (0, .nameAndType 11 12), (0, u "java/util/ImmutableCollections$ListItr"), (0, u "list"), (0, u "Ljava/util/List;"), (0, .fieldref 8 14), (0, .nameAndType 15 16), (0, u "size"), (0, u "I"), (0, .fieldref 8 18), (0, .nameAndType 19 16), (0, u "cursor"), (0, .fieldref 8 21), (0, .nameAndType 22 23), (0, u "isListIterator"), (0, u "Z"), (12, .class_ 38), (1, u "java/util/ImmutableCollections"), (2, .class_ 42), (0, u "java/util/ListIterator"), (4, u "(Ljava/util/List;I)V"), (11, u "hasNext"), (0, u "()Z")] 25

def k19c0 : Code := { maxStack := 2, maxLocals := 3, code := jdk_53_method_1_code, exceptionTable := #[], attributes := #[] }
def k19m0 : Method := { name := "<init>", desc := "(Ljava/util/List;I)V", sig := { parameters := [(.object "java/util/List"), .int], returnType := none }, accessFlags := 0, code := some k19c0 }
def k19c1 : Code := { maxStack := 2, maxLocals := 1, code := jdk_53_method_3_code, exceptionTable := #[], attributes := #[] }
def k19m1 : Method := { name := "hasNext", desc := "()Z", sig := { parameters := [], returnType := some .boolean }, accessFlags := 1, code := some k19c1 }
/-- java/util/ImmutableCollections$ListItr -/
def k19 : Class := { plain "java/util/ImmutableCollections$ListItr" (some 0) with
  accessFlags := 48
  interfaces := #[18]
  cf := some (fileOf pool19 8 #[.nestHost 36] #[{ accessFlags := 0, nameIndex := 5, descriptorIndex := 47, attributes := #[] }, { accessFlags := 1, nameIndex := 59, descriptorIndex := 60, attributes := #[] }] 48 2 #[41] #[{ accessFlags := 18, nameIndex := 11, descriptorIndex := 12, attributes := #[] }, { accessFlags := 18, nameIndex := 15, descriptorIndex := 16, attributes := #[] }, { accessFlags := 18, nameIndex := 22, descriptorIndex := 23, attributes := #[] }, { accessFlags := 2, nameIndex := 19, descriptorIndex := 16, attributes := #[] }])
  fields := #[{ name := "list", type := (.object "java/util/List"), accessFlags := 18, slot := 0, constantValue := 0 }, { name := "size", type := .int, accessFlags := 18, slot := 1, constantValue := 0 }, { name := "isListIterator", type := .boolean, accessFlags := 18, slot := 2, constantValue := 0 }, { name := "cursor", type := .int, accessFlags := 2, slot := 3, constantValue := 0 }]
  methods := #[k19m0, k19m1]
  instanceTypes := #[(.object "java/util/List"), .int, .boolean, .int]
  staticTypes := #[]
  resolved := Array.replicate 86 none
  statics := none }

def pool20 : Array CpInfo := pool [(1, .class_ 2), (0, u "java/lang/Cloneable"), (0, .class_ 4), (0, u "java/lang/Object")] 2

/-- java/lang/Cloneable -/
def k20 : Class := { plain "java/lang/Cloneable" (some 0) with
  accessFlags := 1537
  interfaces := #[]
  cf := some (fileOf pool20 1 #[] #[] 1537 3 #[] #[])
  fields := #[]
  methods := #[]
  instanceTypes := #[]
  staticTypes := #[]
  resolved := Array.replicate 7 none
  statics := none }

def pool21 : Array CpInfo := pool [(1, .class_ 2), (0, u "java/util/BitSet"), (0, .fieldref 1 4), (0, .nameAndType 5 6), (0, u "$assertionsDisabled"), (0, u "Z"), (0, .fieldref 1 8), (0, .nameAndType 9 10), (0, u "wordsInUse"), (0, u "I"), (0, .fieldref 1 12), (0, .nameAndType 13 14), (0, u "words"), (0, u "[J"), (3, .nameAndType 19 20), (0, u "<init>"), (0, u "()V"), (0, .methodref 22 18), (0, .class_ 23), (0, u "java/lang/Object"), (0, .fieldref 1 25), (0, .nameAndType 26 6), (0, u "sizeIsSticky"), (0, .methodref 1 28), (0, .nameAndType 29 30), (0, u "initWords"), (0, u "(I)V"), (21, .methodref 1 53), (0, .nameAndType 54 55), (0, u "wordIndex"), (0, u "(I)I"), (0, .methodref 1 57), (0, .nameAndType 58 20), (0, u "checkInvariants"), (21, u "get"), (188, .class_ 270), (0, u "java/util/BitSet$1BitSetSpliterator"), (14, u "()Z"), (7, u "serialPersistentFields"), (0, u "[Ljava/io/ObjectStreamField;"), (0, .class_ 296), (0, u "java/lang/Cloneable"), (0, .class_ 298), (0, u "java/io/Serializable"), (0, u "ADDRESS_BITS_PER_WORD"), (2, u "BITS_PER_WORD"), (1, u "BIT_INDEX_MASK"), (1, u "WORD_MASK"), (0, u "J"), (0, u "serialVersionUID"), (42, u "(I)Z"), (9, u "isEmpty")] 55

def k21c0 : Code := { maxStack := 2, maxLocals := 1, code := jdk_92_method_1_code, exceptionTable := #[], attributes := #[] }
def k21m0 : Method := { name := "wordIndex", desc := "(I)I", sig := { parameters := [.int], returnType := some .int }, accessFlags := 10, code := some k21c0 }
def k21c1 : Code := { maxStack := 4, maxLocals := 1, code := jdk_92_method_2_code, exceptionTable := #[], attributes := #[] }
def k21m1 : Method := { name := "checkInvariants", desc := "()V", sig := { parameters := [], returnType := none }, accessFlags := 2, code := some k21c1 }
def k21c2 : Code := { maxStack := 2, maxLocals := 1, code := jdk_92_method_4_code, exceptionTable := #[], attributes := #[] }
def k21m2 : Method := { name := "<init>", desc := "()V", sig := { parameters := [], returnType := none }, accessFlags := 1, code := some k21c2 }
def k21c3 : Code := { maxStack := 3, maxLocals := 2, code := jdk_92_method_6_code, exceptionTable := #[], attributes := #[] }
def k21m3 : Method := { name := "initWords", desc := "(I)V", sig := { parameters := [.int], returnType := none }, accessFlags := 2, code := some k21c3 }
def k21c4 : Code := { maxStack := 5, maxLocals := 3, code := jdk_92_method_26_code, exceptionTable := #[], attributes := #[] }
def k21m4 : Method := { name := "get", desc := "(I)Z", sig := { parameters := [.int], returnType := some .boolean }, accessFlags := 1, code := some k21c4 }
def k21c5 : Code := { maxStack := 1, maxLocals := 1, code := jdk_92_method_33_code, exceptionTable := #[], attributes := #[] }
def k21m5 : Method := { name := "isEmpty", desc := "()Z", sig := { parameters := [], returnType := some .boolean }, accessFlags := 1, code := some k21c5 }
/-- java/util/BitSet -/
def k21 : Class := { plain "java/util/BitSet" (some 0) with
  accessFlags := 33
  interfaces := #[20, 14]
  cf := some (fileOf pool21 1 #[.nestMembers #[269]] #[{ accessFlags := 10, nameIndex := 54, descriptorIndex := 55, attributes := #[] }, { accessFlags := 2, nameIndex := 58, descriptorIndex := 20, attributes := #[] }, { accessFlags := 1, nameIndex := 19, descriptorIndex := 20, attributes := #[] }, { accessFlags := 2, nameIndex := 29, descriptorIndex := 30, attributes := #[] }, { accessFlags := 1, nameIndex := 80, descriptorIndex := 351, attributes := #[] }, { accessFlags := 1, nameIndex := 361, descriptorIndex := 285, attributes := #[] }] 33 22 #[295, 297] #[{ accessFlags := 26, nameIndex := 299, descriptorIndex := 10, attributes := #[] }, { accessFlags := 26, nameIndex := 302, descriptorIndex := 10, attributes := #[] }, { accessFlags := 26, nameIndex := 304, descriptorIndex := 10, attributes := #[] }, { accessFlags := 26, nameIndex := 306, descriptorIndex := 307, attributes := #[] }, { accessFlags := 26, nameIndex := 293, descriptorIndex := 294, attributes := #[] }, { accessFlags := 2, nameIndex := 13, descriptorIndex := 14, attributes := #[] }, { accessFlags := 130, nameIndex := 9, descriptorIndex := 10, attributes := #[] }, { accessFlags := 130, nameIndex := 26, descriptorIndex := 6, attributes := #[] }, { accessFlags := 26, nameIndex := 308, descriptorIndex := 307, attributes := #[] }, { accessFlags := 4120, nameIndex := 5, descriptorIndex := 6, attributes := #[] }])
  fields := #[{ name := "ADDRESS_BITS_PER_WORD", type := .int, accessFlags := 26, slot := 0, constantValue := 0 }, { name := "BITS_PER_WORD", type := .int, accessFlags := 26, slot := 1, constantValue := 0 }, { name := "BIT_INDEX_MASK", type := .int, accessFlags := 26, slot := 2, constantValue := 0 }, { name := "WORD_MASK", type := .long, accessFlags := 26, slot := 3, constantValue := 0 }, { name := "serialPersistentFields", type := (.array (.object "java/io/ObjectStreamField")), accessFlags := 26, slot := 4, constantValue := 0 }, { name := "words", type := (.array .long), accessFlags := 2, slot := 0, constantValue := 0 }, { name := "wordsInUse", type := .int, accessFlags := 130, slot := 1, constantValue := 0 }, { name := "sizeIsSticky", type := .boolean, accessFlags := 130, slot := 2, constantValue := 0 }, { name := "serialVersionUID", type := .long, accessFlags := 26, slot := 5, constantValue := 0 }, { name := "$assertionsDisabled", type := .boolean, accessFlags := 4120, slot := 6, constantValue := 0 }]
  methods := #[k21m0, k21m1, k21m2, k21m3, k21m4, k21m5]
  instanceTypes := #[(.array .long), .int, .boolean]
  staticTypes := #[.int, .int, .int, .long, (.array (.object "java/io/ObjectStreamField")), .long, .boolean]
  resolved := Array.replicate 417 none
  statics := some 1 }

def pool22 : Array CpInfo := pool [(1, .class_ 2), (0, u "java/lang/Math"), (1, .class_ 6), (1, u "java/lang/Object"), (0, u "<init>"), (0, u "()V"), (89, .class_ 100), (1, u "java/lang/Math$RandomNumberGeneratorHolder"), (20, u "(JJ)J"), (50, u "negativeZeroFloatBits"), (0, u "J"), (2, u "negativeZeroDoubleBits"), (21, u "max"), (2, u "min"), (43, u "$assertionsDisabled"), (0, u "Z"), (88, u "(II)I"), (2, u "twoToTheDoubleScaleDown"), (0, u "D"), (4, u "twoToTheDoubleScaleUp"), (9, u "E"), (3, u "PI"), (2, u "TAU"), (2, u "DEGREES_TO_RADIANS"), (0, u "RADIANS_TO_DEGREES")] 94

def k22m0 : Method := { name := "<init>", desc := "()V", sig := { parameters := [], returnType := none }, accessFlags := 2, code := none }
def k22c1 : Code := { maxStack := 4, maxLocals := 4, code := jdk_29_method_66_code, exceptionTable := #[], attributes := #[] }
def k22m1 : Method := { name := "max", desc := "(JJ)J", sig := { parameters := [.long, .long], returnType := some .long }, accessFlags := 9, code := some k22c1 }
def k22c2 : Code := { maxStack := 2, maxLocals := 2, code := jdk_29_method_69_code, exceptionTable := #[], attributes := #[] }
def k22m2 : Method := { name := "min", desc := "(II)I", sig := { parameters := [.int, .int], returnType := some .int }, accessFlags := 9, code := some k22c2 }
/-- java/lang/Math -/
def k22 : Class := { plain "java/lang/Math" (some 0) with
  accessFlags := 49
  interfaces := #[]
  cf := some (fileOf pool22 1 #[.nestMembers #[98]] #[{ accessFlags := 2, nameIndex := 7, descriptorIndex := 8, attributes := #[] }, { accessFlags := 9, nameIndex := 198, descriptorIndex := 121, attributes := #[] }, { accessFlags := 9, nameIndex := 201, descriptorIndex := 335, attributes := #[] }] 49 4 #[] #[{ accessFlags := 25, nameIndex := 354, descriptorIndex := 339, attributes := #[] }, { accessFlags := 25, nameIndex := 358, descriptorIndex := 339, attributes := #[] }, { accessFlags := 25, nameIndex := 361, descriptorIndex := 339, attributes := #[] }, { accessFlags := 26, nameIndex := 364, descriptorIndex := 339, attributes := #[] }, { accessFlags := 26, nameIndex := 365, descriptorIndex := 339, attributes := #[] }, { accessFlags := 26, nameIndex := 172, descriptorIndex := 173, attributes := #[] }, { accessFlags := 26, nameIndex := 176, descriptorIndex := 173, attributes := #[] }, { accessFlags := 8, nameIndex := 344, descriptorIndex := 339, attributes := #[] }, { accessFlags := 8, nameIndex := 338, descriptorIndex := 339, attributes := #[] }, { accessFlags := 4120, nameIndex := 245, descriptorIndex := 246, attributes := #[] }])
  fields := #[{ name := "E", type := .double, accessFlags := 25, slot := 0, constantValue := 0 }, { name := "PI", type := .double, accessFlags := 25, slot := 1, constantValue := 0 }, { name := "TAU", type := .double, accessFlags := 25, slot := 2, constantValue := 0 }, { name := "DEGREES_TO_RADIANS", type := .double, accessFlags := 26, slot := 3, constantValue := 0 }, { name := "RADIANS_TO_DEGREES", type := .double, accessFlags := 26, slot := 4, constantValue := 0 }, { name := "negativeZeroFloatBits", type := .long, accessFlags := 26, slot := 5, constantValue := 0 }, { name := "negativeZeroDoubleBits", type := .long, accessFlags := 26, slot := 6, constantValue := 0 }, { name := "twoToTheDoubleScaleUp", type := .double, accessFlags := 8, slot := 7, constantValue := 0 }, { name := "twoToTheDoubleScaleDown", type := .double, accessFlags := 8, slot := 8, constantValue := 0 }, { name := "$assertionsDisabled", type := .boolean, accessFlags := 4120, slot := 9, constantValue := 0 }]
  methods := #[k22m0, k22m1, k22m2]
  instanceTypes := #[]
  staticTypes := #[.double, .double, .double, .double, .double, .long, .long, .double, .double, .boolean]
  resolved := Array.replicate 460 none
  statics := none }

def pool23 : Array CpInfo := pool [(1, .methodref 2 3), (0, .class_ 4), (0, .nameAndType 5 6), (0, u "java/util/AbstractCollection"), (0, u "<init>"), (0, u "()V"), (0, .fieldref 8 9), (0, .class_ 10), (0, .nameAndType 11 12), (0, u "java/util/AbstractList"), (0, u "modCount"), (0, u "I"), (64, .class_ 78), (0, u "java/util/AbstractList$Itr"), (3, .class_ 83), (0, u "java/util/AbstractList$ListItr"), (9, .class_ 94), (0, u "java/util/AbstractList$RandomAccessSubList"), (3, .class_ 99), (0, u "java/util/AbstractList$SubList"), (33, .class_ 134), (0, u "java/util/List"), (73, .class_ 209), (0, u "java/util/AbstractList$SubList$1"), (0, .class_ 211), (0, u "java/util/AbstractList$RandomAccessSpliterator")] 6

def k23c0 : Code := { maxStack := 2, maxLocals := 1, code := jdk_39_method_1_code, exceptionTable := #[], attributes := #[] }
def k23m0 : Method := { name := "<init>", desc := "()V", sig := { parameters := [], returnType := none }, accessFlags := 4, code := some k23c0 }
/-- java/util/AbstractList -/
def k23 : Class := { plain "java/util/AbstractList" (some 10) with
  accessFlags := 1057
  interfaces := #[8]
  cf := some (fileOf pool23 8 #[.nestMembers #[93, 98, 208, 210, 82, 77]] #[{ accessFlags := 4, nameIndex := 5, descriptorIndex := 6, attributes := #[] }] 1057 2 #[133] #[{ accessFlags := 132, nameIndex := 11, descriptorIndex := 12, attributes := #[] }])
  fields := #[{ name := "modCount", type := .int, accessFlags := 132, slot := 0, constantValue := 0 }]
  methods := #[k23m0]
  instanceTypes := #[.int]
  staticTypes := #[]
  resolved := Array.replicate 218 none
  statics := none }

def pool24 : Array CpInfo := pool [(1, .methodref 2 3), (0, .class_ 4), (0, .nameAndType 5 6), (0, u "java/util/AbstractList"), (0, u "<init>"), (0, u "()V"), (2, .fieldref 10 11), (0, .class_ 12), (0, .nameAndType 13 14), (0, u "java/util/ArrayList"), (0, u "elementData"), (0, u "[Ljava/lang/Object;"), (2, u "EMPTY_ELEMENTDATA"), (21, .fieldref 10 40), (0, .nameAndType 41 14), (0, u "DEFAULTCAPACITY_EMPTY_ELEMENTDATA"), (8, u "size"), (0, u "I"), (96, .class_ 149), (0, u "java/util/List"), (112, .class_ 263), (0, u "java/util/ArrayList$ListItr"), (3, .class_ 268), (0, u "java/util/ArrayList$Itr"), (7, .class_ 277), (0, u "java/util/ArrayList$SubList"), (12, .class_ 291), (0, u "java/util/ArrayList$ArrayListSpliterator"), (37, .class_ 330), (0, u "java/util/RandomAccess"), (0, .class_ 332), (0, u "java/lang/Cloneable"), (0, .class_ 334), (0, u "java/io/Serializable"), (0, u "serialVersionUID"), (0, u "J"), (3, u "DEFAULT_CAPACITY"), (159, .class_ 501), (0, u "java/util/ArrayList$SubList$2"), (0, .class_ 503), (0, u "java/util/ArrayList$SubList$1")] 5

def k24c0 : Code := { maxStack := 2, maxLocals := 1, code := jdk_38_method_2_code, exceptionTable := #[], attributes := #[] }
def k24m0 : Method := { name := "<init>", desc := "()V", sig := { parameters := [], returnType := none }, accessFlags := 1, code := some k24c0 }
/-- java/util/ArrayList -/
def k24 : Class := { plain "java/util/ArrayList" (some 23) with
  accessFlags := 33
  interfaces := #[8, 12, 20, 14]
  cf := some (fileOf pool24 10 #[.nestMembers #[290, 276, 500, 502, 262, 267]] #[{ accessFlags := 1, nameIndex := 5, descriptorIndex := 6, attributes := #[] }] 33 2 #[148, 329, 331, 333] #[{ accessFlags := 26, nameIndex := 335, descriptorIndex := 336, attributes := #[] }, { accessFlags := 26, nameIndex := 340, descriptorIndex := 51, attributes := #[] }, { accessFlags := 26, nameIndex := 17, descriptorIndex := 14, attributes := #[] }, { accessFlags := 26, nameIndex := 41, descriptorIndex := 14, attributes := #[] }, { accessFlags := 128, nameIndex := 13, descriptorIndex := 14, attributes := #[] }, { accessFlags := 2, nameIndex := 50, descriptorIndex := 51, attributes := #[] }])
  fields := #[{ name := "serialVersionUID", type := .long, accessFlags := 26, slot := 0, constantValue := 0 }, { name := "DEFAULT_CAPACITY", type := .int, accessFlags := 26, slot := 1, constantValue := 0 }, { name := "EMPTY_ELEMENTDATA", type := (.array (.object "java/lang/Object")), accessFlags := 26, slot := 2, constantValue := 0 }, { name := "DEFAULTCAPACITY_EMPTY_ELEMENTDATA", type := (.array (.object "java/lang/Object")), accessFlags := 26, slot := 3, constantValue := 0 }, { name := "elementData", type := (.array (.object "java/lang/Object")), accessFlags := 128, slot := 1, constantValue := 0 }, { name := "size", type := .int, accessFlags := 2, slot := 2, constantValue := 0 }]
  methods := #[k24m0]
  instanceTypes := #[.int, (.array (.object "java/lang/Object")), .int]
  staticTypes := #[.long, .int, (.array (.object "java/lang/Object")), (.array (.object "java/lang/Object"))]
  resolved := Array.replicate 509 none
  statics := some 2 }

/-- the primitive byte -/
def k25 : Class := { plain "byte" none with kind := .primitive 'B', accessFlags := 0x411 }
/-- [B -/
def k26 : Class := { plain "[B" (some 0) with kind := .array 25 .byte, interfaces := #[20, 14], accessFlags := 1041 }

/-- the primitive int -/
def k27 : Class := { plain "int" none with kind := .primitive 'I', accessFlags := 0x411 }
/-- [I -/
def k28 : Class := { plain "[I" (some 0) with kind := .array 27 .int, interfaces := #[20, 14], accessFlags := 1041 }

/-- the primitive long -/
def k29 : Class := { plain "long" none with kind := .primitive 'J', accessFlags := 0x411 }
/-- [J -/
def k30 : Class := { plain "[J" (some 0) with kind := .array 29 .long, interfaces := #[20, 14], accessFlags := 1041 }

/-- [Ljava/lang/Object; -/
def k31 : Class := { plain "[Ljava/lang/Object;" (some 0) with kind := .array 0 (.object "java/lang/Object"), interfaces := #[20, 14], accessFlags := 1041 }

def heap : Heap := #[{ cls := 9, slots := #[.long 0, .int 0, .null, .null, .ref 4, .null, .null, .null, .int 0, .int 0], vm := .statics 9 },
  { cls := 21, slots := #[.int 0, .int 0, .int 0, .long 0, .null, .long 0, .int 1], vm := .statics 21 },
  { cls := 24, slots := #[.long 0, .int 0, .ref 5, .ref 6], vm := .statics 24 },
  { cls := 31, slots := #[], vm := .none },
  { cls := 16, slots := #[.ref 3, .int 0], vm := .none },
  { cls := 31, slots := #[], vm := .none },
  { cls := 31, slots := #[], vm := .none }]
def classes : Array Class := #[k0, k1, k2, k3, k4, k5, k6, k7, k8, k9, k10, k11, k12, k13, k14, k15, k16, k17, k18, k19, k20, k21, k22, k23, k24, k25, k26, k27, k28, k29, k30, k31]
def interned : List (Array UInt16 × Addr) := []
def slotsUsed : Nat := 23
def theMethod : MethodId := ⟨1, 1⟩
def args0 : Array Value := #[.int 3, .int 6, .long 100]
def aboutOver (below : List Frame) : State where
  vm := { classes := classes, interned := interned.toArray }
  heap := heap
  slotsUsed := slotsUsed
  threads := #[{ frames := .invoking theMethod args0 :: below }]
def below0 : List Frame := [.native { method := ⟨0, 0⟩, args := #[] }]
def about1 : State := aboutOver below0
def p0 : Program := .bare "" "" ""
def e0 : Env := launch0.env 0 0 0
theorem w_frames : about1.frames = Frame.invoking theMethod args0 :: below0 := rfl
set_option maxRecDepth 65536 in
theorem w_args : argsFit about1.vm theMethod args0 = true := by decide +kernel
set_option maxRecDepth 65536 in
theorem w_heap : heapFits about1 = true := by decide +kernel
set_option maxRecDepth 65536 in
theorem w_runnable : about1.curStatus? = some .runnable := by decide +kernel
set_option maxRecDepth 65536 in
theorem w_alone : about1.alone = true := by decide +kernel
set_option maxRecDepth 65536 in
theorem w_named : about1.methodNamed? x = some theMethod := by decide +kernel
set_option maxRecDepth 65536 in
theorem w_hears : about1.hears theMethod below0 = true := by decide +kernel
set_option maxRecDepth 65536 in
theorem w_ripe : about1.ripe theMethod args0 below0 = true := by decide +kernel
theorem w_running : about1.status = .running := rfl
set_option maxRecDepth 65536 in
theorem w_room : about1.hasRoom e0.platform room_1 = true :=
  launch0.hasRoom_least _ room_1 (by decide +kernel) (by decide +kernel) (by decide +kernel) (by decide +kernel) (by decide +kernel) (by decide +kernel)
theorem allAtoms_all (ts : List Jvm.Cond) (a : Array Jvm.Value) (st : Jvm.State) : (allAtoms ts).before a st = ts.all (fun c => c.before a st) := by
  induction ts with
  | nil => rfl
  | cons c t ih =>
    show (Jvm.Cond.and c (allAtoms t)).before a st = _
    rw [Jvm.Cond.before_and, ih, List.all_cons]
def words1 : List Jvm.Cond := Jvm.Cond.code x code maxLocals ret :: tables_1
/-- a 'code' word, met by the world's own term for the bytes: nothing is compared byte by byte -/
theorem code_word {y : MethodName} {bytes : ByteArray} {mx : Nat} {rt : Option FieldType} {a : Array Value} {s : State} {m : MethodId} {meth : Method} {c : Code} (h1 : s.methodNamed? y = some m) (h2 : s.vm.method? m = some meth) (h3 : meth.code = some c) (h4 : c.code = bytes)
    (h5 : (c.maxLocals == mx && c.exceptionTable.isEmpty && decide (c.maxStack ≤ mostOperands) && decide (meth.sig.returnType = rt) && !meth.locks && decide (parseMethodDescriptor y.desc = some meth.sig)) = true) : (Jvm.Cond.code y bytes mx rt).before a s = true := by
  simp only [Bool.and_eq_true, beq_iff_eq, Bool.not_eq_true', decide_eq_true_eq] at h5
  obtain ⟨⟨⟨⟨⟨g1, g2⟩, g3⟩, g4⟩, g5⟩, g6⟩ := h5
  simp [Cond.before, Cond.holds, Cond.value, h1, h2, h3, h4, g1, g2, g3, g4, g5, g6]
def isCode : Jvm.Cond → Bool
  | .code _ _ _ _ => true
  | _ => false
theorem all_split {L : List Jvm.Cond} {P : Jvm.Cond → Bool} (h1 : L.all (fun c => isCode c || P c) = true) (h2 : ∀ c ∈ L.filter isCode, P c = true) : L.all P = true := by
  refine List.all_eq_true.mpr fun c hc => ?_
  have h := List.all_eq_true.mp h1 c hc
  rcases Bool.eq_false_or_eq_true (isCode c) with hi | hi
  · exact h2 c (List.mem_filter.mpr ⟨hc, hi⟩)
  · simpa [hi] using h
set_option maxRecDepth 65536 in
theorem w_c0 : (Jvm.Cond.code x code maxLocals ret).before args0 about1 = true := code_word (m := ⟨1, 1⟩) (meth := k1m1) (c := k1c1) (by decide +kernel) rfl rfl rfl (by decide +kernel)
set_option maxRecDepth 65536 in
theorem w_c1 : (Jvm.Cond.code ({ cls := "evenkeel/model/CommittedOffset", name := "<init>", desc := "(Levenkeel/model/TopicQueue;J)V" } : Jvm.MethodName) prog_145_method_2_code (4 : Nat) (Option.none : Option Jvm.ClassFile.FieldType)).before args0 about1 = true := code_word (m := ⟨4, 1⟩) (meth := k4m1) (c := k4c1) (by decide +kernel) rfl rfl rfl (by decide +kernel)
set_option maxRecDepth 65536 in
theorem w_c2 : (Jvm.Cond.code ({ cls := "java/util/List", name := "of", desc := "()Ljava/util/List;" } : Jvm.MethodName) jdk_40_method_36_code (0 : Nat) (Option.some (Jvm.ClassFile.FieldType.object "java/util/List"))).before args0 about1 = true := code_word (m := ⟨8, 3⟩) (meth := k8m3) (c := k8c3) (by decide +kernel) rfl rfl rfl (by decide +kernel)
set_option maxRecDepth 65536 in
theorem w_c3 : (Jvm.Cond.code ({ cls := "evenkeel/model/CommittedOffset", name := "<init>", desc := "(Levenkeel/model/TopicQueue;JLjava/util/List;Ljava/util/List;)V" } : Jvm.MethodName) prog_145_method_1_code (12 : Nat) (Option.none : Option Jvm.ClassFile.FieldType)).before args0 about1 = true := code_word (m := ⟨4, 0⟩) (meth := k4m0) (c := k4c0) (by decide +kernel) rfl rfl rfl (by decide +kernel)
set_option maxRecDepth 65536 in
theorem w_c4 : (Jvm.Cond.code ({ cls := "java/lang/Record", name := "<init>", desc := "()V" } : Jvm.MethodName) jdk_30_method_1_code (1 : Nat) (Option.none : Option Jvm.ClassFile.FieldType)).before args0 about1 = true := code_word (m := ⟨3, 0⟩) (meth := k3m0) (c := k3c0) (by decide +kernel) rfl rfl rfl (by decide +kernel)
set_option maxRecDepth 65536 in
theorem w_c5 : (Jvm.Cond.code ({ cls := "java/lang/Object", name := "<init>", desc := "()V" } : Jvm.MethodName) object_method_1_code (1 : Nat) (Option.none : Option Jvm.ClassFile.FieldType)).before args0 about1 = true := code_word (m := ⟨0, 0⟩) (meth := k0m0) (c := k0c0) (by decide +kernel) rfl rfl rfl (by decide +kernel)
set_option maxRecDepth 65536 in
theorem w_c6 : (Jvm.Cond.code ({ cls := "java/util/List", name := "copyOf", desc := "(Ljava/util/Collection;)Ljava/util/List;" } : Jvm.MethodName) jdk_40_method_48_code (1 : Nat) (Option.some (Jvm.ClassFile.FieldType.object "java/util/List"))).before args0 about1 = true := code_word (m := ⟨8, 4⟩) (meth := k8m4) (c := k8c4) (by decide +kernel) rfl rfl rfl (by decide +kernel)
set_option maxRecDepth 65536 in
theorem w_c7 : (Jvm.Cond.code ({ cls := "java/util/ImmutableCollections", name := "listCopy", desc := "(Ljava/util/Collection;)Ljava/util/List;" } : Jvm.MethodName) jdk_56_method_3_code (2 : Nat) (Option.some (Jvm.ClassFile.FieldType.object "java/util/List"))).before args0 about1 = true := code_word (m := ⟨9, 1⟩) (meth := k9m1) (c := k9c1) (by decide +kernel) rfl rfl rfl (by decide +kernel)
set_option maxRecDepth 65536 in
theorem w_c8 : (Jvm.Cond.code ({ cls := "java/util/ImmutableCollections$AbstractImmutableList", name := "iterator", desc := "()Ljava/util/Iterator;" } : Jvm.MethodName) jdk_46_method_10_code (1 : Nat) (Option.some (Jvm.ClassFile.FieldType.object "java/util/Iterator"))).before args0 about1 = true := code_word (m := ⟨13, 1⟩) (meth := k13m1) (c := k13c1) (by decide +kernel) rfl rfl rfl (by decide +kernel)
set_option maxRecDepth 65536 in
theorem w_c9 : (Jvm.Cond.code ({ cls := "java/util/ImmutableCollections$ListN", name := "size", desc := "()I" } : Jvm.MethodName) jdk_45_method_3_code (1 : Nat) (Option.some Jvm.ClassFile.FieldType.int)).before args0 about1 = true := code_word (m := ⟨16, 1⟩) (meth := k16m1) (c := k16c1) (by decide +kernel) rfl rfl rfl (by decide +kernel)
set_option maxRecDepth 65536 in
theorem w_c10 : (Jvm.Cond.code ({ cls := "java/util/ImmutableCollections$ListItr", name := "<init>", desc := "(Ljava/util/List;I)V" } : Jvm.MethodName) jdk_53_method_1_code (3 : Nat) (Option.none : Option Jvm.ClassFile.FieldType)).before args0 about1 = true := code_word (m := ⟨19, 0⟩) (meth := k19m0) (c := k19c0) (by decide +kernel) rfl rfl rfl (by decide +kernel)
set_option maxRecDepth 65536 in
theorem w_c11 : (Jvm.Cond.code ({ cls := "java/util/ImmutableCollections$ListItr", name := "hasNext", desc := "()Z" } : Jvm.MethodName) jdk_53_method_3_code (1 : Nat) (Option.some Jvm.ClassFile.FieldType.boolean)).before args0 about1 = true := code_word (m := ⟨19, 1⟩) (meth := k19m1) (c := k19c1) (by decide +kernel) rfl rfl rfl (by decide +kernel)
set_option maxRecDepth 65536 in
theorem w_c12 : (Jvm.Cond.code ({ cls := "evenkeel/client/Window", name := "<init>", desc := "(ILevenkeel/model/CommittedOffset;)V" } : Jvm.MethodName) prog_141_method_1_code (5 : Nat) (Option.none : Option Jvm.ClassFile.FieldType)).before args0 about1 = true := code_word (m := ⟨2, 0⟩) (meth := k2m0) (c := k2c0) (by decide +kernel) rfl rfl rfl (by decide +kernel)
set_option maxRecDepth 65536 in
theorem w_c13 : (Jvm.Cond.code ({ cls := "java/util/BitSet", name := "<init>", desc := "()V" } : Jvm.MethodName) jdk_92_method_4_code (1 : Nat) (Option.none : Option Jvm.ClassFile.FieldType)).before args0 about1 = true := code_word (m := ⟨21, 2⟩) (meth := k21m2) (c := k21c2) (by decide +kernel) rfl rfl rfl (by decide +kernel)
set_option maxRecDepth 65536 in
theorem w_c14 : (Jvm.Cond.code ({ cls := "java/util/BitSet", name := "initWords", desc := "(I)V" } : Jvm.MethodName) jdk_92_method_6_code (2 : Nat) (Option.none : Option Jvm.ClassFile.FieldType)).before args0 about1 = true := code_word (m := ⟨21, 3⟩) (meth := k21m3) (c := k21c3) (by decide +kernel) rfl rfl rfl (by decide +kernel)
set_option maxRecDepth 65536 in
theorem w_c15 : (Jvm.Cond.code ({ cls := "java/util/BitSet", name := "wordIndex", desc := "(I)I" } : Jvm.MethodName) jdk_92_method_1_code (1 : Nat) (Option.some Jvm.ClassFile.FieldType.int)).before args0 about1 = true := code_word (m := ⟨21, 0⟩) (meth := k21m0) (c := k21c0) (by decide +kernel) rfl rfl rfl (by decide +kernel)
set_option maxRecDepth 65536 in
theorem w_c16 : (Jvm.Cond.code ({ cls := "evenkeel/model/CommittedOffset", name := "next", desc := "()J" } : Jvm.MethodName) prog_145_method_17_code (1 : Nat) (Option.some Jvm.ClassFile.FieldType.long)).before args0 about1 = true := code_word (m := ⟨4, 2⟩) (meth := k4m2) (c := k4c2) (by decide +kernel) rfl rfl rfl (by decide +kernel)
set_option maxRecDepth 65536 in
theorem w_c17 : (Jvm.Cond.code ({ cls := "evenkeel/model/CommittedOffset", name := "ahead", desc := "()Ljava/util/List;" } : Jvm.MethodName) prog_145_method_18_code (1 : Nat) (Option.some (Jvm.ClassFile.FieldType.object "java/util/List"))).before args0 about1 = true := code_word (m := ⟨4, 3⟩) (meth := k4m3) (c := k4c3) (by decide +kernel) rfl rfl rfl (by decide +kernel)
set_option maxRecDepth 65536 in
theorem w_c18 : (Jvm.Cond.code ({ cls := "evenkeel/model/CommittedOffset", name := "failed", desc := "()Ljava/util/List;" } : Jvm.MethodName) prog_145_method_19_code (1 : Nat) (Option.some (Jvm.ClassFile.FieldType.object "java/util/List"))).before args0 about1 = true := code_word (m := ⟨4, 4⟩) (meth := k4m4) (c := k4c4) (by decide +kernel) rfl rfl rfl (by decide +kernel)
set_option maxRecDepth 65536 in
theorem w_c19 : (Jvm.Cond.code ({ cls := "java/util/ImmutableCollections$ListN", name := "isEmpty", desc := "()Z" } : Jvm.MethodName) jdk_45_method_2_code (1 : Nat) (Option.some Jvm.ClassFile.FieldType.boolean)).before args0 about1 = true := code_word (m := ⟨16, 0⟩) (meth := k16m0) (c := k16c0) (by decide +kernel) rfl rfl rfl (by decide +kernel)
set_option maxRecDepth 65536 in
theorem w_c20 : (Jvm.Cond.code ({ cls := "evenkeel/client/Window", name := "room", desc := "()I" } : Jvm.MethodName) prog_141_method_3_code (1 : Nat) (Option.some Jvm.ClassFile.FieldType.int)).before args0 about1 = true := code_word (m := ⟨2, 1⟩) (meth := k2m1) (c := k2c1) (by decide +kernel) rfl rfl rfl (by decide +kernel)
set_option maxRecDepth 65536 in
theorem w_c21 : (Jvm.Cond.code ({ cls := "java/lang/Math", name := "min", desc := "(II)I" } : Jvm.MethodName) jdk_29_method_69_code (2 : Nat) (Option.some Jvm.ClassFile.FieldType.int)).before args0 about1 = true := code_word (m := ⟨22, 2⟩) (meth := k22m2) (c := k22c2) (by decide +kernel) rfl rfl rfl (by decide +kernel)
set_option maxRecDepth 65536 in
theorem w_c22 : (Jvm.Cond.code ({ cls := "evenkeel/client/Window", name := "take", desc := "()Z" } : Jvm.MethodName) prog_141_method_6_code (4 : Nat) (Option.some Jvm.ClassFile.FieldType.boolean)).before args0 about1 = true := code_word (m := ⟨2, 3⟩) (meth := k2m3) (c := k2c3) (by decide +kernel) rfl rfl rfl (by decide +kernel)
set_option maxRecDepth 65536 in
theorem w_c23 : (Jvm.Cond.code ({ cls := "java/util/ArrayList", name := "<init>", desc := "()V" } : Jvm.MethodName) jdk_38_method_2_code (1 : Nat) (Option.none : Option Jvm.ClassFile.FieldType)).before args0 about1 = true := code_word (m := ⟨24, 0⟩) (meth := k24m0) (c := k24c0) (by decide +kernel) rfl rfl rfl (by decide +kernel)
set_option maxRecDepth 65536 in
theorem w_c24 : (Jvm.Cond.code ({ cls := "java/util/AbstractList", name := "<init>", desc := "()V" } : Jvm.MethodName) jdk_39_method_1_code (1 : Nat) (Option.none : Option Jvm.ClassFile.FieldType)).before args0 about1 = true := code_word (m := ⟨23, 0⟩) (meth := k23m0) (c := k23c0) (by decide +kernel) rfl rfl rfl (by decide +kernel)
set_option maxRecDepth 65536 in
theorem w_c25 : (Jvm.Cond.code ({ cls := "java/util/AbstractCollection", name := "<init>", desc := "()V" } : Jvm.MethodName) jdk_22_method_1_code (1 : Nat) (Option.none : Option Jvm.ClassFile.FieldType)).before args0 about1 = true := code_word (m := ⟨10, 0⟩) (meth := k10m0) (c := k10c0) (by decide +kernel) rfl rfl rfl (by decide +kernel)
set_option maxRecDepth 65536 in
theorem w_c26 : (Jvm.Cond.code ({ cls := "evenkeel/client/Window", name := "committed", desc := "(JLjava/util/List;Ljava/util/List;)V" } : Jvm.MethodName) prog_141_method_19_code (5 : Nat) (Option.none : Option Jvm.ClassFile.FieldType)).before args0 about1 = true := code_word (m := ⟨2, 6⟩) (meth := k2m6) (c := k2c6) (by decide +kernel) rfl rfl rfl (by decide +kernel)
set_option maxRecDepth 65536 in
theorem w_c27 : (Jvm.Cond.code ({ cls := "evenkeel/client/Window", name := "skip", desc := "(J)Z" } : Jvm.MethodName) prog_141_method_5_code (3 : Nat) (Option.some Jvm.ClassFile.FieldType.boolean)).before args0 about1 = true := code_word (m := ⟨2, 2⟩) (meth := k2m2) (c := k2c2) (by decide +kernel) rfl rfl rfl (by decide +kernel)
set_option maxRecDepth 65536 in
theorem w_c28 : (Jvm.Cond.code ({ cls := "evenkeel/client/Window", name := "allFinished", desc := "()Z" } : Jvm.MethodName) prog_141_method_20_code (1 : Nat) (Option.some Jvm.ClassFile.FieldType.boolean)).before args0 about1 = true := code_word (m := ⟨2, 7⟩) (meth := k2m7) (c := k2c7) (by decide +kernel) rfl rfl rfl (by decide +kernel)
set_option maxRecDepth 65536 in
theorem w_c29 : (Jvm.Cond.code ({ cls := "java/lang/Math", name := "max", desc := "(JJ)J" } : Jvm.MethodName) jdk_29_method_66_code (4 : Nat) (Option.some Jvm.ClassFile.FieldType.long)).before args0 about1 = true := code_word (m := ⟨22, 1⟩) (meth := k22m1) (c := k22c1) (by decide +kernel) rfl rfl rfl (by decide +kernel)
set_option maxRecDepth 65536 in
theorem w_c30 : (Jvm.Cond.code ({ cls := "evenkeel/client/Window", name := "finish", desc := "(J)Z" } : Jvm.MethodName) prog_141_method_11_code (3 : Nat) (Option.some Jvm.ClassFile.FieldType.boolean)).before args0 about1 = true := code_word (m := ⟨2, 4⟩) (meth := k2m4) (c := k2c4) (by decide +kernel) rfl rfl rfl (by decide +kernel)
set_option maxRecDepth 65536 in
theorem w_c31 : (Jvm.Cond.code ({ cls := "evenkeel/client/Window", name := "inHand", desc := "(J)Z" } : Jvm.MethodName) prog_141_method_12_code (3 : Nat) (Option.some Jvm.ClassFile.FieldType.boolean)).before args0 about1 = true := code_word (m := ⟨2, 5⟩) (meth := k2m5) (c := k2c5) (by decide +kernel) rfl rfl rfl (by decide +kernel)
set_option maxRecDepth 65536 in
theorem w_c32 : (Jvm.Cond.code ({ cls := "evenkeel/client/Window", name := "bit", desc := "(J)I" } : Jvm.MethodName) prog_141_method_23_code (3 : Nat) (Option.some Jvm.ClassFile.FieldType.int)).before args0 about1 = true := code_word (m := ⟨2, 8⟩) (meth := k2m8) (c := k2c8) (by decide +kernel) rfl rfl rfl (by decide +kernel)
set_option maxRecDepth 65536 in
theorem w_c33 : (Jvm.Cond.code ({ cls := "java/util/BitSet", name := "get", desc := "(I)Z" } : Jvm.MethodName) jdk_92_method_26_code (3 : Nat) (Option.some Jvm.ClassFile.FieldType.boolean)).before args0 about1 = true := code_word (m := ⟨21, 4⟩) (meth := k21m4) (c := k21c4) (by decide +kernel) rfl rfl rfl (by decide +kernel)
set_option maxRecDepth 65536 in
theorem w_c34 : (Jvm.Cond.code ({ cls := "java/util/BitSet", name := "checkInvariants", desc := "()V" } : Jvm.MethodName) jdk_92_method_2_code (1 : Nat) (Option.none : Option Jvm.ClassFile.FieldType)).before args0 about1 = true := code_word (m := ⟨21, 1⟩) (meth := k21m1) (c := k21c1) (by decide +kernel) rfl rfl rfl (by decide +kernel)
set_option maxRecDepth 65536 in
theorem w_c35 : (Jvm.Cond.code ({ cls := "java/util/BitSet", name := "isEmpty", desc := "()Z" } : Jvm.MethodName) jdk_92_method_33_code (1 : Nat) (Option.some Jvm.ClassFile.FieldType.boolean)).before args0 about1 = true := code_word (m := ⟨21, 5⟩) (meth := k21m5) (c := k21c5) (by decide +kernel) rfl rfl rfl (by decide +kernel)
def codes1 : List Jvm.Cond := [Jvm.Cond.code x code maxLocals ret, Jvm.Cond.code ({ cls := "evenkeel/model/CommittedOffset", name := "<init>", desc := "(Levenkeel/model/TopicQueue;J)V" } : Jvm.MethodName) prog_145_method_2_code (4 : Nat) (Option.none : Option Jvm.ClassFile.FieldType), Jvm.Cond.code ({ cls := "java/util/List", name := "of", desc := "()Ljava/util/List;" } : Jvm.MethodName) jdk_40_method_36_code (0 : Nat) (Option.some (Jvm.ClassFile.FieldType.object "java/util/List")), Jvm.Cond.code ({ cls := "evenkeel/model/CommittedOffset", name := "<init>", desc := "(Levenkeel/model/TopicQueue;JLjava/util/List;Ljava/util/List;)V" } : Jvm.MethodName) prog_145_method_1_code (12 : Nat) (Option.none : Option Jvm.ClassFile.FieldType), Jvm.Cond.code ({ cls := "java/lang/Record", name := "<init>", desc := "()V" } : Jvm.MethodName) jdk_30_method_1_code (1 : Nat) (Option.none : Option Jvm.ClassFile.FieldType), Jvm.Cond.code ({ cls := "java/lang/Object", name := "<init>", desc := "()V" } : Jvm.MethodName) object_method_1_code (1 : Nat) (Option.none : Option Jvm.ClassFile.FieldType), Jvm.Cond.code ({ cls := "java/util/List", name := "copyOf", desc := "(Ljava/util/Collection;)Ljava/util/List;" } : Jvm.MethodName) jdk_40_method_48_code (1 : Nat) (Option.some (Jvm.ClassFile.FieldType.object "java/util/List")), Jvm.Cond.code ({ cls := "java/util/ImmutableCollections", name := "listCopy", desc := "(Ljava/util/Collection;)Ljava/util/List;" } : Jvm.MethodName) jdk_56_method_3_code (2 : Nat) (Option.some (Jvm.ClassFile.FieldType.object "java/util/List")), Jvm.Cond.code ({ cls := "java/util/ImmutableCollections$AbstractImmutableList", name := "iterator", desc := "()Ljava/util/Iterator;" } : Jvm.MethodName) jdk_46_method_10_code (1 : Nat) (Option.some (Jvm.ClassFile.FieldType.object "java/util/Iterator")), Jvm.Cond.code ({ cls := "java/util/ImmutableCollections$ListN", name := "size", desc := "()I" } : Jvm.MethodName) jdk_45_method_3_code (1 : Nat) (Option.some Jvm.ClassFile.FieldType.int), Jvm.Cond.code ({ cls := "java/util/ImmutableCollections$ListItr", name := "<init>", desc := "(Ljava/util/List;I)V" } : Jvm.MethodName) jdk_53_method_1_code (3 : Nat) (Option.none : Option Jvm.ClassFile.FieldType), Jvm.Cond.code ({ cls := "java/util/ImmutableCollections$ListItr", name := "hasNext", desc := "()Z" } : Jvm.MethodName) jdk_53_method_3_code (1 : Nat) (Option.some Jvm.ClassFile.FieldType.boolean), Jvm.Cond.code ({ cls := "evenkeel/client/Window", name := "<init>", desc := "(ILevenkeel/model/CommittedOffset;)V" } : Jvm.MethodName) prog_141_method_1_code (5 : Nat) (Option.none : Option Jvm.ClassFile.FieldType), Jvm.Cond.code ({ cls := "java/util/BitSet", name := "<init>", desc := "()V" } : Jvm.MethodName) jdk_92_method_4_code (1 : Nat) (Option.none : Option Jvm.ClassFile.FieldType), Jvm.Cond.code ({ cls := "java/util/BitSet", name := "initWords", desc := "(I)V" } : Jvm.MethodName) jdk_92_method_6_code (2 : Nat) (Option.none : Option Jvm.ClassFile.FieldType), Jvm.Cond.code ({ cls := "java/util/BitSet", name := "wordIndex", desc := "(I)I" } : Jvm.MethodName) jdk_92_method_1_code (1 : Nat) (Option.some Jvm.ClassFile.FieldType.int), Jvm.Cond.code ({ cls := "evenkeel/model/CommittedOffset", name := "next", desc := "()J" } : Jvm.MethodName) prog_145_method_17_code (1 : Nat) (Option.some Jvm.ClassFile.FieldType.long), Jvm.Cond.code ({ cls := "evenkeel/model/CommittedOffset", name := "ahead", desc := "()Ljava/util/List;" } : Jvm.MethodName) prog_145_method_18_code (1 : Nat) (Option.some (Jvm.ClassFile.FieldType.object "java/util/List")), Jvm.Cond.code ({ cls := "evenkeel/model/CommittedOffset", name := "failed", desc := "()Ljava/util/List;" } : Jvm.MethodName) prog_145_method_19_code (1 : Nat) (Option.some (Jvm.ClassFile.FieldType.object "java/util/List")), Jvm.Cond.code ({ cls := "java/util/ImmutableCollections$ListN", name := "isEmpty", desc := "()Z" } : Jvm.MethodName) jdk_45_method_2_code (1 : Nat) (Option.some Jvm.ClassFile.FieldType.boolean), Jvm.Cond.code ({ cls := "evenkeel/client/Window", name := "room", desc := "()I" } : Jvm.MethodName) prog_141_method_3_code (1 : Nat) (Option.some Jvm.ClassFile.FieldType.int), Jvm.Cond.code ({ cls := "java/lang/Math", name := "min", desc := "(II)I" } : Jvm.MethodName) jdk_29_method_69_code (2 : Nat) (Option.some Jvm.ClassFile.FieldType.int), Jvm.Cond.code ({ cls := "evenkeel/client/Window", name := "take", desc := "()Z" } : Jvm.MethodName) prog_141_method_6_code (4 : Nat) (Option.some Jvm.ClassFile.FieldType.boolean), Jvm.Cond.code ({ cls := "java/util/ArrayList", name := "<init>", desc := "()V" } : Jvm.MethodName) jdk_38_method_2_code (1 : Nat) (Option.none : Option Jvm.ClassFile.FieldType), Jvm.Cond.code ({ cls := "java/util/AbstractList", name := "<init>", desc := "()V" } : Jvm.MethodName) jdk_39_method_1_code (1 : Nat) (Option.none : Option Jvm.ClassFile.FieldType), Jvm.Cond.code ({ cls := "java/util/AbstractCollection", name := "<init>", desc := "()V" } : Jvm.MethodName) jdk_22_method_1_code (1 : Nat) (Option.none : Option Jvm.ClassFile.FieldType), Jvm.Cond.code ({ cls := "evenkeel/client/Window", name := "committed", desc := "(JLjava/util/List;Ljava/util/List;)V" } : Jvm.MethodName) prog_141_method_19_code (5 : Nat) (Option.none : Option Jvm.ClassFile.FieldType), Jvm.Cond.code ({ cls := "evenkeel/client/Window", name := "skip", desc := "(J)Z" } : Jvm.MethodName) prog_141_method_5_code (3 : Nat) (Option.some Jvm.ClassFile.FieldType.boolean), Jvm.Cond.code ({ cls := "evenkeel/client/Window", name := "allFinished", desc := "()Z" } : Jvm.MethodName) prog_141_method_20_code (1 : Nat) (Option.some Jvm.ClassFile.FieldType.boolean), Jvm.Cond.code ({ cls := "java/lang/Math", name := "max", desc := "(JJ)J" } : Jvm.MethodName) jdk_29_method_66_code (4 : Nat) (Option.some Jvm.ClassFile.FieldType.long), Jvm.Cond.code ({ cls := "evenkeel/client/Window", name := "finish", desc := "(J)Z" } : Jvm.MethodName) prog_141_method_11_code (3 : Nat) (Option.some Jvm.ClassFile.FieldType.boolean), Jvm.Cond.code ({ cls := "evenkeel/client/Window", name := "inHand", desc := "(J)Z" } : Jvm.MethodName) prog_141_method_12_code (3 : Nat) (Option.some Jvm.ClassFile.FieldType.boolean), Jvm.Cond.code ({ cls := "evenkeel/client/Window", name := "bit", desc := "(J)I" } : Jvm.MethodName) prog_141_method_23_code (3 : Nat) (Option.some Jvm.ClassFile.FieldType.int), Jvm.Cond.code ({ cls := "java/util/BitSet", name := "get", desc := "(I)Z" } : Jvm.MethodName) jdk_92_method_26_code (3 : Nat) (Option.some Jvm.ClassFile.FieldType.boolean), Jvm.Cond.code ({ cls := "java/util/BitSet", name := "checkInvariants", desc := "()V" } : Jvm.MethodName) jdk_92_method_2_code (1 : Nat) (Option.none : Option Jvm.ClassFile.FieldType), Jvm.Cond.code ({ cls := "java/util/BitSet", name := "isEmpty", desc := "()Z" } : Jvm.MethodName) jdk_92_method_33_code (1 : Nat) (Option.some Jvm.ClassFile.FieldType.boolean)]
set_option maxRecDepth 65536 in
theorem codes_eq : words1.filter isCode = codes1 := rfl
theorem w_codes : ∀ c ∈ words1.filter isCode, c.before args0 about1 = true := by
  rw [codes_eq]
  intro c hc
  simp only [codes1, List.mem_cons, List.not_mem_nil, or_false] at hc
  rcases hc with rfl | rfl | rfl | rfl | rfl | rfl | rfl | rfl | rfl | rfl | rfl | rfl | rfl | rfl | rfl | rfl | rfl | rfl | rfl | rfl | rfl | rfl | rfl | rfl | rfl | rfl | rfl | rfl | rfl | rfl | rfl | rfl | rfl | rfl | rfl | rfl
  · exact w_c0
  · exact w_c1
  · exact w_c2
  · exact w_c3
  · exact w_c4
  · exact w_c5
  · exact w_c6
  · exact w_c7
  · exact w_c8
  · exact w_c9
  · exact w_c10
  · exact w_c11
  · exact w_c12
  · exact w_c13
  · exact w_c14
  · exact w_c15
  · exact w_c16
  · exact w_c17
  · exact w_c18
  · exact w_c19
  · exact w_c20
  · exact w_c21
  · exact w_c22
  · exact w_c23
  · exact w_c24
  · exact w_c25
  · exact w_c26
  · exact w_c27
  · exact w_c28
  · exact w_c29
  · exact w_c30
  · exact w_c31
  · exact w_c32
  · exact w_c33
  · exact w_c34
  · exact w_c35
set_option maxRecDepth 65536 in
theorem w_t1 : (words1.take 24).all (fun c => isCode c || c.before args0 about1) = true := by decide +kernel
set_option maxRecDepth 65536 in
theorem w_t2 : ((words1.drop 24).take 24).all (fun c => isCode c || c.before args0 about1) = true := by decide +kernel
set_option maxRecDepth 65536 in
theorem w_t3 : (((words1.drop 24).drop 24).take 24).all (fun c => isCode c || c.before args0 about1) = true := by decide +kernel
set_option maxRecDepth 65536 in
theorem w_t4 : ((((words1.drop 24).drop 24).drop 24).take 24).all (fun c => isCode c || c.before args0 about1) = true := by decide +kernel
set_option maxRecDepth 65536 in
theorem w_t5 : (((((words1.drop 24).drop 24).drop 24).drop 24).take 24).all (fun c => isCode c || c.before args0 about1) = true := by decide +kernel
set_option maxRecDepth 65536 in
theorem w_t6 : ((((((words1.drop 24).drop 24).drop 24).drop 24).drop 24).take 24).all (fun c => isCode c || c.before args0 about1) = true := by decide +kernel
set_option maxRecDepth 65536 in
theorem w_t7 : (((((((words1.drop 24).drop 24).drop 24).drop 24).drop 24).drop 24).take 24).all (fun c => isCode c || c.before args0 about1) = true := by decide +kernel
set_option maxRecDepth 65536 in
theorem w_t8 : ((((((((words1.drop 24).drop 24).drop 24).drop 24).drop 24).drop 24).drop 24).take 24).all (fun c => isCode c || c.before args0 about1) = true := by decide +kernel
set_option maxRecDepth 65536 in
theorem w_t9 : (((((((((words1.drop 24).drop 24).drop 24).drop 24).drop 24).drop 24).drop 24).drop 24).take 24).all (fun c => isCode c || c.before args0 about1) = true := by decide +kernel
set_option maxRecDepth 65536 in
theorem w_t10 : ((((((((((words1.drop 24).drop 24).drop 24).drop 24).drop 24).drop 24).drop 24).drop 24).drop 24).take 24).all (fun c => isCode c || c.before args0 about1) = true := by decide +kernel
set_option maxRecDepth 65536 in
theorem w_t11 : (((((((((((words1.drop 24).drop 24).drop 24).drop 24).drop 24).drop 24).drop 24).drop 24).drop 24).drop 24).take 24).all (fun c => isCode c || c.before args0 about1) = true := by decide +kernel
set_option maxRecDepth 65536 in
theorem w_t12 : (((((((((((words1.drop 24).drop 24).drop 24).drop 24).drop 24).drop 24).drop 24).drop 24).drop 24).drop 24).drop 24).all (fun c => isCode c || c.before args0 about1) = true := by decide +kernel
theorem w_tables : (allAtoms (Jvm.Cond.code x code maxLocals ret :: tables_1)).before args0 about1 = true := by
  rw [allAtoms_all]
  show words1.all (fun c => c.before args0 about1) = true
  refine all_split ?_ w_codes
  rw [← List.take_append_drop 24 words1, List.all_append, w_t1, ← List.take_append_drop 24 (words1.drop 24), List.all_append, w_t2, ← List.take_append_drop 24 ((words1.drop 24).drop 24), List.all_append, w_t3, ← List.take_append_drop 24 (((words1.drop 24).drop 24).drop 24), List.all_append, w_t4, ← List.take_append_drop 24 ((((words1.drop 24).drop 24).drop 24).drop 24), List.all_append, w_t5, ← List.take_append_drop 24 (((((words1.drop 24).drop 24).drop 24).drop 24).drop 24), List.all_append, w_t6, ← List.take_append_drop 24 ((((((words1.drop 24).drop 24).drop 24).drop 24).drop 24).drop 24), List.all_append, w_t7, ← List.take_append_drop 24 (((((((words1.drop 24).drop 24).drop 24).drop 24).drop 24).drop 24).drop 24), List.all_append, w_t8, ← List.take_append_drop 24 ((((((((words1.drop 24).drop 24).drop 24).drop 24).drop 24).drop 24).drop 24).drop 24), List.all_append, w_t9, ← List.take_append_drop 24 (((((((((words1.drop 24).drop 24).drop 24).drop 24).drop 24).drop 24).drop 24).drop 24).drop 24), List.all_append, w_t10, ← List.take_append_drop 24 ((((((((((words1.drop 24).drop 24).drop 24).drop 24).drop 24).drop 24).drop 24).drop 24).drop 24).drop 24), List.all_append, w_t11, w_t12]
  rfl
set_option maxRecDepth 65536 in
theorem w_rest : rest_1_c.before args0 about1 = true := by decide +kernel
set_option maxRecDepth 65536 in
theorem w_case : (Jvm.Cond.and given_1 narrow_1).before args0 about1 = true := by decide +kernel
theorem w_applies : (headSpec (Jvm.Cond.code x code maxLocals ret :: tables_1) room_1).applies x e0.platform about1 = true :=
  (Spec.applies_iff w_frames).mpr ⟨w_running, w_runnable, w_alone, w_named, w_hears, w_ripe, w_room, w_tables⟩
theorem atStart : AtStart classFile x code maxLocals ret World_1 tables_1 room_1 Calls_1 rest_1 Pre_1 launch0 p0 e0 about1 theMethod args0 below0 :=
  ⟨lists_1, trivial, launch0.admits_env _ _ _, launch0.least_env, fairChoices_fair.cas, fairChoices_fair.clock, w_frames, w_args, w_heap, w_applies, trivial, w_rest, w_case⟩
end start1
theorem witness_1 : WitnessClaimed_1 := ⟨start1.p0, start1.e0, start1.about1, start1.theMethod, start1.args0, start1.below0, start1.atStart⟩
end Jvm.Pilot.@@N@@
