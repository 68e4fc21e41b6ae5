import JvmDerived
import JvmDerived.Pilot.@@N@@Statement
import JvmDerived.Pilot.@@N@@Code
set_option linter.unusedVariables false
set_option linter.unusedSimpArgs false
namespace Jvm.RoadKit
open Sem ClassFile Op Lib Jvm.Stand Jvm.Free Jvm.LawKit
section New
variable {p : Program} {l : Launch} {e : Env} {R : Room} {s : State} {m : MethodId} {args : Array Value} {below : List Frame} {meth : Method} {c : Code} {T : State} {locs : List Loc} {cells slots : Nat}
theorem retI (X : Stand p l e R s m args below meth c T locs cells slots) (hx : p.tables.exec = Jvm.exec) {pc : Nat} {Ls : Array Slot} {z : Int32} {rest : List Value} (hret : meth.sig.returnType = some .int) (hd : decode c.code pc = .ok (.ireturn, 1)) {fs : List Frame}
    (hl : ∀ (f : JFrame) (acts : List Action), f.method = m → f.locked = none → f.entered = [] → (doReturn e (T.setTop f) acts (some (.int z))).1 = T.setFrames fs) : Steps p.tables e below (T.setTop (mkF m pc Ls (.int z :: rest))) (T.setFrames fs) := by
  have hm' : T.vm.method? m = some meth := X.method'
  have hn : narrow .int (.int z) = .int z := rfl
  show Steps p.tables e below (T.setTop { method := m, pc := pc, locals := Ls, stack := _ :: rest, locked := none }) _
  jvm_step X.here [X.here.top, hx, hd, hm', hret, hn]
  first | (intro acts; rw [hl _ acts rfl rfl rfl]) | rw [hl _ _ rfl rfl rfl]
  exact Steps.refl _
end New
end Jvm.RoadKit
namespace Jvm.Pilot.@@N@@
open Jvm Jvm.ClassFile Sem Op Lib Jvm.Free Jvm.Stand Jvm.LawKit Jvm.RoadKit Bundle Jvm.Pilot.@@N@@.Jvm.D
abbrev own_K (p : Program) (e : Env) (below : List Frame) (m : MethodId) (T : State) (pc : Nat) (L : Array Slot) (S : List Value) (t : State) : Prop := Steps p.tables e below (T.setTop (mkF m pc L S)) t
abbrev lv (x : Int64) : Slot := .val (.long x)
section OwnLib
variable {p : Program} {l : Launch} {e : Env} {R : Room} {s : State} {m : MethodId} {args : Array Value} {below : List Frame} {meth : Method} {c : Code} {T : State} {locs : List Loc} {cells slots : Nat} {Z : State} {h : Heap} {a : Addr} {k : ClassId} {ty : FieldType} {n j : Int32} {vs : List Value} {dv v : Value}
theorem own_lal (X : Stand p l e R s m args below meth c T locs cells slots) (hx : p.tables.exec = Jvm.exec) (hZ : Z.Warmed39 s.vm) (eT : T.heap = h) (V : Arv Z h a k .long n vs dv) (hj : ¬ j < 0 ∧ j < n) (hv : vs.getD j.toNatClampNeg dv = v) {g : JFrame} (hg : g.method = m) {rest : List Value} (hs : g.stack = .int j :: .ref a :: rest) (hd : decode c.code g.pc = .ok (.laload, 1)) (target : State)
    (hr : Steps p.tables e below (T.setTop { g with pc := g.pc + 1, stack := v :: rest }) target) : Steps p.tables e below (T.setTop g) target := by
  obtain ⟨cl, Ar, -, S, -, H, -⟩ := V
  have hin := inb_of S hj
  exact X.laload hx (by rw [eT]; exact Ar.1) (State.isArrayOf_alike hZ.alike Ar.2.1) Ar.2.2 hin (H.at hin hv) hg hs hd target hr
theorem own_las (X : Stand p l e R s m args below meth c T locs cells slots) (hx : p.tables.exec = Jvm.exec) (hZ : Z.Warmed39 s.vm) (eT : T.heap = h) (V : Arv Z h a k .long n vs dv) (hj : ¬ j < 0 ∧ j < n) {x : Int64} {g : JFrame} (hg : g.method = m) {rest : List Value} (hs : g.stack = .long x :: .int j :: .ref a :: rest) (hd : decode c.code g.pc = .ok (.lastore, 1)) {i : Nat} (hi : j.toNatClampNeg = i) (hl : i < vs.length) :
    ∃ T' h', Stand p l e R s m args below meth c T' (locs ++ [⟨a, j.toNatClampNeg⟩]) cells slots ∧ T'.heap = h' ∧ Wr h h' a j.toNatClampNeg (.long x) ∧ Arv Z h' a k .long n (vs.set i (.long x)) dv ∧ ∀ target, Steps p.tables e below (T'.setTop { g with pc := g.pc + 1, stack := rest }) target → Steps p.tables e below (T.setTop g) target := by
  obtain ⟨cl, Ar, q, S, N, H, G⟩ := V
  obtain ⟨T', h', X', e', W, st⟩ := stJ X hx hZ eT Ar (inb_of S hj) hg hs hd
  exact ⟨T', h', X', e', W, Arv.set Ar q S N H G rfl W i hi hl, st⟩
end OwnLib

def own_vals (f : Nat → Int64) : List Value := [.long (f 0), .long (f 1), .long (f 2), .long (f 3), .long (f 4), .long (f 5), .long (f 6), .long (f 7)]
def own_f (b : Int64) (i : Nat) : Int64 := b + Int64.ofNat i
def own_up (g : Nat → Int64) (k : Nat) (x : Int64) (i : Nat) : Int64 := if i = k then x else g i
def own_cps (f g : Nat → Int64) (s t i : Nat) : Nat → Nat → Int64
  | 0 => g
  | k + 1 => own_cps f (own_up g (t + i) (f (s + i))) s t (i + 1) k
theorem own_f0 (b : Int64) : own_f b 0 = b := Int64.add_zero b
theorem own_fill (b : Int64) : ([(.long b), (.long (b + (1 : Int64))), (.long (b + (2 : Int64))), (.long (b + (3 : Int64))), (.long (b + (4 : Int64))), (.long (b + (5 : Int64))), (.long (b + (6 : Int64))), (.long (b + (7 : Int64)))] : List Value) = own_vals (own_f b) := by
  have h := own_f0 b
  simp only [own_vals, h]
  rfl
theorem own_l8 (g : Nat → Int64) {k : Nat} (h : k < 8) : k < (own_vals g).length := h
theorem own_set (g : Nat → Int64) (k : Nat) (x : Int64) (h : k < 8) : (own_vals g).set k (.long x) = own_vals (own_up g k x) := by
  match k, h with
  | 0, _ => rfl
  | 1, _ => rfl
  | 2, _ => rfl
  | 3, _ => rfl
  | 4, _ => rfl
  | 5, _ => rfl
  | 6, _ => rfl
  | 7, _ => rfl
theorem own_get (g : Nat → Int64) (k : Nat) (h : k < 8) (d : Value) : (own_vals g).getD k d = .long (g k) := by
  match k, h with
  | 0, _ => rfl
  | 1, _ => rfl
  | 2, _ => rfl
  | 3, _ => rfl
  | 4, _ => rfl
  | 5, _ => rfl
  | 6, _ => rfl
  | 7, _ => rfl
theorem own_toInt {n : Nat} (h : n < 2 ^ 31) : (Int32.ofNat n).toInt = n := Int32.toInt_ofNat_small h
theorem own_clamp {n : Nat} (h : n < 2 ^ 31) : (Int32.ofNat n).toNatClampNeg = n := by
  have := own_toInt h
  show (Int32.ofNat n).toInt.toNat = n
  omega
theorem own_sum {x y : Int32} {a b : Nat} (hx : x = Int32.ofNat a) (hy : y = Int32.ofNat b) : x + y = Int32.ofNat (a + b) := by
  rw [hx, hy, Int32.ofNat_add]
theorem own_mul {x y : Int32} {a b : Nat} (hx : x = Int32.ofNat a) (hy : y = Int32.ofNat b) : x * y = Int32.ofNat (a * b) := by
  rw [hx, hy, Int32.ofNat_mul]
theorem own_inc {x : Int32} {a : Nat} (hx : x = Int32.ofNat a) : x + 1 = Int32.ofNat (a + 1) := own_sum hx rfl
theorem own_in8' {x : Int32} {a : Nat} (hx : x = Int32.ofNat a) (h : a < 8) : ¬ x < (0 : Int32) ∧ x < (8 : Int32) := by
  have h1 := own_toInt (n := a) (by omega)
  have e0 : (0 : Int32).toInt = 0 := by decide
  have e8 : (8 : Int32).toInt = 8 := by decide
  rw [hx, Int32.lt_iff_toInt_lt, Int32.lt_iff_toInt_lt, h1, e0, e8]
  omega
theorem own_in8 {x y : Int32} {a b : Nat} (hx : x = Int32.ofNat a) (hy : y = Int32.ofNat b) (h : a + b < 8) : ¬ (x + y) < (0 : Int32) ∧ (x + y) < (8 : Int32) := own_in8' (own_sum hx hy) h
theorem own_nat' {x : Int32} {a : Nat} (hx : x = Int32.ofNat a) (h : a < 8) : x.toNatClampNeg = a := by rw [hx]; exact own_clamp (by omega)
theorem own_nat {x y : Int32} {a b : Nat} (hx : x = Int32.ofNat a) (hy : y = Int32.ofNat b) (h : a + b < 8) : (x + y).toNatClampNeg = a + b := own_nat' (own_sum hx hy) h
theorem own_at' {x : Int32} {a : Nat} {g : Nat → Int64} {d : Value} (hx : x = Int32.ofNat a) (h : a < 8) : (own_vals g).getD x.toNatClampNeg d = .long (g a) := by rw [own_nat' hx h]; exact own_get g a h d
theorem own_at {x y : Int32} {a b : Nat} {g : Nat → Int64} {d : Value} (hx : x = Int32.ofNat a) (hy : y = Int32.ofNat b) (h : a + b < 8) : (own_vals g).getD (x + y).toNatClampNeg d = .long (g (a + b)) := own_at' (own_sum hx hy) h
theorem own_ltn {x y : Int32} {a b : Nat} (hx : x = Int32.ofNat a) (hy : y = Int32.ofNat b) (h1 : a < 2 ^ 31) (h2 : b < 2 ^ 31) : x < y ↔ a < b := by
  rw [hx, hy, Int32.lt_iff_toInt_lt, own_toInt h1, own_toInt h2]
  omega
theorem own_ilt {x y : Int32} {a b : Nat} (hx : x = Int32.ofNat a) (hy : y = Int32.ofNat b) (h : a < b) (hb : b ≤ 8) : x < y := (own_ltn hx hy (by omega) (by omega)).mpr h
theorem own_inlt {x y : Int32} {a b : Nat} (hx : x = Int32.ofNat a) (hy : y = Int32.ofNat b) (h : a = b) (hb : b ≤ 8) : ¬ x < y := mt (own_ltn hx hy (by omega) (by omega)).mp (by omega)
theorem own_mask (x : Int32) : 0 ≤ (x &&& (2147483647 : Int32)).toInt := (c_and x 2147483647 (by decide)).1
theorem own_rem (x m : Int32) (n : Nat) (hn : m = Int32.ofNat n) (h0 : 0 < n) (h8 : n ≤ 8) : ∃ k : Nat, k < n ∧ (x &&& (2147483647 : Int32)) % m = Int32.ofNat k := by
  have h1 : m.toInt = n := by rw [hn]; exact own_toInt (by omega)
  have h2 := (c_irem (x &&& (2147483647 : Int32)) m n h1).1 (own_mask x)
  have h3 := Int.emod_nonneg (x &&& (2147483647 : Int32)).toInt (show (n : Int) ≠ 0 by omega)
  have h4 := Int.emod_lt_of_pos (x &&& (2147483647 : Int32)).toInt (show (0 : Int) < n by omega)
  refine ⟨((x &&& (2147483647 : Int32)).toInt % n).toNat, by omega, Int32.toInt_inj.mp ?_⟩
  rw [h2, own_toInt (by omega)]
  omega
theorem own_w5 (x w : Int32) (h : w = (x &&& (2147483647 : Int32)) % (5 : Int32)) : ∃ n : Nat, n ≤ 4 ∧ w = Int32.ofNat n := by
  obtain ⟨k, h1, h2⟩ := own_rem x 5 5 rfl (by decide) (by decide)
  exact ⟨k, by omega, h.trans h2⟩
theorem own_fit (w : Nat) (hw : w ≤ 4) (f : Int32) (hf : f = if Int32.ofNat w = (0 : Int32) then (3 : Int32) else ((8 : Int32) / Int32.ofNat w)) : f ≠ 0 ∧ ∀ x : Int32, ∃ k : Nat, (x &&& (2147483647 : Int32)) % f = Int32.ofNat k ∧ w * k + w ≤ 8 := by
  match w, hw with
  | 0, _ =>
    have e : f = Int32.ofNat 3 := hf.trans (by decide)
    exact ⟨by rw [e]; decide, fun x => by obtain ⟨k, h1, h2⟩ := own_rem x f 3 e (by decide) (by decide); exact ⟨k, h2, by omega⟩⟩
  | 1, _ =>
    have e : f = Int32.ofNat 8 := hf.trans (by decide)
    exact ⟨by rw [e]; decide, fun x => by obtain ⟨k, h1, h2⟩ := own_rem x f 8 e (by decide) (by decide); exact ⟨k, h2, by omega⟩⟩
  | 2, _ =>
    have e : f = Int32.ofNat 4 := hf.trans (by decide)
    exact ⟨by rw [e]; decide, fun x => by obtain ⟨k, h1, h2⟩ := own_rem x f 4 e (by decide) (by decide); exact ⟨k, h2, by omega⟩⟩
  | 3, _ =>
    have e : f = Int32.ofNat 2 := hf.trans (by decide)
    exact ⟨by rw [e]; decide, fun x => by obtain ⟨k, h1, h2⟩ := own_rem x f 2 e (by decide) (by decide); exact ⟨k, h2, by omega⟩⟩
  | 4, _ =>
    have e : f = Int32.ofNat 2 := hf.trans (by decide)
    exact ⟨by rw [e]; decide, fun x => by obtain ⟨k, h1, h2⟩ := own_rem x f 2 e (by decide) (by decide); exact ⟨k, h2, by omega⟩⟩
theorem own_fit' {w : Nat} {f x y : Int32} (h : ∀ x : Int32, ∃ k : Nat, (x &&& (2147483647 : Int32)) % f = Int32.ofNat k ∧ w * k + w ≤ 8) (hy : y = (x &&& (2147483647 : Int32)) % f) : ∃ k : Nat, y = Int32.ofNat k ∧ w * k + w ≤ 8 := by
  obtain ⟨k, h1, h2⟩ := h x
  exact ⟨k, hy.trans h1, h2⟩
theorem own_cps_at (f : Nat → Int64) (s t : Nat) : ∀ (k i : Nat) (g : Nat → Int64) (x : Nat), own_cps f g s t i k x = if t + i ≤ x ∧ x < t + i + k then f (s + (x - t)) else g x := by
  intro k
  induction k with
  | zero => intro i g x; simp only [own_cps]; rw [if_neg (by omega)]
  | succ k ih =>
    intro i g x
    simp only [own_cps]
    rw [ih]
    by_cases h1 : t + (i + 1) ≤ x ∧ x < t + (i + 1) + k
    · rw [if_pos h1, if_pos (by omega)]
    · rw [if_neg h1]
      unfold own_up
      by_cases h2 : x = t + i
      · rw [if_pos h2, if_pos (by omega)]
        congr 1
        omega
      · rw [if_neg h2, if_neg (by omega)]
theorem own_i2l {n : Nat} (h : n < 2 ^ 31) : (Int32.ofNat n).toInt64 = Int64.ofNat n := by
  apply Int64.toInt_inj.mp
  rw [c_i2l, own_toInt h, Int64.toInt_ofNat_of_lt (by omega)]
theorem own_cell {p1 p2 : Int64} {xs xt xw xa xb : Int32} {wN aN bN : Nat} (j : Nat) (hj : j < 8) (hxs : xs = xw * xa) (hxt : xt = xw * xb) (hw : xw = Int32.ofNat wN) (ha : xa = Int32.ofNat aN) (hb : xb = Int32.ofNat bN) (h1 : wN * aN + wN ≤ 8) (h2 : wN * bN + wN ≤ 8) :
    own_cps (own_f p1) (own_f p2) (wN * aN) (wN * bN) 0 wN j = (if Int32.ofNat j < xt then (p2 + ((Int32.ofNat j).toInt64)) else (if Int32.ofNat j < (xt + xw) then (p1 + ((xs + (Int32.ofNat j - xt)).toInt64)) else (p2 + ((Int32.ofNat j).toInt64)))) := by
  have es : xs = Int32.ofNat (wN * aN) := hxs.trans (own_mul hw ha)
  have et : xt = Int32.ofNat (wN * bN) := hxt.trans (own_mul hw hb)
  generalize wN * aN = s at *
  generalize wN * bN = t at *
  have l1 := own_ltn (x := Int32.ofNat j) rfl et (by omega) (by omega)
  have l2 := own_ltn (x := Int32.ofNat j) rfl (own_sum et hw) (by omega) (by omega)
  rw [own_cps_at, own_i2l (by omega)]
  by_cases c1 : j < t
  · rw [if_neg (by omega), if_pos (l1.mpr c1)]; rfl
  · rw [if_neg (mt l1.mp c1)]
    by_cases c2 : j < t + wN
    · rw [if_pos (by omega), if_pos (l2.mpr c2)]
      have e : xs + (Int32.ofNat j - xt) = Int32.ofNat (s + (j - t)) := by
        apply Int32.toInt_inj.mp
        have r1 := c_isub (Int32.ofNat j) xt
        have r2 := c_iadd xs (Int32.ofNat j - xt)
        have r3 := rng32 (Int32.ofNat j - xt)
        have r4 := rng32 (xs + (Int32.ofNat j - xt))
        have v1 := own_toInt (n := j) (by omega)
        have v2 : xt.toInt = t := by rw [et]; exact own_toInt (by omega)
        have v3 : xs.toInt = s := by rw [es]; exact own_toInt (by omega)
        rw [own_toInt (by omega)]
        omega
      rw [e, own_i2l (by omega)]
      rfl
    · rw [if_neg (by omega), if_neg (mt l2.mp c2)]; rfl
theorem d1_0 : decode method_3_code 0 = .ok (.aload_n 0, 1) := by decide +kernel
theorem d1_1 : decode method_3_code 1 = .ok (.iconst 0, 1) := by decide +kernel
theorem d1_2 : decode method_3_code 2 = .ok (.lload_n 1, 1) := by decide +kernel
theorem d1_3 : decode method_3_code 3 = .ok (.lastore, 1) := by decide +kernel
theorem d1_4 : decode method_3_code 4 = .ok (.aload_n 0, 1) := by decide +kernel
theorem d1_5 : decode method_3_code 5 = .ok (.iconst 1, 1) := by decide +kernel
theorem d1_6 : decode method_3_code 6 = .ok (.lload_n 1, 1) := by decide +kernel
theorem d1_7 : decode method_3_code 7 = .ok (.lconst 1, 1) := by decide +kernel
theorem d1_8 : decode method_3_code 8 = .ok (.ladd, 1) := by decide +kernel
theorem d1_9 : decode method_3_code 9 = .ok (.lastore, 1) := by decide +kernel
theorem d1_10 : decode method_3_code 10 = .ok (.aload_n 0, 1) := by decide +kernel
theorem d1_11 : decode method_3_code 11 = .ok (.iconst 2, 1) := by decide +kernel
theorem d1_12 : decode method_3_code 12 = .ok (.lload_n 1, 1) := by decide +kernel
theorem d1_13 : decode method_3_code 13 = .ok (.ldc2_w 28, 3) := by decide +kernel
theorem d1_16 : decode method_3_code 16 = .ok (.ladd, 1) := by decide +kernel
theorem d1_17 : decode method_3_code 17 = .ok (.lastore, 1) := by decide +kernel
theorem d1_18 : decode method_3_code 18 = .ok (.aload_n 0, 1) := by decide +kernel
theorem d1_19 : decode method_3_code 19 = .ok (.iconst 3, 1) := by decide +kernel
theorem d1_20 : decode method_3_code 20 = .ok (.lload_n 1, 1) := by decide +kernel
theorem d1_21 : decode method_3_code 21 = .ok (.ldc2_w 30, 3) := by decide +kernel
theorem d1_24 : decode method_3_code 24 = .ok (.ladd, 1) := by decide +kernel
theorem d1_25 : decode method_3_code 25 = .ok (.lastore, 1) := by decide +kernel
theorem d1_26 : decode method_3_code 26 = .ok (.aload_n 0, 1) := by decide +kernel
theorem d1_27 : decode method_3_code 27 = .ok (.iconst 4, 1) := by decide +kernel
theorem d1_28 : decode method_3_code 28 = .ok (.lload_n 1, 1) := by decide +kernel
theorem d1_29 : decode method_3_code 29 = .ok (.ldc2_w 32, 3) := by decide +kernel
theorem d1_32 : decode method_3_code 32 = .ok (.ladd, 1) := by decide +kernel
theorem d1_33 : decode method_3_code 33 = .ok (.lastore, 1) := by decide +kernel
theorem d1_34 : decode method_3_code 34 = .ok (.aload_n 0, 1) := by decide +kernel
theorem d1_35 : decode method_3_code 35 = .ok (.iconst 5, 1) := by decide +kernel
theorem d1_36 : decode method_3_code 36 = .ok (.lload_n 1, 1) := by decide +kernel
theorem d1_37 : decode method_3_code 37 = .ok (.ldc2_w 34, 3) := by decide +kernel
theorem d1_40 : decode method_3_code 40 = .ok (.ladd, 1) := by decide +kernel
theorem d1_41 : decode method_3_code 41 = .ok (.lastore, 1) := by decide +kernel
theorem d1_42 : decode method_3_code 42 = .ok (.aload_n 0, 1) := by decide +kernel
theorem d1_43 : decode method_3_code 43 = .ok (.bipush 6, 2) := by decide +kernel
theorem d1_45 : decode method_3_code 45 = .ok (.lload_n 1, 1) := by decide +kernel
theorem d1_46 : decode method_3_code 46 = .ok (.ldc2_w 36, 3) := by decide +kernel
theorem d1_49 : decode method_3_code 49 = .ok (.ladd, 1) := by decide +kernel
theorem d1_50 : decode method_3_code 50 = .ok (.lastore, 1) := by decide +kernel
theorem d1_51 : decode method_3_code 51 = .ok (.aload_n 0, 1) := by decide +kernel
theorem d1_52 : decode method_3_code 52 = .ok (.bipush 7, 2) := by decide +kernel
theorem d1_54 : decode method_3_code 54 = .ok (.lload_n 1, 1) := by decide +kernel
theorem d1_55 : decode method_3_code 55 = .ok (.ldc2_w 38, 3) := by decide +kernel
theorem d1_58 : decode method_3_code 58 = .ok (.ladd, 1) := by decide +kernel
theorem d1_59 : decode method_3_code 59 = .ok (.lastore, 1) := by decide +kernel
theorem d1_60 : decode method_3_code 60 = .ok (.return_, 1) := by decide +kernel
theorem pn_0 : plainName "com/example/tiercast/tiercast/protocol/DescriptorsCopyOnePinLaw" = true := by first | (simp [plainName, overriddenIn]; done) | decide +kernel
theorem ef_1 (m : MethodId) (x0 : Addr) (x1 : Int64) : entryFrame m #[(.ref x0), (.long x1)] 3 = mkF m 0 #[rv x0, lv x1, .second] [] := by first | (simp [entryFrame, mkF, argsToLocals, Value.category]; done) | rfl
def Q1 (Z : State) (oa : Addr) (qb : Int64) (rk : ClassId) (h0 : Heap) (n0 : Nat) (rv_ : Option Value) (h_ : Heap) (L_ : List Loc) : Prop := rv_ = none ∧ Fr n0 L_ ∧ Keep h0 h_ [oa] ∧ Arv Z h_ oa rk .long (8 : Int32) (own_vals (own_f qb)) (.long (0 : Int64))
set_option maxRecDepth 65536 in
set_option maxHeartbeats 40000000 in
theorem rm1 (l : Launch) (Z : State) (a0 : Array Value) (hw : ∀ d ∈ tables_1, d.before a0 Z = true) (ws : List Jvm.Cond) (oa : Addr) (qb : Int64) (rk : ClassId) (h0 : Heap) (n0 : Nat) (Z0 : n0 ≤ h0.size) (Va : Arv Z h0 oa rk .long (8 : Int32) [(.long (0 : Int64)), (.long (0 : Int64)), (.long (0 : Int64)), (.long (0 : Int64)), (.long (0 : Int64)), (.long (0 : Int64)), (.long (0 : Int64)), (.long (0 : Int64))] (.long (0 : Int64))) (g_ : n0 ≤ oa) :
    MetFree l (⟨"com/example/tiercast/tiercast/protocol/DescriptorsCopyOnePinLaw", "fill", "([JJ)V"⟩ : MethodName) (head1 (Jvm.Cond.code (⟨"com/example/tiercast/tiercast/protocol/DescriptorsCopyOnePinLaw", "fill", "([JJ)V"⟩ : MethodName) method_3_code 3 none :: ws) ({ frames := 0, cells := 0, slots := 0, locals := 0 } : Room)) (fun a U => a = #[(.ref oa), (.long qb)] ∧ Z.Warmed39 U.vm ∧ U.heap = h0) (fun _ _ _ _ _ => True) (fun _ U o U' => ∃ v L, o = .returned v ∧ Q1 Z oa qb rk h0 n0 v U'.heap L ∧ FrameEnd U o U' L ({ frames := 0, cells := 0, slots := 0, locals := 0 } : Room).cells ({ frames := 0, cells := 0, slots := 0, locals := 0 } : Room).slots) := by
  refine MetFree.of_bodySF (plainFor_of_name pn_0) hisR ?_
  intro p e s m args below meth c s₁ Bd hml0 hP hK
  obtain ⟨rfl, hZ, hh⟩ := hP
  have hx := Bd.exec
  have hby := Bd.bytes
  have hml : c.maxLocals = 3 := hml0
  have hown : s.vm.findClass "com/example/tiercast/tiercast/protocol/DescriptorsCopyOnePinLaw" = some m.cls := findClass_of_methodNamed Bd.named
  have hnm := (name_of_methodNamed Bd.named Bd.method).1
  have X0 : Stand p l e ({ frames := 0, cells := 0, slots := 0, locals := 0 } : Room) s m #[(.ref oa), (.long qb)] below meth c s₁ [] 0 0 := Stand.of_body Bd
  have e0 : s₁.heap = h0 := by rw [← hh, Bd.state]; rfl
  have N0 := Fr.nil n0
  obtain ⟨G, hG, pre0⟩ : ∃ G : State → Prop, (∀ t, G t → Steps p.tables e below (s₁.setTop (entryFrame m #[(.ref oa), (.long qb)] 3)) t) ∧ ∀ t, own_K p e below m s₁ 0 #[rv oa, lv qb, .second] [] t → G t := ⟨fun t => Steps p.tables e below (s₁.setTop (entryFrame m #[(.ref oa), (.long qb)] 3)) t, fun _ k => k, fun t k => castTop (ef_1 m oa qb) k⟩
  obtain ⟨T1, h1, X1, e1, W1, V1, st1⟩ := own_las X0 hx hZ e0 Va ⟨by decide, by decide⟩ (g := (mkF m 3 #[rv oa, lv qb, .second] [(.long qb), (.int (0 : Int32)), (.ref oa)])) rfl rfl (hb hby d1_3) (i := 0) rfl (Nat.le_of_ble_eq_true rfl)
  have K1 : Keep h0 h1 [oa] := (Keep.refl h0 [oa]).wr W1 (Or.inl (List.mem_of_getElem? (i := 0) rfl))
  have N1 := Fr.snoc X1 N0 g_
  have sz1 : n0 ≤ h1.size := Nat.le_trans Z0 (Keep.of_wr W1).1
  have Vw1 : Arv Z h1 oa rk .long (8 : Int32) [(.long qb), (.long (0 : Int64)), (.long (0 : Int64)), (.long (0 : Int64)), (.long (0 : Int64)), (.long (0 : Int64)), (.long (0 : Int64)), (.long (0 : Int64))] (.long (0 : Int64)) := V1
  obtain ⟨T2, h2, X2, e2, W2, V2, st2⟩ := own_las X1 hx hZ e1 Vw1 ⟨by decide, by decide⟩ (g := (mkF m 9 #[rv oa, lv qb, .second] [(.long (qb + (1 : Int64))), (.int (1 : Int32)), (.ref oa)])) rfl rfl (hb hby d1_9) (i := 1) rfl (Nat.le_of_ble_eq_true rfl)
  have K2 : Keep h0 h2 [oa] := K1.wr W2 (Or.inl (List.mem_of_getElem? (i := 0) rfl))
  have N2 := Fr.snoc X2 N1 g_
  have sz2 : n0 ≤ h2.size := Nat.le_trans sz1 (Keep.of_wr W2).1
  have Vw2 : Arv Z h2 oa rk .long (8 : Int32) [(.long qb), (.long (qb + (1 : Int64))), (.long (0 : Int64)), (.long (0 : Int64)), (.long (0 : Int64)), (.long (0 : Int64)), (.long (0 : Int64)), (.long (0 : Int64))] (.long (0 : Int64)) := V2
  obtain ⟨T3, h3, X3, e3, W3, V3, st3⟩ := own_las X2 hx hZ e2 Vw2 ⟨by decide, by decide⟩ (g := (mkF m 17 #[rv oa, lv qb, .second] [(.long (qb + (2 : Int64))), (.int (2 : Int32)), (.ref oa)])) rfl rfl (hb hby d1_17) (i := 2) rfl (Nat.le_of_ble_eq_true rfl)
  have K3 : Keep h0 h3 [oa] := K2.wr W3 (Or.inl (List.mem_of_getElem? (i := 0) rfl))
  have N3 := Fr.snoc X3 N2 g_
  have sz3 : n0 ≤ h3.size := Nat.le_trans sz2 (Keep.of_wr W3).1
  have Vw3 : Arv Z h3 oa rk .long (8 : Int32) [(.long qb), (.long (qb + (1 : Int64))), (.long (qb + (2 : Int64))), (.long (0 : Int64)), (.long (0 : Int64)), (.long (0 : Int64)), (.long (0 : Int64)), (.long (0 : Int64))] (.long (0 : Int64)) := V3
  obtain ⟨T4, h4, X4, e4, W4, V4, st4⟩ := own_las X3 hx hZ e3 Vw3 ⟨by decide, by decide⟩ (g := (mkF m 25 #[rv oa, lv qb, .second] [(.long (qb + (3 : Int64))), (.int (3 : Int32)), (.ref oa)])) rfl rfl (hb hby d1_25) (i := 3) rfl (Nat.le_of_ble_eq_true rfl)
  have K4 : Keep h0 h4 [oa] := K3.wr W4 (Or.inl (List.mem_of_getElem? (i := 0) rfl))
  have N4 := Fr.snoc X4 N3 g_
  have sz4 : n0 ≤ h4.size := Nat.le_trans sz3 (Keep.of_wr W4).1
  have Vw4 : Arv Z h4 oa rk .long (8 : Int32) [(.long qb), (.long (qb + (1 : Int64))), (.long (qb + (2 : Int64))), (.long (qb + (3 : Int64))), (.long (0 : Int64)), (.long (0 : Int64)), (.long (0 : Int64)), (.long (0 : Int64))] (.long (0 : Int64)) := V4
  obtain ⟨T5, h5, X5, e5, W5, V5, st5⟩ := own_las X4 hx hZ e4 Vw4 ⟨by decide, by decide⟩ (g := (mkF m 33 #[rv oa, lv qb, .second] [(.long (qb + (4 : Int64))), (.int (4 : Int32)), (.ref oa)])) rfl rfl (hb hby d1_33) (i := 4) rfl (Nat.le_of_ble_eq_true rfl)
  have K5 : Keep h0 h5 [oa] := K4.wr W5 (Or.inl (List.mem_of_getElem? (i := 0) rfl))
  have N5 := Fr.snoc X5 N4 g_
  have sz5 : n0 ≤ h5.size := Nat.le_trans sz4 (Keep.of_wr W5).1
  have Vw5 : Arv Z h5 oa rk .long (8 : Int32) [(.long qb), (.long (qb + (1 : Int64))), (.long (qb + (2 : Int64))), (.long (qb + (3 : Int64))), (.long (qb + (4 : Int64))), (.long (0 : Int64)), (.long (0 : Int64)), (.long (0 : Int64))] (.long (0 : Int64)) := V5
  obtain ⟨T6, h6, X6, e6, W6, V6, st6⟩ := own_las X5 hx hZ e5 Vw5 ⟨by decide, by decide⟩ (g := (mkF m 41 #[rv oa, lv qb, .second] [(.long (qb + (5 : Int64))), (.int (5 : Int32)), (.ref oa)])) rfl rfl (hb hby d1_41) (i := 5) rfl (Nat.le_of_ble_eq_true rfl)
  have K6 : Keep h0 h6 [oa] := K5.wr W6 (Or.inl (List.mem_of_getElem? (i := 0) rfl))
  have N6 := Fr.snoc X6 N5 g_
  have sz6 : n0 ≤ h6.size := Nat.le_trans sz5 (Keep.of_wr W6).1
  have Vw6 : Arv Z h6 oa rk .long (8 : Int32) [(.long qb), (.long (qb + (1 : Int64))), (.long (qb + (2 : Int64))), (.long (qb + (3 : Int64))), (.long (qb + (4 : Int64))), (.long (qb + (5 : Int64))), (.long (0 : Int64)), (.long (0 : Int64))] (.long (0 : Int64)) := V6
  obtain ⟨T7, h7, X7, e7, W7, V7, st7⟩ := own_las X6 hx hZ e6 Vw6 ⟨by decide, by decide⟩ (g := (mkF m 50 #[rv oa, lv qb, .second] [(.long (qb + (6 : Int64))), (.int (6 : Int32)), (.ref oa)])) rfl rfl (hb hby d1_50) (i := 6) rfl (Nat.le_of_ble_eq_true rfl)
  have K7 : Keep h0 h7 [oa] := K6.wr W7 (Or.inl (List.mem_of_getElem? (i := 0) rfl))
  have N7 := Fr.snoc X7 N6 g_
  have sz7 : n0 ≤ h7.size := Nat.le_trans sz6 (Keep.of_wr W7).1
  have Vw7 : Arv Z h7 oa rk .long (8 : Int32) [(.long qb), (.long (qb + (1 : Int64))), (.long (qb + (2 : Int64))), (.long (qb + (3 : Int64))), (.long (qb + (4 : Int64))), (.long (qb + (5 : Int64))), (.long (qb + (6 : Int64))), (.long (0 : Int64))] (.long (0 : Int64)) := V7
  obtain ⟨T8, h8, X8, e8, W8, V8, st8⟩ := own_las X7 hx hZ e7 Vw7 ⟨by decide, by decide⟩ (g := (mkF m 59 #[rv oa, lv qb, .second] [(.long (qb + (7 : Int64))), (.int (7 : Int32)), (.ref oa)])) rfl rfl (hb hby d1_59) (i := 7) rfl (Nat.le_of_ble_eq_true rfl)
  have K8 : Keep h0 h8 [oa] := K7.wr W8 (Or.inl (List.mem_of_getElem? (i := 0) rfl))
  have N8 := Fr.snoc X8 N7 g_
  have sz8 : n0 ≤ h8.size := Nat.le_trans sz7 (Keep.of_wr W8).1
  have Vw8 : Arv Z h8 oa rk .long (8 : Int32) [(.long qb), (.long (qb + (1 : Int64))), (.long (qb + (2 : Int64))), (.long (qb + (3 : Int64))), (.long (qb + (4 : Int64))), (.long (qb + (5 : Int64))), (.long (qb + (6 : Int64))), (.long (qb + (7 : Int64)))] (.long (0 : Int64)) := V8
  have pre9 : ∀ t, own_K p e below m T8 60 #[rv oa, lv qb, .second] [] t → G t := by
    intro t k
    refine pre0 t ?_
    show own_K p e below m s₁ 0 #[rv oa, lv qb, .second] [] _
    refine XS.aloadN X0.here hx rfl (hb hby d1_0) rfl rfl ?_
    show own_K p e below m s₁ 1 #[rv oa, lv qb, .second] [(.ref oa)] _
    refine XS.iconst X0.here hx rfl (hb hby d1_1) ?_
    show own_K p e below m s₁ 2 #[rv oa, lv qb, .second] [(.int (0 : Int32)), (.ref oa)] _
    refine XS.lloadN X0.here hx rfl (hb hby d1_2) rfl ?_
    show own_K p e below m s₁ 3 #[rv oa, lv qb, .second] [(.long qb), (.int (0 : Int32)), (.ref oa)] _
    refine st1 _ ?_
    show own_K p e below m T1 4 #[rv oa, lv qb, .second] [] _
    refine XS.aloadN X1.here hx rfl (hb hby d1_4) rfl rfl ?_
    show own_K p e below m T1 5 #[rv oa, lv qb, .second] [(.ref oa)] _
    refine XS.iconst X1.here hx rfl (hb hby d1_5) ?_
    show own_K p e below m T1 6 #[rv oa, lv qb, .second] [(.int (1 : Int32)), (.ref oa)] _
    refine XS.lloadN X1.here hx rfl (hb hby d1_6) rfl ?_
    show own_K p e below m T1 7 #[rv oa, lv qb, .second] [(.long qb), (.int (1 : Int32)), (.ref oa)] _
    refine XS.lconst X1.here hx rfl (hb hby d1_7) ?_
    show own_K p e below m T1 8 #[rv oa, lv qb, .second] [(.long (1 : Int64)), (.long qb), (.int (1 : Int32)), (.ref oa)] _
    refine XS.ladd X1.here hx rfl (hb hby d1_8) rfl ?_
    show own_K p e below m T1 9 #[rv oa, lv qb, .second] [(.long (qb + (1 : Int64))), (.int (1 : Int32)), (.ref oa)] _
    refine st2 _ ?_
    show own_K p e below m T2 10 #[rv oa, lv qb, .second] [] _
    refine XS.aloadN X2.here hx rfl (hb hby d1_10) rfl rfl ?_
    show own_K p e below m T2 11 #[rv oa, lv qb, .second] [(.ref oa)] _
    refine XS.iconst X2.here hx rfl (hb hby d1_11) ?_
    show own_K p e below m T2 12 #[rv oa, lv qb, .second] [(.int (2 : Int32)), (.ref oa)] _
    refine XS.lloadN X2.here hx rfl (hb hby d1_12) rfl ?_
    show own_K p e below m T2 13 #[rv oa, lv qb, .second] [(.long qb), (.int (2 : Int32)), (.ref oa)] _
    refine X2.ldc2Long hx hown (mvT hZ (hw _ (List.mem_of_getElem? (i := 6) rfl))) (g := (mkF m 13 #[rv oa, lv qb, .second] [(.long qb), (.int (2 : Int32)), (.ref oa)])) rfl (hb hby d1_13) _ ?_
    show own_K p e below m T2 16 #[rv oa, lv qb, .second] [(.long (2 : Int64)), (.long qb), (.int (2 : Int32)), (.ref oa)] _
    refine XS.ladd X2.here hx rfl (hb hby d1_16) rfl ?_
    show own_K p e below m T2 17 #[rv oa, lv qb, .second] [(.long (qb + (2 : Int64))), (.int (2 : Int32)), (.ref oa)] _
    refine st3 _ ?_
    show own_K p e below m T3 18 #[rv oa, lv qb, .second] [] _
    refine XS.aloadN X3.here hx rfl (hb hby d1_18) rfl rfl ?_
    show own_K p e below m T3 19 #[rv oa, lv qb, .second] [(.ref oa)] _
    refine XS.iconst X3.here hx rfl (hb hby d1_19) ?_
    show own_K p e below m T3 20 #[rv oa, lv qb, .second] [(.int (3 : Int32)), (.ref oa)] _
    refine XS.lloadN X3.here hx rfl (hb hby d1_20) rfl ?_
    show own_K p e below m T3 21 #[rv oa, lv qb, .second] [(.long qb), (.int (3 : Int32)), (.ref oa)] _
    refine X3.ldc2Long hx hown (mvT hZ (hw _ (List.mem_of_getElem? (i := 7) rfl))) (g := (mkF m 21 #[rv oa, lv qb, .second] [(.long qb), (.int (3 : Int32)), (.ref oa)])) rfl (hb hby d1_21) _ ?_
    show own_K p e below m T3 24 #[rv oa, lv qb, .second] [(.long (3 : Int64)), (.long qb), (.int (3 : Int32)), (.ref oa)] _
    refine XS.ladd X3.here hx rfl (hb hby d1_24) rfl ?_
    show own_K p e below m T3 25 #[rv oa, lv qb, .second] [(.long (qb + (3 : Int64))), (.int (3 : Int32)), (.ref oa)] _
    refine st4 _ ?_
    show own_K p e below m T4 26 #[rv oa, lv qb, .second] [] _
    refine XS.aloadN X4.here hx rfl (hb hby d1_26) rfl rfl ?_
    show own_K p e below m T4 27 #[rv oa, lv qb, .second] [(.ref oa)] _
    refine XS.iconst X4.here hx rfl (hb hby d1_27) ?_
    show own_K p e below m T4 28 #[rv oa, lv qb, .second] [(.int (4 : Int32)), (.ref oa)] _
    refine XS.lloadN X4.here hx rfl (hb hby d1_28) rfl ?_
    show own_K p e below m T4 29 #[rv oa, lv qb, .second] [(.long qb), (.int (4 : Int32)), (.ref oa)] _
    refine X4.ldc2Long hx hown (mvT hZ (hw _ (List.mem_of_getElem? (i := 8) rfl))) (g := (mkF m 29 #[rv oa, lv qb, .second] [(.long qb), (.int (4 : Int32)), (.ref oa)])) rfl (hb hby d1_29) _ ?_
    show own_K p e below m T4 32 #[rv oa, lv qb, .second] [(.long (4 : Int64)), (.long qb), (.int (4 : Int32)), (.ref oa)] _
    refine XS.ladd X4.here hx rfl (hb hby d1_32) rfl ?_
    show own_K p e below m T4 33 #[rv oa, lv qb, .second] [(.long (qb + (4 : Int64))), (.int (4 : Int32)), (.ref oa)] _
    refine st5 _ ?_
    show own_K p e below m T5 34 #[rv oa, lv qb, .second] [] _
    refine XS.aloadN X5.here hx rfl (hb hby d1_34) rfl rfl ?_
    show own_K p e below m T5 35 #[rv oa, lv qb, .second] [(.ref oa)] _
    refine XS.iconst X5.here hx rfl (hb hby d1_35) ?_
    show own_K p e below m T5 36 #[rv oa, lv qb, .second] [(.int (5 : Int32)), (.ref oa)] _
    refine XS.lloadN X5.here hx rfl (hb hby d1_36) rfl ?_
    show own_K p e below m T5 37 #[rv oa, lv qb, .second] [(.long qb), (.int (5 : Int32)), (.ref oa)] _
    refine X5.ldc2Long hx hown (mvT hZ (hw _ (List.mem_of_getElem? (i := 9) rfl))) (g := (mkF m 37 #[rv oa, lv qb, .second] [(.long qb), (.int (5 : Int32)), (.ref oa)])) rfl (hb hby d1_37) _ ?_
    show own_K p e below m T5 40 #[rv oa, lv qb, .second] [(.long (5 : Int64)), (.long qb), (.int (5 : Int32)), (.ref oa)] _
    refine XS.ladd X5.here hx rfl (hb hby d1_40) rfl ?_
    show own_K p e below m T5 41 #[rv oa, lv qb, .second] [(.long (qb + (5 : Int64))), (.int (5 : Int32)), (.ref oa)] _
    refine st6 _ ?_
    show own_K p e below m T6 42 #[rv oa, lv qb, .second] [] _
    refine XS.aloadN X6.here hx rfl (hb hby d1_42) rfl rfl ?_
    show own_K p e below m T6 43 #[rv oa, lv qb, .second] [(.ref oa)] _
    refine XS.bipush X6.here hx rfl (hb hby d1_43) ?_
    show own_K p e below m T6 45 #[rv oa, lv qb, .second] [(.int (6 : Int32)), (.ref oa)] _
    refine XS.lloadN X6.here hx rfl (hb hby d1_45) rfl ?_
    show own_K p e below m T6 46 #[rv oa, lv qb, .second] [(.long qb), (.int (6 : Int32)), (.ref oa)] _
    refine X6.ldc2Long hx hown (mvT hZ (hw _ (List.mem_of_getElem? (i := 10) rfl))) (g := (mkF m 46 #[rv oa, lv qb, .second] [(.long qb), (.int (6 : Int32)), (.ref oa)])) rfl (hb hby d1_46) _ ?_
    show own_K p e below m T6 49 #[rv oa, lv qb, .second] [(.long (6 : Int64)), (.long qb), (.int (6 : Int32)), (.ref oa)] _
    refine XS.ladd X6.here hx rfl (hb hby d1_49) rfl ?_
    show own_K p e below m T6 50 #[rv oa, lv qb, .second] [(.long (qb + (6 : Int64))), (.int (6 : Int32)), (.ref oa)] _
    refine st7 _ ?_
    show own_K p e below m T7 51 #[rv oa, lv qb, .second] [] _
    refine XS.aloadN X7.here hx rfl (hb hby d1_51) rfl rfl ?_
    show own_K p e below m T7 52 #[rv oa, lv qb, .second] [(.ref oa)] _
    refine XS.bipush X7.here hx rfl (hb hby d1_52) ?_
    show own_K p e below m T7 54 #[rv oa, lv qb, .second] [(.int (7 : Int32)), (.ref oa)] _
    refine XS.lloadN X7.here hx rfl (hb hby d1_54) rfl ?_
    show own_K p e below m T7 55 #[rv oa, lv qb, .second] [(.long qb), (.int (7 : Int32)), (.ref oa)] _
    refine X7.ldc2Long hx hown (mvT hZ (hw _ (List.mem_of_getElem? (i := 11) rfl))) (g := (mkF m 55 #[rv oa, lv qb, .second] [(.long qb), (.int (7 : Int32)), (.ref oa)])) rfl (hb hby d1_55) _ ?_
    show own_K p e below m T7 58 #[rv oa, lv qb, .second] [(.long (7 : Int64)), (.long qb), (.int (7 : Int32)), (.ref oa)] _
    refine XS.ladd X7.here hx rfl (hb hby d1_58) rfl ?_
    show own_K p e below m T7 59 #[rv oa, lv qb, .second] [(.long (qb + (7 : Int64))), (.int (7 : Int32)), (.ref oa)] _
    refine st8 _ ?_
    exact k
  obtain ⟨fs, hr, hrun, hended, hW, hsame⟩ := X8.leave (v := none) (fun _ => rfl)
  refine ⟨_, _, hG _ (pre9 _ ?_), hrun, hended, _, _, rfl, ?_, ⟨_, rfl⟩, hW, hsame.mono (by decide) (by decide)⟩
  · show own_K p e below m T8 60 #[rv oa, lv qb, .second] [] _
    exact X8.returnOut hx Bd.returns (hb hby d1_60) hr
  · show Q1 Z oa qb rk h0 n0 _ T8.heap _
    rw [e8]
    exact ⟨rfl, N8, K8, (own_fill qb ▸ Vw8)⟩

theorem d2_15 : decode prog_65_method_27_code 15 = .ok (.iload 7, 2) := by decide +kernel
theorem d2_17 : decode prog_65_method_27_code 17 = .ok (.iload 4, 2) := by decide +kernel
theorem d2_19 : decode prog_65_method_27_code 19 = .ok (.if_icmp .ge 23, 3) := by decide +kernel
theorem d2_22 : decode prog_65_method_27_code 22 = .ok (.aload_n 2, 1) := by decide +kernel
theorem d2_23 : decode prog_65_method_27_code 23 = .ok (.iload 6, 2) := by decide +kernel
theorem d2_25 : decode prog_65_method_27_code 25 = .ok (.iload 7, 2) := by decide +kernel
theorem d2_27 : decode prog_65_method_27_code 27 = .ok (.iadd, 1) := by decide +kernel
theorem d2_28 : decode prog_65_method_27_code 28 = .ok (.aload_n 0, 1) := by decide +kernel
theorem d2_29 : decode prog_65_method_27_code 29 = .ok (.iload 5, 2) := by decide +kernel
theorem d2_31 : decode prog_65_method_27_code 31 = .ok (.iload 7, 2) := by decide +kernel
theorem d2_33 : decode prog_65_method_27_code 33 = .ok (.iadd, 1) := by decide +kernel
theorem d2_34 : decode prog_65_method_27_code 34 = .ok (.laload, 1) := by decide +kernel
theorem d2_35 : decode prog_65_method_27_code 35 = .ok (.lastore, 1) := by decide +kernel
theorem d2_36 : decode prog_65_method_27_code 36 = .ok (.iinc 7 1, 3) := by decide +kernel
theorem d2_39 : decode prog_65_method_27_code 39 = .ok (.goto (-24), 3) := by decide +kernel
set_option maxRecDepth 65536 in
set_option maxHeartbeats 40000000 in
theorem tn_cp {p : Program} {l : Launch} {e : Env} {R : Room} {s : State} {m : MethodId} {args : Array Value} {below : List Frame} {meth : Method} {c : Code} {T0 : State} {locs : List Loc} {cells slots : Nat} {Z : State} {a0 : Array Value} {h0 : Heap} {n0 : Nat} {of : Addr} {ot : Addr} {xst : Int32} {xat : Int32} {xw : Int32} {xs : Int32} {xt : Int32} {xi : Int32} {kf : ClassId} {kt : ClassId} {ff : Nat → Int64} {gg : Nat → Int64} {sN : Nat} {tN : Nat} {wN : Nat} {iN : Nat}
    (X0 : Stand p l e R s m args below meth c T0 locs cells slots) (hx : p.tables.exec = Jvm.exec) (hZ : Z.Warmed39 s.vm) (hw : ∀ d ∈ tables_1, d.before a0 Z = true) (hby : c.code = prog_65_method_27_code) (hml : c.maxLocals = 8) (hown : s.vm.findClass "com/example/tiercast/tiercast/protocol/Descriptors" = some m.cls) (e0 : T0.heap = h0) (N0 : Fr n0 locs) (Z0 : n0 ≤ h0.size) (Vf : Arv Z h0 of kf .long (8 : Int32) (own_vals ff) (.long (0 : Int64))) (Vt : Arv Z h0 ot kt .long (8 : Int32) (own_vals gg) (.long (0 : Int64))) (nft : of ≠ ot) (g_ : n0 ≤ ot) (hs : xs = Int32.ofNat sN) (ht : xt = Int32.ofNat tN) (hi : xi = Int32.ofNat iN) (hwN : xw = Int32.ofNat wN) (bs : sN + wN ≤ 8) (bt : tN + wN ≤ 8) (bi : iN < wN) :
    ∃ (T' : State) (h' : Heap) (l' : List Loc), Stand p l e R s m args below meth c T' l' cells slots ∧ Fr n0 l' ∧ T'.heap = h' ∧ Keep h0 h' [ot] ∧ Arv Z h' ot kt .long (8 : Int32) (own_vals (own_up gg (tN + iN) (ff (sN + iN)))) (.long (0 : Int64)) ∧ ∀ t, Steps p.tables e below (T'.setTop (mkF m 15 #[rv of, iv xst, rv ot, iv xat, iv xw, iv xs, iv xt, iv (xi + (1 : Int32))] [])) t → Steps p.tables e below (T0.setTop (mkF m 15 #[rv of, iv xst, rv ot, iv xat, iv xw, iv xs, iv xt, iv xi] [])) t := by
  have pre0 : ∀ t, own_K p e below m T0 15 #[rv of, iv xst, rv ot, iv xat, iv xw, iv xs, iv xt, iv xi] [] t → Steps p.tables e below (T0.setTop (mkF m 15 #[rv of, iv xst, rv ot, iv xat, iv xw, iv xs, iv xt, iv xi] [])) t := fun t k => k
  obtain ⟨T2, h2, X2, e2, W2, V2, st2⟩ := own_las X0 hx hZ e0 Vt (own_in8 ht hi (by omega)) (g := (mkF m 35 #[rv of, iv xst, rv ot, iv xat, iv xw, iv xs, iv xt, iv xi] [(.long (ff (sN + iN))), (.int (xt + xi)), (.ref ot)])) rfl rfl (hb hby d2_35) (i := (tN + iN)) (own_nat ht hi (by omega)) (own_l8 _ (by omega))
  have K2 : Keep h0 h2 [ot] := (Keep.refl h0 [ot]).wr W2 (Or.inl (List.mem_of_getElem? (i := 0) rfl))
  have N2 := Fr.snoc X2 N0 g_
  have sz2 : n0 ≤ h2.size := Nat.le_trans Z0 (Keep.of_wr W2).1
  have Vw2 : Arv Z h2 ot kt .long (8 : Int32) (List.set (own_vals gg) (tN + iN) (.long (ff (sN + iN)))) (.long (0 : Int64)) := V2
  have pre3 : ∀ t, own_K p e below m T2 15 #[rv of, iv xst, rv ot, iv xat, iv xw, iv xs, iv xt, iv (xi + (1 : Int32))] [] t → Steps p.tables e below (T0.setTop (mkF m 15 #[rv of, iv xst, rv ot, iv xat, iv xw, iv xs, iv xt, iv xi] [])) t := by
    intro t k
    refine pre0 t ?_
    show own_K p e below m T0 15 #[rv of, iv xst, rv ot, iv xat, iv xw, iv xs, iv xt, iv xi] [] _
    refine XS.iload X0.here hx rfl (hb hby d2_15) rfl ?_
    show own_K p e below m T0 17 #[rv of, iv xst, rv ot, iv xat, iv xw, iv xs, iv xt, iv xi] [(.int xi)] _
    refine XS.iload X0.here hx rfl (hb hby d2_17) rfl ?_
    show own_K p e below m T0 19 #[rv of, iv xst, rv ot, iv xat, iv xw, iv xs, iv xt, iv xi] [(.int xw), (.int xi)] _
    refine XS.icmpNo X0.here hx rfl (hb hby d2_19) rfl (tlt (own_ilt hi hwN bi (by omega))).2.1 ?_
    show own_K p e below m T0 22 #[rv of, iv xst, rv ot, iv xat, iv xw, iv xs, iv xt, iv xi] [] _
    refine XS.aloadN X0.here hx rfl (hb hby d2_22) rfl rfl ?_
    show own_K p e below m T0 23 #[rv of, iv xst, rv ot, iv xat, iv xw, iv xs, iv xt, iv xi] [(.ref ot)] _
    refine XS.iload X0.here hx rfl (hb hby d2_23) rfl ?_
    show own_K p e below m T0 25 #[rv of, iv xst, rv ot, iv xat, iv xw, iv xs, iv xt, iv xi] [(.int xt), (.ref ot)] _
    refine XS.iload X0.here hx rfl (hb hby d2_25) rfl ?_
    show own_K p e below m T0 27 #[rv of, iv xst, rv ot, iv xat, iv xw, iv xs, iv xt, iv xi] [(.int xi), (.int xt), (.ref ot)] _
    refine XS.iadd X0.here hx rfl (hb hby d2_27) rfl ?_
    show own_K p e below m T0 28 #[rv of, iv xst, rv ot, iv xat, iv xw, iv xs, iv xt, iv xi] [(.int (xt + xi)), (.ref ot)] _
    refine XS.aloadN X0.here hx rfl (hb hby d2_28) rfl rfl ?_
    show own_K p e below m T0 29 #[rv of, iv xst, rv ot, iv xat, iv xw, iv xs, iv xt, iv xi] [(.ref of), (.int (xt + xi)), (.ref ot)] _
    refine XS.iload X0.here hx rfl (hb hby d2_29) rfl ?_
    show own_K p e below m T0 31 #[rv of, iv xst, rv ot, iv xat, iv xw, iv xs, iv xt, iv xi] [(.int xs), (.ref of), (.int (xt + xi)), (.ref ot)] _
    refine XS.iload X0.here hx rfl (hb hby d2_31) rfl ?_
    show own_K p e below m T0 33 #[rv of, iv xst, rv ot, iv xat, iv xw, iv xs, iv xt, iv xi] [(.int xi), (.int xs), (.ref of), (.int (xt + xi)), (.ref ot)] _
    refine XS.iadd X0.here hx rfl (hb hby d2_33) rfl ?_
    show own_K p e below m T0 34 #[rv of, iv xst, rv ot, iv xat, iv xw, iv xs, iv xt, iv xi] [(.int (xs + xi)), (.ref of), (.int (xt + xi)), (.ref ot)] _
    refine own_lal X0 hx hZ e0 Vf (v := (.long (ff (sN + iN)))) (own_in8 hs hi (by omega)) (own_at hs hi (by omega)) (g := (mkF m 34 #[rv of, iv xst, rv ot, iv xat, iv xw, iv xs, iv xt, iv xi] [(.int (xs + xi)), (.ref of), (.int (xt + xi)), (.ref ot)])) rfl rfl (hb hby d2_34) _ ?_
    show own_K p e below m T0 35 #[rv of, iv xst, rv ot, iv xat, iv xw, iv xs, iv xt, iv xi] [(.long (ff (sN + iN))), (.int (xt + xi)), (.ref ot)] _
    refine st2 _ ?_
    show own_K p e below m T2 36 #[rv of, iv xst, rv ot, iv xat, iv xw, iv xs, iv xt, iv xi] [] _
    refine XS.iinc X2.here hx rfl (hb hby d2_36) rfl (l' := #[rv of, iv xst, rv ot, iv xat, iv xw, iv xs, iv xt, iv (xi + (1 : Int32))]) rfl ?_
    show own_K p e below m T2 39 #[rv of, iv xst, rv ot, iv xat, iv xw, iv xs, iv xt, iv (xi + (1 : Int32))] [] _
    refine XS.goto X2.here hx rfl (pc0 := 39) (pc' := 15) rfl (hb hby d2_39) (by decide) (by decide) ?_
    exact k
  exact ⟨_, _, _, X2, N2, e2, K2, (own_set gg (tN + iN) _ (by omega) ▸ Vw2), fun t k => pre3 t k⟩

set_option maxRecDepth 65536 in
set_option maxHeartbeats 40000000 in
theorem tn_cpx {p : Program} {l : Launch} {e : Env} {R : Room} {s : State} {m : MethodId} {args : Array Value} {below : List Frame} {meth : Method} {c : Code} {T0 : State} {locs : List Loc} {cells slots : Nat} {Z : State} {a0 : Array Value} {h0 : Heap} {n0 : Nat} {of : Addr} {ot : Addr} {xst : Int32} {xat : Int32} {xw : Int32} {xs : Int32} {xt : Int32} {xi : Int32} {wN : Nat} {iN : Nat}
    (X0 : Stand p l e R s m args below meth c T0 locs cells slots) (hx : p.tables.exec = Jvm.exec) (hZ : Z.Warmed39 s.vm) (hw : ∀ d ∈ tables_1, d.before a0 Z = true) (hby : c.code = prog_65_method_27_code) (hml : c.maxLocals = 8) (hown : s.vm.findClass "com/example/tiercast/tiercast/protocol/Descriptors" = some m.cls) (e0 : T0.heap = h0) (N0 : Fr n0 locs) (Z0 : n0 ≤ h0.size) (hi : xi = Int32.ofNat iN) (hwN : xw = Int32.ofNat wN) (bi : iN = wN) (bt : wN ≤ 8) :
    ∃ (T' : State) (l' : List Loc), Stand p l e R s m args below meth c T' l' cells slots ∧ Fr n0 l' ∧ T'.heap = h0 ∧ ∀ t, Steps p.tables e below (T'.setTop (mkF m 42 #[rv of, iv xst, rv ot, iv xat, iv xw, iv xs, iv xt, iv xi] [])) t → Steps p.tables e below (T0.setTop (mkF m 15 #[rv of, iv xst, rv ot, iv xat, iv xw, iv xs, iv xt, iv xi] [])) t := by
  have pre0 : ∀ t, own_K p e below m T0 15 #[rv of, iv xst, rv ot, iv xat, iv xw, iv xs, iv xt, iv xi] [] t → Steps p.tables e below (T0.setTop (mkF m 15 #[rv of, iv xst, rv ot, iv xat, iv xw, iv xs, iv xt, iv xi] [])) t := fun t k => k
  have pre1 : ∀ t, own_K p e below m T0 42 #[rv of, iv xst, rv ot, iv xat, iv xw, iv xs, iv xt, iv xi] [] t → Steps p.tables e below (T0.setTop (mkF m 15 #[rv of, iv xst, rv ot, iv xat, iv xw, iv xs, iv xt, iv xi] [])) t := by
    intro t k
    refine pre0 t ?_
    show own_K p e below m T0 15 #[rv of, iv xst, rv ot, iv xat, iv xw, iv xs, iv xt, iv xi] [] _
    refine XS.iload X0.here hx rfl (hb hby d2_15) rfl ?_
    show own_K p e below m T0 17 #[rv of, iv xst, rv ot, iv xat, iv xw, iv xs, iv xt, iv xi] [(.int xi)] _
    refine XS.iload X0.here hx rfl (hb hby d2_17) rfl ?_
    show own_K p e below m T0 19 #[rv of, iv xst, rv ot, iv xat, iv xw, iv xs, iv xt, iv xi] [(.int xw), (.int xi)] _
    refine XS.icmpYes X0.here hx rfl (pc0 := 19) (pc' := 42) rfl (hb hby d2_19) rfl (flt (own_inlt hi hwN bi (by omega))).2.1 (by decide) (by decide) ?_
    exact k
  exact ⟨_, _, X0, N0, e0, fun t k => pre1 t k⟩


set_option maxHeartbeats 4000000 in
theorem loop_cp {p : Program} {l : Launch} {e : Env} {R : Room} {s : State} {m : MethodId} {args : Array Value} {below : List Frame} {meth : Method} {c : Code} {cells slots : Nat} {Z : State} {a0 : Array Value} {n0 : Nat} {of : Addr} {ot : Addr} {xst : Int32} {xat : Int32} {xw : Int32} {xs : Int32} {xt : Int32} {kf : ClassId} {kt : ClassId} {ff : Nat → Int64} {sN tN wN : Nat}
    (hx : p.tables.exec = Jvm.exec) (hZ : Z.Warmed39 s.vm) (hw : ∀ d ∈ tables_1, d.before a0 Z = true) (hby : c.code = prog_65_method_27_code) (hml : c.maxLocals = 8) (hown : s.vm.findClass "com/example/tiercast/tiercast/protocol/Descriptors" = some m.cls)
    (nft : of ≠ ot) (g_ : n0 ≤ ot) (hs : xs = Int32.ofNat sN) (ht : xt = Int32.ofNat tN) (hwN : xw = Int32.ofNat wN) (bs : sN + wN ≤ 8) (bt : tN + wN ≤ 8) :
    ∀ (k iN : Nat) (xi : Int32) (T0 : State) (locs : List Loc) (h0 : Heap) (gg : Nat → Int64), iN + k = wN → xi = Int32.ofNat iN → Stand p l e R s m args below meth c T0 locs cells slots → T0.heap = h0 → Fr n0 locs → n0 ≤ h0.size →
      Arv Z h0 of kf .long (8 : Int32) (own_vals ff) (.long (0 : Int64)) → Arv Z h0 ot kt .long (8 : Int32) (own_vals gg) (.long (0 : Int64)) →
      ∃ (xi' : Int32) (T' : State) (h' : Heap) (l' : List Loc), Stand p l e R s m args below meth c T' l' cells slots ∧ Fr n0 l' ∧ T'.heap = h' ∧ Keep h0 h' [ot] ∧ Arv Z h' ot kt .long (8 : Int32) (own_vals (own_cps ff gg sN tN iN k)) (.long (0 : Int64)) ∧
        ∀ t, Steps p.tables e below (T'.setTop (mkF m 42 #[.val (.ref of), .val (.int xst), .val (.ref ot), .val (.int xat), .val (.int xw), .val (.int xs), .val (.int xt), .val (.int xi')] [])) t → Steps p.tables e below (T0.setTop (mkF m 15 #[.val (.ref of), .val (.int xst), .val (.ref ot), .val (.int xat), .val (.int xw), .val (.int xs), .val (.int xt), .val (.int xi)] [])) t := by
  intro k
  induction k with
  | zero =>
    intro iN xi T0 locs h0 gg hk hi X0 e0 N0 Z0 Vf Vt
    obtain ⟨T1, l1, X1, N1, e1, st1⟩ := tn_cpx (of := of) (ot := ot) (xst := xst) (xat := xat) (xs := xs) (xt := xt) X0 hx hZ hw hby hml hown e0 N0 Z0 hi hwN (by omega) (by omega)
    exact ⟨xi, T1, h0, l1, X1, N1, e1, Keep.refl _ _, Vt, st1⟩
  | succ k ih =>
    intro iN xi T0 locs h0 gg hk hi X0 e0 N0 Z0 Vf Vt
    obtain ⟨T1, h1, l1, X1, N1, e1, K1, Vt1, st1⟩ := tn_cp (xst := xst) (xat := xat) X0 hx hZ hw hby hml hown e0 N0 Z0 Vf Vt nft g_ hs ht hi hwN bs bt (by omega)
    obtain ⟨xi', T2, h2, l2, X2, N2, e2, K2, Vt2, st2⟩ := ih (iN + 1) (xi + 1) T1 l1 h1 _ (by omega) (own_inc hi) X1 e1 N1 (Nat.le_trans Z0 K1.1) (Vf.keep K1 (ninS nft nin0)) Vt1
    exact ⟨xi', T2, h2, l2, X2, N2, e2, K1.trans K2 (fun x hx => Or.inl hx), Vt2, fun t k => st1 t (st2 t k)⟩

theorem d2_0 : decode prog_65_method_27_code 0 = .ok (.iload 4, 2) := by decide +kernel
theorem d2_2 : decode prog_65_method_27_code 2 = .ok (.iload_n 1, 1) := by decide +kernel
theorem d2_3 : decode prog_65_method_27_code 3 = .ok (.imul, 1) := by decide +kernel
theorem d2_4 : decode prog_65_method_27_code 4 = .ok (.istore 5, 2) := by decide +kernel
theorem d2_6 : decode prog_65_method_27_code 6 = .ok (.iload 4, 2) := by decide +kernel
theorem d2_8 : decode prog_65_method_27_code 8 = .ok (.iload_n 3, 1) := by decide +kernel
theorem d2_9 : decode prog_65_method_27_code 9 = .ok (.imul, 1) := by decide +kernel
theorem d2_10 : decode prog_65_method_27_code 10 = .ok (.istore 6, 2) := by decide +kernel
theorem d2_12 : decode prog_65_method_27_code 12 = .ok (.iconst 0, 1) := by decide +kernel
theorem d2_13 : decode prog_65_method_27_code 13 = .ok (.istore 7, 2) := by decide +kernel
theorem d2_42 : decode prog_65_method_27_code 42 = .ok (.return_, 1) := by decide +kernel
theorem pn_1 : plainName "com/example/tiercast/tiercast/protocol/Descriptors" = true := by first | (simp [plainName, overriddenIn]; done) | decide +kernel
theorem ef_2 (m : MethodId) (x0 : Addr) (x1 : Int32) (x2 : Addr) (x3 : Int32) (x4 : Int32) : entryFrame m #[(.ref x0), (.int x1), (.ref x2), (.int x3), (.int x4)] 8 = mkF m 0 #[rv x0, iv x1, rv x2, iv x3, iv x4, .unset, .unset, .unset] [] := by first | (simp [entryFrame, mkF, argsToLocals, Value.category]; done) | rfl
def Q2 (Z : State) (of : Addr) (xst : Int32) (ot : Addr) (xat : Int32) (xw : Int32) (kf : ClassId) (kt : ClassId) (ff : Nat → Int64) (gg : Nat → Int64) (sN : Nat) (tN : Nat) (wN : Nat) (h0 : Heap) (n0 : Nat) (rv_ : Option Value) (h_ : Heap) (L_ : List Loc) : Prop := rv_ = none ∧ Fr n0 L_ ∧ Keep h0 h_ [ot] ∧ Arv Z h_ ot kt .long (8 : Int32) (own_vals (own_cps ff gg sN tN 0 wN)) (.long (0 : Int64))
set_option maxRecDepth 65536 in
set_option maxHeartbeats 40000000 in
theorem rm2 (l : Launch) (Z : State) (a0 : Array Value) (hw : ∀ d ∈ tables_1, d.before a0 Z = true) (ws : List Jvm.Cond) (of : Addr) (xst : Int32) (ot : Addr) (xat : Int32) (xw : Int32) (kf : ClassId) (kt : ClassId) (ff : Nat → Int64) (gg : Nat → Int64) (sN : Nat) (tN : Nat) (wN : Nat) (h0 : Heap) (n0 : Nat) (Z0 : n0 ≤ h0.size) (Vf : Arv Z h0 of kf .long (8 : Int32) (own_vals ff) (.long (0 : Int64))) (Vt : Arv Z h0 ot kt .long (8 : Int32) (own_vals gg) (.long (0 : Int64))) (nft : of ≠ ot) (g_ : n0 ≤ ot) (hs : (xw * xst) = Int32.ofNat sN) (ht : (xw * xat) = Int32.ofNat tN) (hwN : xw = Int32.ofNat wN) (bs : sN + wN ≤ 8) (bt : tN + wN ≤ 8) :
    MetFree l (⟨"com/example/tiercast/tiercast/protocol/Descriptors", "copyOne", "([JI[JII)V"⟩ : MethodName) (head1 (Jvm.Cond.code (⟨"com/example/tiercast/tiercast/protocol/Descriptors", "copyOne", "([JI[JII)V"⟩ : MethodName) prog_65_method_27_code 8 none :: ws) ({ frames := 0, cells := 0, slots := 0, locals := 0 } : Room)) (fun a U => a = #[(.ref of), (.int xst), (.ref ot), (.int xat), (.int xw)] ∧ Z.Warmed39 U.vm ∧ U.heap = h0) (fun _ _ _ _ _ => True) (fun _ U o U' => ∃ v L, o = .returned v ∧ Q2 Z of xst ot xat xw kf kt ff gg sN tN wN h0 n0 v U'.heap L ∧ FrameEnd U o U' L ({ frames := 0, cells := 0, slots := 0, locals := 0 } : Room).cells ({ frames := 0, cells := 0, slots := 0, locals := 0 } : Room).slots) := by
  refine MetFree.of_bodySF (plainFor_of_name pn_1) hisR ?_
  intro p e s m args below meth c s₁ Bd hml0 hP hK
  obtain ⟨rfl, hZ, hh⟩ := hP
  have hx := Bd.exec
  have hby := Bd.bytes
  have hml : c.maxLocals = 8 := hml0
  have hown : s.vm.findClass "com/example/tiercast/tiercast/protocol/Descriptors" = some m.cls := findClass_of_methodNamed Bd.named
  have hnm := (name_of_methodNamed Bd.named Bd.method).1
  have X0 : Stand p l e ({ frames := 0, cells := 0, slots := 0, locals := 0 } : Room) s m #[(.ref of), (.int xst), (.ref ot), (.int xat), (.int xw)] below meth c s₁ [] 0 0 := Stand.of_body Bd
  have e0 : s₁.heap = h0 := by rw [← hh, Bd.state]; rfl
  have N0 := Fr.nil n0
  obtain ⟨G, hG, pre0⟩ : ∃ G : State → Prop, (∀ t, G t → Steps p.tables e below (s₁.setTop (entryFrame m #[(.ref of), (.int xst), (.ref ot), (.int xat), (.int xw)] 8)) t) ∧ ∀ t, own_K p e below m s₁ 0 #[rv of, iv xst, rv ot, iv xat, iv xw, .unset, .unset, .unset] [] t → G t := ⟨fun t => Steps p.tables e below (s₁.setTop (entryFrame m #[(.ref of), (.int xst), (.ref ot), (.int xat), (.int xw)] 8)) t, fun _ k => k, fun t k => castTop (ef_2 m of xst ot xat xw) k⟩
  have pre1 : ∀ t, own_K p e below m s₁ 15 #[rv of, iv xst, rv ot, iv xat, iv xw, iv (xw * xst), iv (xw * xat), iv (0 : Int32)] [] t → G t := by
    intro t k
    refine pre0 t ?_
    show own_K p e below m s₁ 0 #[rv of, iv xst, rv ot, iv xat, iv xw, .unset, .unset, .unset] [] _
    refine XS.iload X0.here hx rfl (hb hby d2_0) rfl ?_
    show own_K p e below m s₁ 2 #[rv of, iv xst, rv ot, iv xat, iv xw, .unset, .unset, .unset] [(.int xw)] _
    refine XS.iloadN X0.here hx rfl (hb hby d2_2) rfl ?_
    show own_K p e below m s₁ 3 #[rv of, iv xst, rv ot, iv xat, iv xw, .unset, .unset, .unset] [(.int xst), (.int xw)] _
    refine XS.imul X0.here hx rfl (hb hby d2_3) rfl ?_
    show own_K p e below m s₁ 4 #[rv of, iv xst, rv ot, iv xat, iv xw, .unset, .unset, .unset] [(.int (xw * xst))] _
    refine XS.istore X0.here hx rfl (hb hby d2_4) rfl (l' := #[rv of, iv xst, rv ot, iv xat, iv xw, iv (xw * xst), .unset, .unset]) rfl ?_
    show own_K p e below m s₁ 6 #[rv of, iv xst, rv ot, iv xat, iv xw, iv (xw * xst), .unset, .unset] [] _
    refine XS.iload X0.here hx rfl (hb hby d2_6) rfl ?_
    show own_K p e below m s₁ 8 #[rv of, iv xst, rv ot, iv xat, iv xw, iv (xw * xst), .unset, .unset] [(.int xw)] _
    refine XS.iloadN X0.here hx rfl (hb hby d2_8) rfl ?_
    show own_K p e below m s₁ 9 #[rv of, iv xst, rv ot, iv xat, iv xw, iv (xw * xst), .unset, .unset] [(.int xat), (.int xw)] _
    refine XS.imul X0.here hx rfl (hb hby d2_9) rfl ?_
    show own_K p e below m s₁ 10 #[rv of, iv xst, rv ot, iv xat, iv xw, iv (xw * xst), .unset, .unset] [(.int (xw * xat))] _
    refine XS.istore X0.here hx rfl (hb hby d2_10) rfl (l' := #[rv of, iv xst, rv ot, iv xat, iv xw, iv (xw * xst), iv (xw * xat), .unset]) rfl ?_
    show own_K p e below m s₁ 12 #[rv of, iv xst, rv ot, iv xat, iv xw, iv (xw * xst), iv (xw * xat), .unset] [] _
    refine XS.iconst X0.here hx rfl (hb hby d2_12) ?_
    show own_K p e below m s₁ 13 #[rv of, iv xst, rv ot, iv xat, iv xw, iv (xw * xst), iv (xw * xat), .unset] [(.int (0 : Int32))] _
    refine XS.istore X0.here hx rfl (hb hby d2_13) rfl (l' := #[rv of, iv xst, rv ot, iv xat, iv xw, iv (xw * xst), iv (xw * xat), iv (0 : Int32)]) rfl ?_
    exact k
  obtain ⟨xi2, T2, h2, l2, X2, N2, e2, Kc2, V2, st2⟩ := loop_cp (xst := xst) (xat := xat) (xs := (xw * xst)) (xt := (xw * xat)) hx hZ hw hby hml hown nft g_ hs ht hwN bs bt wN 0 (0 : Int32) s₁ _ _ _ (by omega) rfl X0 e0 N0 Z0 Vf Vt
  have pre3 : ∀ t, own_K p e below m T2 42 #[rv of, iv xst, rv ot, iv xat, iv xw, iv (xw * xst), iv (xw * xat), iv xi2] [] t → G t := fun t k => pre1 t (st2 t k)
  have K2 : Keep h0 h2 [ot] := (Keep.refl h0 [ot]).trans Kc2 (fun x hx => Or.inl hx)
  obtain ⟨fs, hr, hrun, hended, hW, hsame⟩ := X2.leave (v := none) (fun _ => rfl)
  refine ⟨_, _, hG _ (pre3 _ ?_), hrun, hended, _, _, rfl, ?_, ⟨_, rfl⟩, hW, hsame.mono (by decide) (by decide)⟩
  · show own_K p e below m T2 42 #[rv of, iv xst, rv ot, iv xat, iv xw, iv (xw * xst), iv (xw * xat), iv xi2] [] _
    exact X2.returnOut hx Bd.returns (hb hby d2_42) hr
  · show Q2 Z of xst ot xat xw kf kt ff gg sN tN wN h0 n0 _ T2.heap _
    rw [e2]
    exact ⟨rfl, N2, K2, V2⟩

theorem d3_0 : decode method_4_code 0 = .ok (.aload_n 0, 1) := by decide +kernel
theorem d3_1 : decode method_4_code 1 = .ok (.iconst 0, 1) := by decide +kernel
theorem d3_2 : decode method_4_code 2 = .ok (.laload, 1) := by decide +kernel
theorem d3_3 : decode method_4_code 3 = .ok (.lload_n 1, 1) := by decide +kernel
theorem d3_4 : decode method_4_code 4 = .ok (.lcmp, 1) := by decide +kernel
theorem d3_5 : decode method_4_code 5 = .ok (.ifCond .ne 91, 3) := by decide +kernel
theorem d3_8 : decode method_4_code 8 = .ok (.aload_n 0, 1) := by decide +kernel
theorem d3_9 : decode method_4_code 9 = .ok (.iconst 1, 1) := by decide +kernel
theorem d3_10 : decode method_4_code 10 = .ok (.laload, 1) := by decide +kernel
theorem d3_11 : decode method_4_code 11 = .ok (.lload_n 1, 1) := by decide +kernel
theorem d3_12 : decode method_4_code 12 = .ok (.lconst 1, 1) := by decide +kernel
theorem d3_13 : decode method_4_code 13 = .ok (.ladd, 1) := by decide +kernel
theorem d3_14 : decode method_4_code 14 = .ok (.lcmp, 1) := by decide +kernel
theorem d3_15 : decode method_4_code 15 = .ok (.ifCond .ne 81, 3) := by decide +kernel
theorem d3_18 : decode method_4_code 18 = .ok (.aload_n 0, 1) := by decide +kernel
theorem d3_19 : decode method_4_code 19 = .ok (.iconst 2, 1) := by decide +kernel
theorem d3_20 : decode method_4_code 20 = .ok (.laload, 1) := by decide +kernel
theorem d3_21 : decode method_4_code 21 = .ok (.lload_n 1, 1) := by decide +kernel
theorem d3_22 : decode method_4_code 22 = .ok (.ldc2_w 28, 3) := by decide +kernel
theorem d3_25 : decode method_4_code 25 = .ok (.ladd, 1) := by decide +kernel
theorem d3_26 : decode method_4_code 26 = .ok (.lcmp, 1) := by decide +kernel
theorem d3_27 : decode method_4_code 27 = .ok (.ifCond .ne 69, 3) := by decide +kernel
theorem d3_30 : decode method_4_code 30 = .ok (.aload_n 0, 1) := by decide +kernel
theorem d3_31 : decode method_4_code 31 = .ok (.iconst 3, 1) := by decide +kernel
theorem d3_32 : decode method_4_code 32 = .ok (.laload, 1) := by decide +kernel
theorem d3_33 : decode method_4_code 33 = .ok (.lload_n 1, 1) := by decide +kernel
theorem d3_34 : decode method_4_code 34 = .ok (.ldc2_w 30, 3) := by decide +kernel
theorem d3_37 : decode method_4_code 37 = .ok (.ladd, 1) := by decide +kernel
theorem d3_38 : decode method_4_code 38 = .ok (.lcmp, 1) := by decide +kernel
theorem d3_39 : decode method_4_code 39 = .ok (.ifCond .ne 57, 3) := by decide +kernel
theorem d3_42 : decode method_4_code 42 = .ok (.aload_n 0, 1) := by decide +kernel
theorem d3_43 : decode method_4_code 43 = .ok (.iconst 4, 1) := by decide +kernel
theorem d3_44 : decode method_4_code 44 = .ok (.laload, 1) := by decide +kernel
theorem d3_45 : decode method_4_code 45 = .ok (.lload_n 1, 1) := by decide +kernel
theorem d3_46 : decode method_4_code 46 = .ok (.ldc2_w 32, 3) := by decide +kernel
theorem d3_49 : decode method_4_code 49 = .ok (.ladd, 1) := by decide +kernel
theorem d3_50 : decode method_4_code 50 = .ok (.lcmp, 1) := by decide +kernel
theorem d3_51 : decode method_4_code 51 = .ok (.ifCond .ne 45, 3) := by decide +kernel
theorem d3_54 : decode method_4_code 54 = .ok (.aload_n 0, 1) := by decide +kernel
theorem d3_55 : decode method_4_code 55 = .ok (.iconst 5, 1) := by decide +kernel
theorem d3_56 : decode method_4_code 56 = .ok (.laload, 1) := by decide +kernel
theorem d3_57 : decode method_4_code 57 = .ok (.lload_n 1, 1) := by decide +kernel
theorem d3_58 : decode method_4_code 58 = .ok (.ldc2_w 34, 3) := by decide +kernel
theorem d3_61 : decode method_4_code 61 = .ok (.ladd, 1) := by decide +kernel
theorem d3_62 : decode method_4_code 62 = .ok (.lcmp, 1) := by decide +kernel
theorem d3_63 : decode method_4_code 63 = .ok (.ifCond .ne 33, 3) := by decide +kernel
theorem d3_66 : decode method_4_code 66 = .ok (.aload_n 0, 1) := by decide +kernel
theorem d3_67 : decode method_4_code 67 = .ok (.bipush 6, 2) := by decide +kernel
theorem d3_69 : decode method_4_code 69 = .ok (.laload, 1) := by decide +kernel
theorem d3_70 : decode method_4_code 70 = .ok (.lload_n 1, 1) := by decide +kernel
theorem d3_71 : decode method_4_code 71 = .ok (.ldc2_w 36, 3) := by decide +kernel
theorem d3_74 : decode method_4_code 74 = .ok (.ladd, 1) := by decide +kernel
theorem d3_75 : decode method_4_code 75 = .ok (.lcmp, 1) := by decide +kernel
theorem d3_76 : decode method_4_code 76 = .ok (.ifCond .ne 20, 3) := by decide +kernel
theorem d3_79 : decode method_4_code 79 = .ok (.aload_n 0, 1) := by decide +kernel
theorem d3_80 : decode method_4_code 80 = .ok (.bipush 7, 2) := by decide +kernel
theorem d3_82 : decode method_4_code 82 = .ok (.laload, 1) := by decide +kernel
theorem d3_83 : decode method_4_code 83 = .ok (.lload_n 1, 1) := by decide +kernel
theorem d3_84 : decode method_4_code 84 = .ok (.ldc2_w 38, 3) := by decide +kernel
theorem d3_87 : decode method_4_code 87 = .ok (.ladd, 1) := by decide +kernel
theorem d3_88 : decode method_4_code 88 = .ok (.lcmp, 1) := by decide +kernel
theorem d3_89 : decode method_4_code 89 = .ok (.ifCond .ne 7, 3) := by decide +kernel
theorem d3_92 : decode method_4_code 92 = .ok (.iconst 1, 1) := by decide +kernel
theorem d3_93 : decode method_4_code 93 = .ok (.goto 4, 3) := by decide +kernel
theorem d3_97 : decode method_4_code 97 = .ok (.ireturn, 1) := by decide +kernel
theorem ef_3 (m : MethodId) (x0 : Addr) (x1 : Int64) : entryFrame m #[(.ref x0), (.long x1)] 3 = mkF m 0 #[rv x0, lv x1, .second] [] := by first | (simp [entryFrame, mkF, argsToLocals, Value.category]; done) | rfl
def Q3 (Z : State) (oa : Addr) (qb : Int64) (rk : ClassId) (h0 : Heap) (n0 : Nat) (rv_ : Option Value) (h_ : Heap) (L_ : List Loc) : Prop := rv_ = some (.int (1 : Int32)) ∧ Fr n0 L_ ∧ h_ = h0
set_option maxRecDepth 65536 in
set_option maxHeartbeats 40000000 in
theorem rm3 (l : Launch) (Z : State) (a0 : Array Value) (hw : ∀ d ∈ tables_1, d.before a0 Z = true) (ws : List Jvm.Cond) (oa : Addr) (qb : Int64) (rk : ClassId) (h0 : Heap) (n0 : Nat) (Z0 : n0 ≤ h0.size) (Va : Arv Z h0 oa rk .long (8 : Int32) (own_vals (own_f qb)) (.long (0 : Int64))) :
    MetFree l (⟨"com/example/tiercast/tiercast/protocol/DescriptorsCopyOnePinLaw", "same", "([JJ)Z"⟩ : MethodName) (head1 (Jvm.Cond.code (⟨"com/example/tiercast/tiercast/protocol/DescriptorsCopyOnePinLaw", "same", "([JJ)Z"⟩ : MethodName) method_4_code 3 (some .boolean) :: ws) ({ frames := 0, cells := 0, slots := 0, locals := 0 } : Room)) (fun a U => a = #[(.ref oa), (.long qb)] ∧ Z.Warmed39 U.vm ∧ U.heap = h0) (fun _ _ _ _ _ => True) (fun _ U o U' => ∃ v L, o = .returned v ∧ Q3 Z oa qb rk h0 n0 v U'.heap L ∧ FrameEnd U o U' L ({ frames := 0, cells := 0, slots := 0, locals := 0 } : Room).cells ({ frames := 0, cells := 0, slots := 0, locals := 0 } : Room).slots) := by
  refine MetFree.of_bodySF (plainFor_of_name pn_0) hisR ?_
  intro p e s m args below meth c s₁ Bd hml0 hP hK
  obtain ⟨rfl, hZ, hh⟩ := hP
  have hx := Bd.exec
  have hby := Bd.bytes
  have hml : c.maxLocals = 3 := hml0
  have hown : s.vm.findClass "com/example/tiercast/tiercast/protocol/DescriptorsCopyOnePinLaw" = some m.cls := findClass_of_methodNamed Bd.named
  have hnm := (name_of_methodNamed Bd.named Bd.method).1
  have X0 : Stand p l e ({ frames := 0, cells := 0, slots := 0, locals := 0 } : Room) s m #[(.ref oa), (.long qb)] below meth c s₁ [] 0 0 := Stand.of_body Bd
  have e0 : s₁.heap = h0 := by rw [← hh, Bd.state]; rfl
  have N0 := Fr.nil n0
  obtain ⟨G, hG, pre0⟩ : ∃ G : State → Prop, (∀ t, G t → Steps p.tables e below (s₁.setTop (entryFrame m #[(.ref oa), (.long qb)] 3)) t) ∧ ∀ t, own_K p e below m s₁ 0 #[rv oa, lv qb, .second] [] t → G t := ⟨fun t => Steps p.tables e below (s₁.setTop (entryFrame m #[(.ref oa), (.long qb)] 3)) t, fun _ k => k, fun t k => castTop (ef_3 m oa qb) k⟩
  have pre9 : ∀ t, own_K p e below m s₁ 97 #[rv oa, lv qb, .second] [(.int (1 : Int32))] t → G t := by
    intro t k
    refine pre0 t ?_
    show own_K p e below m s₁ 0 #[rv oa, lv qb, .second] [] _
    refine XS.aloadN X0.here hx rfl (hb hby d3_0) rfl rfl ?_
    show own_K p e below m s₁ 1 #[rv oa, lv qb, .second] [(.ref oa)] _
    refine XS.iconst X0.here hx rfl (hb hby d3_1) ?_
    show own_K p e below m s₁ 2 #[rv oa, lv qb, .second] [(.int (0 : Int32)), (.ref oa)] _
    refine own_lal X0 hx hZ e0 Va (v := (.long (own_f qb 0))) ⟨by decide, by decide⟩ rfl (g := (mkF m 2 #[rv oa, lv qb, .second] [(.int (0 : Int32)), (.ref oa)])) rfl rfl (hb hby d3_2) _ ?_
    show own_K p e below m s₁ 3 #[rv oa, lv qb, .second] [(.long (own_f qb 0))] _
    refine XS.lloadN X0.here hx rfl (hb hby d3_3) rfl ?_
    show own_K p e below m s₁ 4 #[rv oa, lv qb, .second] [(.long qb), (.long (own_f qb 0))] _
    refine XS.lcmp X0.here hx rfl (hb hby d3_4) rfl ?_
    show own_K p e below m s₁ 5 #[rv oa, lv qb, .second] [(.int (lcmpW (own_f qb 0) qb))] _
    refine XS.ifNo X0.here hx rfl (hb hby d3_5) rfl ((if0 _ _).trans (teq ((lw_eq _ _).mpr (own_f0 qb))).2) ?_
    show own_K p e below m s₁ 8 #[rv oa, lv qb, .second] [] _
    refine XS.aloadN X0.here hx rfl (hb hby d3_8) rfl rfl ?_
    show own_K p e below m s₁ 9 #[rv oa, lv qb, .second] [(.ref oa)] _
    refine XS.iconst X0.here hx rfl (hb hby d3_9) ?_
    show own_K p e below m s₁ 10 #[rv oa, lv qb, .second] [(.int (1 : Int32)), (.ref oa)] _
    refine own_lal X0 hx hZ e0 Va (v := (.long (own_f qb 1))) ⟨by decide, by decide⟩ rfl (g := (mkF m 10 #[rv oa, lv qb, .second] [(.int (1 : Int32)), (.ref oa)])) rfl rfl (hb hby d3_10) _ ?_
    show own_K p e below m s₁ 11 #[rv oa, lv qb, .second] [(.long (own_f qb 1))] _
    refine XS.lloadN X0.here hx rfl (hb hby d3_11) rfl ?_
    show own_K p e below m s₁ 12 #[rv oa, lv qb, .second] [(.long qb), (.long (own_f qb 1))] _
    refine XS.lconst X0.here hx rfl (hb hby d3_12) ?_
    show own_K p e below m s₁ 13 #[rv oa, lv qb, .second] [(.long (1 : Int64)), (.long qb), (.long (own_f qb 1))] _
    refine XS.ladd X0.here hx rfl (hb hby d3_13) rfl ?_
    show own_K p e below m s₁ 14 #[rv oa, lv qb, .second] [(.long (qb + (1 : Int64))), (.long (own_f qb 1))] _
    refine XS.lcmp X0.here hx rfl (hb hby d3_14) rfl ?_
    show own_K p e below m s₁ 15 #[rv oa, lv qb, .second] [(.int (lcmpW (own_f qb 1) (qb + (1 : Int64))))] _
    refine XS.ifNo X0.here hx rfl (hb hby d3_15) rfl ((if0 _ _).trans (teq ((lw_eq _ _).mpr rfl)).2) ?_
    show own_K p e below m s₁ 18 #[rv oa, lv qb, .second] [] _
    refine XS.aloadN X0.here hx rfl (hb hby d3_18) rfl rfl ?_
    show own_K p e below m s₁ 19 #[rv oa, lv qb, .second] [(.ref oa)] _
    refine XS.iconst X0.here hx rfl (hb hby d3_19) ?_
    show own_K p e below m s₁ 20 #[rv oa, lv qb, .second] [(.int (2 : Int32)), (.ref oa)] _
    refine own_lal X0 hx hZ e0 Va (v := (.long (own_f qb 2))) ⟨by decide, by decide⟩ rfl (g := (mkF m 20 #[rv oa, lv qb, .second] [(.int (2 : Int32)), (.ref oa)])) rfl rfl (hb hby d3_20) _ ?_
    show own_K p e below m s₁ 21 #[rv oa, lv qb, .second] [(.long (own_f qb 2))] _
    refine XS.lloadN X0.here hx rfl (hb hby d3_21) rfl ?_
    show own_K p e below m s₁ 22 #[rv oa, lv qb, .second] [(.long qb), (.long (own_f qb 2))] _
    refine X0.ldc2Long hx hown (mvT hZ (hw _ (List.mem_of_getElem? (i := 6) rfl))) (g := (mkF m 22 #[rv oa, lv qb, .second] [(.long qb), (.long (own_f qb 2))])) rfl (hb hby d3_22) _ ?_
    show own_K p e below m s₁ 25 #[rv oa, lv qb, .second] [(.long (2 : Int64)), (.long qb), (.long (own_f qb 2))] _
    refine XS.ladd X0.here hx rfl (hb hby d3_25) rfl ?_
    show own_K p e below m s₁ 26 #[rv oa, lv qb, .second] [(.long (qb + (2 : Int64))), (.long (own_f qb 2))] _
    refine XS.lcmp X0.here hx rfl (hb hby d3_26) rfl ?_
    show own_K p e below m s₁ 27 #[rv oa, lv qb, .second] [(.int (lcmpW (own_f qb 2) (qb + (2 : Int64))))] _
    refine XS.ifNo X0.here hx rfl (hb hby d3_27) rfl ((if0 _ _).trans (teq ((lw_eq _ _).mpr rfl)).2) ?_
    show own_K p e below m s₁ 30 #[rv oa, lv qb, .second] [] _
    refine XS.aloadN X0.here hx rfl (hb hby d3_30) rfl rfl ?_
    show own_K p e below m s₁ 31 #[rv oa, lv qb, .second] [(.ref oa)] _
    refine XS.iconst X0.here hx rfl (hb hby d3_31) ?_
    show own_K p e below m s₁ 32 #[rv oa, lv qb, .second] [(.int (3 : Int32)), (.ref oa)] _
    refine own_lal X0 hx hZ e0 Va (v := (.long (own_f qb 3))) ⟨by decide, by decide⟩ rfl (g := (mkF m 32 #[rv oa, lv qb, .second] [(.int (3 : Int32)), (.ref oa)])) rfl rfl (hb hby d3_32) _ ?_
    show own_K p e below m s₁ 33 #[rv oa, lv qb, .second] [(.long (own_f qb 3))] _
    refine XS.lloadN X0.here hx rfl (hb hby d3_33) rfl ?_
    show own_K p e below m s₁ 34 #[rv oa, lv qb, .second] [(.long qb), (.long (own_f qb 3))] _
    refine X0.ldc2Long hx hown (mvT hZ (hw _ (List.mem_of_getElem? (i := 7) rfl))) (g := (mkF m 34 #[rv oa, lv qb, .second] [(.long qb), (.long (own_f qb 3))])) rfl (hb hby d3_34) _ ?_
    show own_K p e below m s₁ 37 #[rv oa, lv qb, .second] [(.long (3 : Int64)), (.long qb), (.long (own_f qb 3))] _
    refine XS.ladd X0.here hx rfl (hb hby d3_37) rfl ?_
    show own_K p e below m s₁ 38 #[rv oa, lv qb, .second] [(.long (qb + (3 : Int64))), (.long (own_f qb 3))] _
    refine XS.lcmp X0.here hx rfl (hb hby d3_38) rfl ?_
    show own_K p e below m s₁ 39 #[rv oa, lv qb, .second] [(.int (lcmpW (own_f qb 3) (qb + (3 : Int64))))] _
    refine XS.ifNo X0.here hx rfl (hb hby d3_39) rfl ((if0 _ _).trans (teq ((lw_eq _ _).mpr rfl)).2) ?_
    show own_K p e below m s₁ 42 #[rv oa, lv qb, .second] [] _
    refine XS.aloadN X0.here hx rfl (hb hby d3_42) rfl rfl ?_
    show own_K p e below m s₁ 43 #[rv oa, lv qb, .second] [(.ref oa)] _
    refine XS.iconst X0.here hx rfl (hb hby d3_43) ?_
    show own_K p e below m s₁ 44 #[rv oa, lv qb, .second] [(.int (4 : Int32)), (.ref oa)] _
    refine own_lal X0 hx hZ e0 Va (v := (.long (own_f qb 4))) ⟨by decide, by decide⟩ rfl (g := (mkF m 44 #[rv oa, lv qb, .second] [(.int (4 : Int32)), (.ref oa)])) rfl rfl (hb hby d3_44) _ ?_
    show own_K p e below m s₁ 45 #[rv oa, lv qb, .second] [(.long (own_f qb 4))] _
    refine XS.lloadN X0.here hx rfl (hb hby d3_45) rfl ?_
    show own_K p e below m s₁ 46 #[rv oa, lv qb, .second] [(.long qb), (.long (own_f qb 4))] _
    refine X0.ldc2Long hx hown (mvT hZ (hw _ (List.mem_of_getElem? (i := 8) rfl))) (g := (mkF m 46 #[rv oa, lv qb, .second] [(.long qb), (.long (own_f qb 4))])) rfl (hb hby d3_46) _ ?_
    show own_K p e below m s₁ 49 #[rv oa, lv qb, .second] [(.long (4 : Int64)), (.long qb), (.long (own_f qb 4))] _
    refine XS.ladd X0.here hx rfl (hb hby d3_49) rfl ?_
    show own_K p e below m s₁ 50 #[rv oa, lv qb, .second] [(.long (qb + (4 : Int64))), (.long (own_f qb 4))] _
    refine XS.lcmp X0.here hx rfl (hb hby d3_50) rfl ?_
    show own_K p e below m s₁ 51 #[rv oa, lv qb, .second] [(.int (lcmpW (own_f qb 4) (qb + (4 : Int64))))] _
    refine XS.ifNo X0.here hx rfl (hb hby d3_51) rfl ((if0 _ _).trans (teq ((lw_eq _ _).mpr rfl)).2) ?_
    show own_K p e below m s₁ 54 #[rv oa, lv qb, .second] [] _
    refine XS.aloadN X0.here hx rfl (hb hby d3_54) rfl rfl ?_
    show own_K p e below m s₁ 55 #[rv oa, lv qb, .second] [(.ref oa)] _
    refine XS.iconst X0.here hx rfl (hb hby d3_55) ?_
    show own_K p e below m s₁ 56 #[rv oa, lv qb, .second] [(.int (5 : Int32)), (.ref oa)] _
    refine own_lal X0 hx hZ e0 Va (v := (.long (own_f qb 5))) ⟨by decide, by decide⟩ rfl (g := (mkF m 56 #[rv oa, lv qb, .second] [(.int (5 : Int32)), (.ref oa)])) rfl rfl (hb hby d3_56) _ ?_
    show own_K p e below m s₁ 57 #[rv oa, lv qb, .second] [(.long (own_f qb 5))] _
    refine XS.lloadN X0.here hx rfl (hb hby d3_57) rfl ?_
    show own_K p e below m s₁ 58 #[rv oa, lv qb, .second] [(.long qb), (.long (own_f qb 5))] _
    refine X0.ldc2Long hx hown (mvT hZ (hw _ (List.mem_of_getElem? (i := 9) rfl))) (g := (mkF m 58 #[rv oa, lv qb, .second] [(.long qb), (.long (own_f qb 5))])) rfl (hb hby d3_58) _ ?_
    show own_K p e below m s₁ 61 #[rv oa, lv qb, .second] [(.long (5 : Int64)), (.long qb), (.long (own_f qb 5))] _
    refine XS.ladd X0.here hx rfl (hb hby d3_61) rfl ?_
    show own_K p e below m s₁ 62 #[rv oa, lv qb, .second] [(.long (qb + (5 : Int64))), (.long (own_f qb 5))] _
    refine XS.lcmp X0.here hx rfl (hb hby d3_62) rfl ?_
    show own_K p e below m s₁ 63 #[rv oa, lv qb, .second] [(.int (lcmpW (own_f qb 5) (qb + (5 : Int64))))] _
    refine XS.ifNo X0.here hx rfl (hb hby d3_63) rfl ((if0 _ _).trans (teq ((lw_eq _ _).mpr rfl)).2) ?_
    show own_K p e below m s₁ 66 #[rv oa, lv qb, .second] [] _
    refine XS.aloadN X0.here hx rfl (hb hby d3_66) rfl rfl ?_
    show own_K p e below m s₁ 67 #[rv oa, lv qb, .second] [(.ref oa)] _
    refine XS.bipush X0.here hx rfl (hb hby d3_67) ?_
    show own_K p e below m s₁ 69 #[rv oa, lv qb, .second] [(.int (6 : Int32)), (.ref oa)] _
    refine own_lal X0 hx hZ e0 Va (v := (.long (own_f qb 6))) ⟨by decide, by decide⟩ rfl (g := (mkF m 69 #[rv oa, lv qb, .second] [(.int (6 : Int32)), (.ref oa)])) rfl rfl (hb hby d3_69) _ ?_
    show own_K p e below m s₁ 70 #[rv oa, lv qb, .second] [(.long (own_f qb 6))] _
    refine XS.lloadN X0.here hx rfl (hb hby d3_70) rfl ?_
    show own_K p e below m s₁ 71 #[rv oa, lv qb, .second] [(.long qb), (.long (own_f qb 6))] _
    refine X0.ldc2Long hx hown (mvT hZ (hw _ (List.mem_of_getElem? (i := 10) rfl))) (g := (mkF m 71 #[rv oa, lv qb, .second] [(.long qb), (.long (own_f qb 6))])) rfl (hb hby d3_71) _ ?_
    show own_K p e below m s₁ 74 #[rv oa, lv qb, .second] [(.long (6 : Int64)), (.long qb), (.long (own_f qb 6))] _
    refine XS.ladd X0.here hx rfl (hb hby d3_74) rfl ?_
    show own_K p e below m s₁ 75 #[rv oa, lv qb, .second] [(.long (qb + (6 : Int64))), (.long (own_f qb 6))] _
    refine XS.lcmp X0.here hx rfl (hb hby d3_75) rfl ?_
    show own_K p e below m s₁ 76 #[rv oa, lv qb, .second] [(.int (lcmpW (own_f qb 6) (qb + (6 : Int64))))] _
    refine XS.ifNo X0.here hx rfl (hb hby d3_76) rfl ((if0 _ _).trans (teq ((lw_eq _ _).mpr rfl)).2) ?_
    show own_K p e below m s₁ 79 #[rv oa, lv qb, .second] [] _
    refine XS.aloadN X0.here hx rfl (hb hby d3_79) rfl rfl ?_
    show own_K p e below m s₁ 80 #[rv oa, lv qb, .second] [(.ref oa)] _
    refine XS.bipush X0.here hx rfl (hb hby d3_80) ?_
    show own_K p e below m s₁ 82 #[rv oa, lv qb, .second] [(.int (7 : Int32)), (.ref oa)] _
    refine own_lal X0 hx hZ e0 Va (v := (.long (own_f qb 7))) ⟨by decide, by decide⟩ rfl (g := (mkF m 82 #[rv oa, lv qb, .second] [(.int (7 : Int32)), (.ref oa)])) rfl rfl (hb hby d3_82) _ ?_
    show own_K p e below m s₁ 83 #[rv oa, lv qb, .second] [(.long (own_f qb 7))] _
    refine XS.lloadN X0.here hx rfl (hb hby d3_83) rfl ?_
    show own_K p e below m s₁ 84 #[rv oa, lv qb, .second] [(.long qb), (.long (own_f qb 7))] _
    refine X0.ldc2Long hx hown (mvT hZ (hw _ (List.mem_of_getElem? (i := 11) rfl))) (g := (mkF m 84 #[rv oa, lv qb, .second] [(.long qb), (.long (own_f qb 7))])) rfl (hb hby d3_84) _ ?_
    show own_K p e below m s₁ 87 #[rv oa, lv qb, .second] [(.long (7 : Int64)), (.long qb), (.long (own_f qb 7))] _
    refine XS.ladd X0.here hx rfl (hb hby d3_87) rfl ?_
    show own_K p e below m s₁ 88 #[rv oa, lv qb, .second] [(.long (qb + (7 : Int64))), (.long (own_f qb 7))] _
    refine XS.lcmp X0.here hx rfl (hb hby d3_88) rfl ?_
    show own_K p e below m s₁ 89 #[rv oa, lv qb, .second] [(.int (lcmpW (own_f qb 7) (qb + (7 : Int64))))] _
    refine XS.ifNo X0.here hx rfl (hb hby d3_89) rfl ((if0 _ _).trans (teq ((lw_eq _ _).mpr rfl)).2) ?_
    show own_K p e below m s₁ 92 #[rv oa, lv qb, .second] [] _
    refine XS.iconst X0.here hx rfl (hb hby d3_92) ?_
    show own_K p e below m s₁ 93 #[rv oa, lv qb, .second] [(.int (1 : Int32))] _
    refine XS.goto X0.here hx rfl (pc0 := 93) (pc' := 97) rfl (hb hby d3_93) (by decide) (by decide) ?_
    exact k
  obtain ⟨fs, hr, hrun, hended, hW, hsame⟩ := X0.leave (v := some (.int (1 : Int32))) (fun h => by rw [Bd.returns] at h; cases h)
  refine ⟨_, _, hG _ (pre9 _ ?_), hrun, hended, _, _, rfl, ?_, ⟨_, rfl⟩, hW, hsame.mono (by decide) (by decide)⟩
  · show own_K p e below m s₁ 97 #[rv oa, lv qb, .second] [(.int (1 : Int32))] _
    exact retN X0 hx (t := .boolean) Bd.returns (by simp) (hb hby d3_97) hr
  · show Q3 Z oa qb rk h0 n0 _ s₁.heap _
    rw [e0]
    exact ⟨rfl, N0, rfl⟩

theorem d4_0 : decode method_5_code 0 = .ok (.iload_n 1, 1) := by decide +kernel
theorem d4_1 : decode method_5_code 1 = .ok (.iload 7, 2) := by decide +kernel
theorem d4_3 : decode method_5_code 3 = .ok (.if_icmp .lt 27, 3) := by decide +kernel
theorem d4_30 : decode method_5_code 30 = .ok (.lload 4, 2) := by decide +kernel
theorem d4_32 : decode method_5_code 32 = .ok (.iload_n 1, 1) := by decide +kernel
theorem d4_33 : decode method_5_code 33 = .ok (.i2l, 1) := by decide +kernel
theorem d4_34 : decode method_5_code 34 = .ok (.ladd, 1) := by decide +kernel
theorem d4_35 : decode method_5_code 35 = .ok (.lstore 9, 2) := by decide +kernel
theorem d4_6 : decode method_5_code 6 = .ok (.iload_n 1, 1) := by decide +kernel
theorem d4_7 : decode method_5_code 7 = .ok (.iload 7, 2) := by decide +kernel
theorem d4_9 : decode method_5_code 9 = .ok (.iload 8, 2) := by decide +kernel
theorem d4_11 : decode method_5_code 11 = .ok (.iadd, 1) := by decide +kernel
theorem d4_12 : decode method_5_code 12 = .ok (.if_icmp .ge 18, 3) := by decide +kernel
theorem d4_15 : decode method_5_code 15 = .ok (.lload_n 2, 1) := by decide +kernel
theorem d4_16 : decode method_5_code 16 = .ok (.iload 6, 2) := by decide +kernel
theorem d4_18 : decode method_5_code 18 = .ok (.iload_n 1, 1) := by decide +kernel
theorem d4_19 : decode method_5_code 19 = .ok (.iload 7, 2) := by decide +kernel
theorem d4_21 : decode method_5_code 21 = .ok (.isub, 1) := by decide +kernel
theorem d4_22 : decode method_5_code 22 = .ok (.iadd, 1) := by decide +kernel
theorem d4_23 : decode method_5_code 23 = .ok (.i2l, 1) := by decide +kernel
theorem d4_24 : decode method_5_code 24 = .ok (.ladd, 1) := by decide +kernel
theorem d4_25 : decode method_5_code 25 = .ok (.lstore 9, 2) := by decide +kernel
theorem d4_27 : decode method_5_code 27 = .ok (.goto 10, 3) := by decide +kernel
theorem d4_37 : decode method_5_code 37 = .ok (.aload_n 0, 1) := by decide +kernel
theorem d4_38 : decode method_5_code 38 = .ok (.iload_n 1, 1) := by decide +kernel
theorem d4_39 : decode method_5_code 39 = .ok (.laload, 1) := by decide +kernel
theorem d4_40 : decode method_5_code 40 = .ok (.lload 9, 2) := by decide +kernel
theorem d4_42 : decode method_5_code 42 = .ok (.lcmp, 1) := by decide +kernel
theorem d4_43 : decode method_5_code 43 = .ok (.ifCond .ne 7, 3) := by decide +kernel
theorem d4_46 : decode method_5_code 46 = .ok (.iconst 1, 1) := by decide +kernel
theorem d4_47 : decode method_5_code 47 = .ok (.goto 4, 3) := by decide +kernel
theorem d4_51 : decode method_5_code 51 = .ok (.ireturn, 1) := by decide +kernel
theorem ef_4 (m : MethodId) (x0 : Addr) (x1 : Int32) (x2 : Int64) (x3 : Int64) (x4 : Int32) (x5 : Int32) (x6 : Int32) : entryFrame m #[(.ref x0), (.int x1), (.long x2), (.long x3), (.int x4), (.int x5), (.int x6)] 11 = mkF m 0 #[rv x0, iv x1, lv x2, .second, lv x3, .second, iv x4, iv x5, iv x6, .unset, .unset] [] := by first | (simp [entryFrame, mkF, argsToLocals, Value.category]; done) | rfl
def Q4 (Z : State) (oa : Addr) (xj : Int32) (qa : Int64) (qb : Int64) (xs : Int32) (xt : Int32) (xw : Int32) (rk : ClassId) (gg : Nat → Int64) (jN : Nat) (h0 : Heap) (n0 : Nat) (rv_ : Option Value) (h_ : Heap) (L_ : List Loc) : Prop := rv_ = some (.int (1 : Int32)) ∧ Fr n0 L_ ∧ h_ = h0
set_option maxRecDepth 65536 in
set_option maxHeartbeats 40000000 in
theorem rm4 (l : Launch) (Z : State) (a0 : Array Value) (hw : ∀ d ∈ tables_1, d.before a0 Z = true) (ws : List Jvm.Cond) (oa : Addr) (xj : Int32) (qa : Int64) (qb : Int64) (xs : Int32) (xt : Int32) (xw : Int32) (rk : ClassId) (gg : Nat → Int64) (jN : Nat) (h0 : Heap) (n0 : Nat) (Z0 : n0 ≤ h0.size) (Va : Arv Z h0 oa rk .long (8 : Int32) (own_vals gg) (.long (0 : Int64))) (hj : xj = Int32.ofNat jN) (bj : jN < 8) (hE : gg jN = (if xj < xt then (qb + (xj.toInt64)) else (if xj < (xt + xw) then (qa + ((xs + (xj - xt)).toInt64)) else (qb + (xj.toInt64))))) :
    MetFree l (⟨"com/example/tiercast/tiercast/protocol/DescriptorsCopyOnePinLaw", "cell", "([JIJJIII)Z"⟩ : MethodName) (head1 (Jvm.Cond.code (⟨"com/example/tiercast/tiercast/protocol/DescriptorsCopyOnePinLaw", "cell", "([JIJJIII)Z"⟩ : MethodName) method_5_code 11 (some .boolean) :: ws) ({ frames := 0, cells := 0, slots := 0, locals := 0 } : Room)) (fun a U => a = #[(.ref oa), (.int xj), (.long qa), (.long qb), (.int xs), (.int xt), (.int xw)] ∧ Z.Warmed39 U.vm ∧ U.heap = h0) (fun _ _ _ _ _ => True) (fun _ U o U' => ∃ v L, o = .returned v ∧ Q4 Z oa xj qa qb xs xt xw rk gg jN h0 n0 v U'.heap L ∧ FrameEnd U o U' L ({ frames := 0, cells := 0, slots := 0, locals := 0 } : Room).cells ({ frames := 0, cells := 0, slots := 0, locals := 0 } : Room).slots) := by
  refine MetFree.of_bodySF (plainFor_of_name pn_0) hisR ?_
  intro p e s m args below meth c s₁ Bd hml0 hP hK
  obtain ⟨rfl, hZ, hh⟩ := hP
  have hx := Bd.exec
  have hby := Bd.bytes
  have hml : c.maxLocals = 11 := hml0
  have hown : s.vm.findClass "com/example/tiercast/tiercast/protocol/DescriptorsCopyOnePinLaw" = some m.cls := findClass_of_methodNamed Bd.named
  have hnm := (name_of_methodNamed Bd.named Bd.method).1
  have X0 : Stand p l e ({ frames := 0, cells := 0, slots := 0, locals := 0 } : Room) s m #[(.ref oa), (.int xj), (.long qa), (.long qb), (.int xs), (.int xt), (.int xw)] below meth c s₁ [] 0 0 := Stand.of_body Bd
  have e0 : s₁.heap = h0 := by rw [← hh, Bd.state]; rfl
  have N0 := Fr.nil n0
  obtain ⟨G, hG, pre0⟩ : ∃ G : State → Prop, (∀ t, G t → Steps p.tables e below (s₁.setTop (entryFrame m #[(.ref oa), (.int xj), (.long qa), (.long qb), (.int xs), (.int xt), (.int xw)] 11)) t) ∧ ∀ t, own_K p e below m s₁ 0 #[rv oa, iv xj, lv qa, .second, lv qb, .second, iv xs, iv xt, iv xw, .unset, .unset] [] t → G t := ⟨fun t => Steps p.tables e below (s₁.setTop (entryFrame m #[(.ref oa), (.int xj), (.long qa), (.long qb), (.int xs), (.int xt), (.int xw)] 11)) t, fun _ k => k, fun t k => castTop (ef_4 m oa xj qa qb xs xt xw) k⟩
  have pre1 : ∀ t, own_K p e below m s₁ 3 #[rv oa, iv xj, lv qa, .second, lv qb, .second, iv xs, iv xt, iv xw, .unset, .unset] [(.int xt), (.int xj)] t → G t := by
    intro t k
    refine pre0 t ?_
    show own_K p e below m s₁ 0 #[rv oa, iv xj, lv qa, .second, lv qb, .second, iv xs, iv xt, iv xw, .unset, .unset] [] _
    refine XS.iloadN X0.here hx rfl (hb hby d4_0) rfl ?_
    show own_K p e below m s₁ 1 #[rv oa, iv xj, lv qa, .second, lv qb, .second, iv xs, iv xt, iv xw, .unset, .unset] [(.int xj)] _
    refine XS.iload X0.here hx rfl (hb hby d4_1) rfl ?_
    exact k
  obtain ⟨v8, hv8⟩ : ∃ z : Int64, z = (if xj < xt then (qb + (xj.toInt64)) else (if xj < (xt + xw) then (qa + ((xs + (xj - xt)).toInt64)) else (qb + (xj.toInt64)))) := ⟨_, rfl⟩
  have pre9 : ∀ t, own_K p e below m s₁ 37 #[rv oa, iv xj, lv qa, .second, lv qb, .second, iv xs, iv xt, iv xw, lv v8, .second] [] t → G t := by
    by_cases hc3_2 : xj < xt
    · have pre3 : ∀ t, own_K p e below m s₁ 37 #[rv oa, iv xj, lv qa, .second, lv qb, .second, iv xs, iv xt, iv xw, lv (qb + (xj.toInt64)), .second] [] t → G t := by
        intro t k
        refine pre1 t ?_
        show own_K p e below m s₁ 3 #[rv oa, iv xj, lv qa, .second, lv qb, .second, iv xs, iv xt, iv xw, .unset, .unset] [(.int xt), (.int xj)] _
        refine XS.icmpYes X0.here hx rfl (pc0 := 3) (pc' := 30) rfl (hb hby d4_3) rfl (tlt hc3_2).1 (by decide) (by decide) ?_
        show own_K p e below m s₁ 30 #[rv oa, iv xj, lv qa, .second, lv qb, .second, iv xs, iv xt, iv xw, .unset, .unset] [] _
        refine XS.lload X0.here hx rfl (hb hby d4_30) rfl ?_
        show own_K p e below m s₁ 32 #[rv oa, iv xj, lv qa, .second, lv qb, .second, iv xs, iv xt, iv xw, .unset, .unset] [(.long qb)] _
        refine XS.iloadN X0.here hx rfl (hb hby d4_32) rfl ?_
        show own_K p e below m s₁ 33 #[rv oa, iv xj, lv qa, .second, lv qb, .second, iv xs, iv xt, iv xw, .unset, .unset] [(.int xj), (.long qb)] _
        refine XS.i2l X0.here hx rfl (hb hby d4_33) rfl ?_
        show own_K p e below m s₁ 34 #[rv oa, iv xj, lv qa, .second, lv qb, .second, iv xs, iv xt, iv xw, .unset, .unset] [(.long (xj.toInt64)), (.long qb)] _
        refine XS.ladd X0.here hx rfl (hb hby d4_34) rfl ?_
        show own_K p e below m s₁ 35 #[rv oa, iv xj, lv qa, .second, lv qb, .second, iv xs, iv xt, iv xw, .unset, .unset] [(.long (qb + (xj.toInt64)))] _
        refine XS.lstore X0.here hx rfl (hb hby d4_35) rfl (l' := #[rv oa, iv xj, lv qa, .second, lv qb, .second, iv xs, iv xt, iv xw, lv (qb + (xj.toInt64)), .second]) rfl ?_
        exact k
      have hq := True.intro
      obtain rfl : v8 = (qb + (xj.toInt64)) := by simp only [hv8, if_pos hc3_2]
      exact fun t k => pre3 t k
    · have pre4 : ∀ t, own_K p e below m s₁ 12 #[rv oa, iv xj, lv qa, .second, lv qb, .second, iv xs, iv xt, iv xw, .unset, .unset] [(.int (xt + xw)), (.int xj)] t → G t := by
        intro t k
        refine pre1 t ?_
        show own_K p e below m s₁ 3 #[rv oa, iv xj, lv qa, .second, lv qb, .second, iv xs, iv xt, iv xw, .unset, .unset] [(.int xt), (.int xj)] _
        refine XS.icmpNo X0.here hx rfl (hb hby d4_3) rfl (flt hc3_2).1 ?_
        show own_K p e below m s₁ 6 #[rv oa, iv xj, lv qa, .second, lv qb, .second, iv xs, iv xt, iv xw, .unset, .unset] [] _
        refine XS.iloadN X0.here hx rfl (hb hby d4_6) rfl ?_
        show own_K p e below m s₁ 7 #[rv oa, iv xj, lv qa, .second, lv qb, .second, iv xs, iv xt, iv xw, .unset, .unset] [(.int xj)] _
        refine XS.iload X0.here hx rfl (hb hby d4_7) rfl ?_
        show own_K p e below m s₁ 9 #[rv oa, iv xj, lv qa, .second, lv qb, .second, iv xs, iv xt, iv xw, .unset, .unset] [(.int xt), (.int xj)] _
        refine XS.iload X0.here hx rfl (hb hby d4_9) rfl ?_
        show own_K p e below m s₁ 11 #[rv oa, iv xj, lv qa, .second, lv qb, .second, iv xs, iv xt, iv xw, .unset, .unset] [(.int xw), (.int xt), (.int xj)] _
        refine XS.iadd X0.here hx rfl (hb hby d4_11) rfl ?_
        exact k
      by_cases hc12_5 : xj < (xt + xw)
      · have pre6 : ∀ t, own_K p e below m s₁ 37 #[rv oa, iv xj, lv qa, .second, lv qb, .second, iv xs, iv xt, iv xw, lv (qa + ((xs + (xj - xt)).toInt64)), .second] [] t → G t := by
          intro t k
          refine pre4 t ?_
          show own_K p e below m s₁ 12 #[rv oa, iv xj, lv qa, .second, lv qb, .second, iv xs, iv xt, iv xw, .unset, .unset] [(.int (xt + xw)), (.int xj)] _
          refine XS.icmpNo X0.here hx rfl (hb hby d4_12) rfl (tlt hc12_5).2.1 ?_
          show own_K p e below m s₁ 15 #[rv oa, iv xj, lv qa, .second, lv qb, .second, iv xs, iv xt, iv xw, .unset, .unset] [] _
          refine XS.lloadN X0.here hx rfl (hb hby d4_15) rfl ?_
          show own_K p e below m s₁ 16 #[rv oa, iv xj, lv qa, .second, lv qb, .second, iv xs, iv xt, iv xw, .unset, .unset] [(.long qa)] _
          refine XS.iload X0.here hx rfl (hb hby d4_16) rfl ?_
          show own_K p e below m s₁ 18 #[rv oa, iv xj, lv qa, .second, lv qb, .second, iv xs, iv xt, iv xw, .unset, .unset] [(.int xs), (.long qa)] _
          refine XS.iloadN X0.here hx rfl (hb hby d4_18) rfl ?_
          show own_K p e below m s₁ 19 #[rv oa, iv xj, lv qa, .second, lv qb, .second, iv xs, iv xt, iv xw, .unset, .unset] [(.int xj), (.int xs), (.long qa)] _
          refine XS.iload X0.here hx rfl (hb hby d4_19) rfl ?_
          show own_K p e below m s₁ 21 #[rv oa, iv xj, lv qa, .second, lv qb, .second, iv xs, iv xt, iv xw, .unset, .unset] [(.int xt), (.int xj), (.int xs), (.long qa)] _
          refine XS.isub X0.here hx rfl (hb hby d4_21) rfl ?_
          show own_K p e below m s₁ 22 #[rv oa, iv xj, lv qa, .second, lv qb, .second, iv xs, iv xt, iv xw, .unset, .unset] [(.int (xj - xt)), (.int xs), (.long qa)] _
          refine XS.iadd X0.here hx rfl (hb hby d4_22) rfl ?_
          show own_K p e below m s₁ 23 #[rv oa, iv xj, lv qa, .second, lv qb, .second, iv xs, iv xt, iv xw, .unset, .unset] [(.int (xs + (xj - xt))), (.long qa)] _
          refine XS.i2l X0.here hx rfl (hb hby d4_23) rfl ?_
          show own_K p e below m s₁ 24 #[rv oa, iv xj, lv qa, .second, lv qb, .second, iv xs, iv xt, iv xw, .unset, .unset] [(.long ((xs + (xj - xt)).toInt64)), (.long qa)] _
          refine XS.ladd X0.here hx rfl (hb hby d4_24) rfl ?_
          show own_K p e below m s₁ 25 #[rv oa, iv xj, lv qa, .second, lv qb, .second, iv xs, iv xt, iv xw, .unset, .unset] [(.long (qa + ((xs + (xj - xt)).toInt64)))] _
          refine XS.lstore X0.here hx rfl (hb hby d4_25) rfl (l' := #[rv oa, iv xj, lv qa, .second, lv qb, .second, iv xs, iv xt, iv xw, lv (qa + ((xs + (xj - xt)).toInt64)), .second]) rfl ?_
          show own_K p e below m s₁ 27 #[rv oa, iv xj, lv qa, .second, lv qb, .second, iv xs, iv xt, iv xw, lv (qa + ((xs + (xj - xt)).toInt64)), .second] [] _
          refine XS.goto X0.here hx rfl (pc0 := 27) (pc' := 37) rfl (hb hby d4_27) (by decide) (by decide) ?_
          exact k
        have hq := True.intro
        obtain rfl : v8 = (qa + ((xs + (xj - xt)).toInt64)) := by simp only [hv8, if_neg hc3_2, if_pos hc12_5]
        exact fun t k => pre6 t k
      · have pre7 : ∀ t, own_K p e below m s₁ 37 #[rv oa, iv xj, lv qa, .second, lv qb, .second, iv xs, iv xt, iv xw, lv (qb + (xj.toInt64)), .second] [] t → G t := by
          intro t k
          refine pre4 t ?_
          show own_K p e below m s₁ 12 #[rv oa, iv xj, lv qa, .second, lv qb, .second, iv xs, iv xt, iv xw, .unset, .unset] [(.int (xt + xw)), (.int xj)] _
          refine XS.icmpYes X0.here hx rfl (pc0 := 12) (pc' := 30) rfl (hb hby d4_12) rfl (flt hc12_5).2.1 (by decide) (by decide) ?_
          show own_K p e below m s₁ 30 #[rv oa, iv xj, lv qa, .second, lv qb, .second, iv xs, iv xt, iv xw, .unset, .unset] [] _
          refine XS.lload X0.here hx rfl (hb hby d4_30) rfl ?_
          show own_K p e below m s₁ 32 #[rv oa, iv xj, lv qa, .second, lv qb, .second, iv xs, iv xt, iv xw, .unset, .unset] [(.long qb)] _
          refine XS.iloadN X0.here hx rfl (hb hby d4_32) rfl ?_
          show own_K p e below m s₁ 33 #[rv oa, iv xj, lv qa, .second, lv qb, .second, iv xs, iv xt, iv xw, .unset, .unset] [(.int xj), (.long qb)] _
          refine XS.i2l X0.here hx rfl (hb hby d4_33) rfl ?_
          show own_K p e below m s₁ 34 #[rv oa, iv xj, lv qa, .second, lv qb, .second, iv xs, iv xt, iv xw, .unset, .unset] [(.long (xj.toInt64)), (.long qb)] _
          refine XS.ladd X0.here hx rfl (hb hby d4_34) rfl ?_
          show own_K p e below m s₁ 35 #[rv oa, iv xj, lv qa, .second, lv qb, .second, iv xs, iv xt, iv xw, .unset, .unset] [(.long (qb + (xj.toInt64)))] _
          refine XS.lstore X0.here hx rfl (hb hby d4_35) rfl (l' := #[rv oa, iv xj, lv qa, .second, lv qb, .second, iv xs, iv xt, iv xw, lv (qb + (xj.toInt64)), .second]) rfl ?_
          exact k
        have hq := True.intro
        obtain rfl : v8 = (qb + (xj.toInt64)) := by simp only [hv8, if_neg hc3_2, if_neg hc12_5]
        exact fun t k => pre7 t k
  have pre11 : ∀ t, own_K p e below m s₁ 51 #[rv oa, iv xj, lv qa, .second, lv qb, .second, iv xs, iv xt, iv xw, lv v8, .second] [(.int (1 : Int32))] t → G t := by
    intro t k
    refine pre9 t ?_
    show own_K p e below m s₁ 37 #[rv oa, iv xj, lv qa, .second, lv qb, .second, iv xs, iv xt, iv xw, lv v8, .second] [] _
    refine XS.aloadN X0.here hx rfl (hb hby d4_37) rfl rfl ?_
    show own_K p e below m s₁ 38 #[rv oa, iv xj, lv qa, .second, lv qb, .second, iv xs, iv xt, iv xw, lv v8, .second] [(.ref oa)] _
    refine XS.iloadN X0.here hx rfl (hb hby d4_38) rfl ?_
    show own_K p e below m s₁ 39 #[rv oa, iv xj, lv qa, .second, lv qb, .second, iv xs, iv xt, iv xw, lv v8, .second] [(.int xj), (.ref oa)] _
    refine own_lal X0 hx hZ e0 Va (v := (.long (gg jN))) (own_in8' hj bj) (own_at' hj bj) (g := (mkF m 39 #[rv oa, iv xj, lv qa, .second, lv qb, .second, iv xs, iv xt, iv xw, lv v8, .second] [(.int xj), (.ref oa)])) rfl rfl (hb hby d4_39) _ ?_
    show own_K p e below m s₁ 40 #[rv oa, iv xj, lv qa, .second, lv qb, .second, iv xs, iv xt, iv xw, lv v8, .second] [(.long (gg jN))] _
    refine XS.lload X0.here hx rfl (hb hby d4_40) rfl ?_
    show own_K p e below m s₁ 42 #[rv oa, iv xj, lv qa, .second, lv qb, .second, iv xs, iv xt, iv xw, lv v8, .second] [(.long v8), (.long (gg jN))] _
    refine XS.lcmp X0.here hx rfl (hb hby d4_42) rfl ?_
    show own_K p e below m s₁ 43 #[rv oa, iv xj, lv qa, .second, lv qb, .second, iv xs, iv xt, iv xw, lv v8, .second] [(.int (lcmpW (gg jN) v8))] _
    refine XS.ifNo X0.here hx rfl (hb hby d4_43) rfl ((if0 _ _).trans (teq ((lw_eq _ _).mpr (hE.trans hv8.symm))).2) ?_
    show own_K p e below m s₁ 46 #[rv oa, iv xj, lv qa, .second, lv qb, .second, iv xs, iv xt, iv xw, lv v8, .second] [] _
    refine XS.iconst X0.here hx rfl (hb hby d4_46) ?_
    show own_K p e below m s₁ 47 #[rv oa, iv xj, lv qa, .second, lv qb, .second, iv xs, iv xt, iv xw, lv v8, .second] [(.int (1 : Int32))] _
    refine XS.goto X0.here hx rfl (pc0 := 47) (pc' := 51) rfl (hb hby d4_47) (by decide) (by decide) ?_
    exact k
  obtain ⟨fs, hr, hrun, hended, hW, hsame⟩ := X0.leave (v := some (.int (1 : Int32))) (fun h => by rw [Bd.returns] at h; cases h)
  refine ⟨_, _, hG _ (pre11 _ ?_), hrun, hended, _, _, rfl, ?_, ⟨_, rfl⟩, hW, hsame.mono (by decide) (by decide)⟩
  · show own_K p e below m s₁ 51 #[rv oa, iv xj, lv qa, .second, lv qb, .second, iv xs, iv xt, iv xw, lv v8, .second] [(.int (1 : Int32))] _
    exact retN X0 hx (t := .boolean) Bd.returns (by simp) (hb hby d4_51) hr
  · show Q4 Z oa xj qa qb xs xt xw rk gg jN h0 n0 _ s₁.heap _
    rw [e0]
    exact ⟨rfl, N0, rfl⟩

theorem pd_0 : parseMethodDescriptor "([JJ)V" = some ⟨[(.array .long), .long], none⟩ := by decide +kernel
theorem pd_1 : parseMethodDescriptor "([JI[JII)V" = some ⟨[(.array .long), .int, (.array .long), .int, .int], none⟩ := by decide +kernel
theorem pd_2 : parseMethodDescriptor "([JJ)Z" = some ⟨[(.array .long), .long], some .boolean⟩ := by decide +kernel
theorem pd_3 : parseMethodDescriptor "([JIJJIII)Z" = some ⟨[(.array .long), .int, .long, .long, .int, .int, .int], some .boolean⟩ := by decide +kernel
theorem ef_0 (m : MethodId) (x0 : Int64) (x1 : Int64) (x2 : Int32) (x3 : Int32) (x4 : Int32) : entryFrame m #[(.long x0), (.long x1), (.int x2), (.int x3), (.int x4)] maxLocals = mkF m 0 #[lv x0, .second, lv x1, .second, iv x2, iv x3, iv x4, .unset, .unset, .unset, .unset, .unset, .unset, .unset, .unset] [] := by first | (simp [entryFrame, mkF, argsToLocals, Value.category, maxLocals]; done) | rfl
def Q0 (Z : State) (p1 : Int64) (p2 : Int64) (p3 : Int32) (p4 : Int32) (p5 : Int32) (h0 : Heap) (n0 : Nat) (rv_ : Option Value) (h_ : Heap) (L_ : List Loc) : Prop := rv_ = some (.int (1 : Int32)) ∧ Fr n0 L_ ∧ Keep h0 h_ []
set_option maxRecDepth 65536 in
set_option maxHeartbeats 40000000 in
theorem rm0 (l : Launch) (Z : State) (a0 : Array Value) (hw : ∀ d ∈ tables_1, d.before a0 Z = true) (ws : List Jvm.Cond) (p1 : Int64) (p2 : Int64) (p3 : Int32) (p4 : Int32) (p5 : Int32) (h0 : Heap) (n0 : Nat) (Z0 : n0 ≤ h0.size) :
    MetFree l x (head1 (Jvm.Cond.code x code maxLocals ret :: ws) room_1) (fun a U => a = #[(.long p1), (.long p2), (.int p3), (.int p4), (.int p5)] ∧ Z.Warmed39 U.vm ∧ U.heap = h0) (fun _ _ _ _ _ => True) (fun _ U o U' => ∃ v L, o = .returned v ∧ Q0 Z p1 p2 p3 p4 p5 h0 n0 v U'.heap L ∧ FrameEnd U o U' L 2 16) := by
  refine MetFree.of_bodySF (plainFor_of_name pn_0) hisR ?_
  intro p e s m args below meth c s₁ Bd hml0 hP hK
  obtain ⟨rfl, hZ, hh⟩ := hP
  have hx := Bd.exec
  have hby := Bd.bytes
  have hml : c.maxLocals = 15 := hml0
  have hown : s.vm.findClass "com/example/tiercast/tiercast/protocol/DescriptorsCopyOnePinLaw" = some m.cls := findClass_of_methodNamed Bd.named
  have hnm := (name_of_methodNamed Bd.named Bd.method).1
  have X0 : Stand p l e room_1 s m #[(.long p1), (.long p2), (.int p3), (.int p4), (.int p5)] below meth c s₁ [] 0 0 := Stand.of_body Bd
  have e0 : s₁.heap = h0 := by rw [← hh, Bd.state]; rfl
  have N0 := Fr.nil n0
  obtain ⟨G, hG, pre0⟩ : ∃ G : State → Prop, (∀ t, G t → Steps p.tables e below (s₁.setTop (entryFrame m #[(.long p1), (.long p2), (.int p3), (.int p4), (.int p5)] maxLocals)) t) ∧ ∀ t, own_K p e below m s₁ 0 #[lv p1, .second, lv p2, .second, iv p3, iv p4, iv p5, .unset, .unset, .unset, .unset, .unset, .unset, .unset, .unset] [] t → G t := ⟨fun t => Steps p.tables e below (s₁.setTop (entryFrame m #[(.long p1), (.long p2), (.int p3), (.int p4), (.int p5)] maxLocals)) t, fun _ k => k, fun t k => castTop (ef_0 m p1 p2 p3 p4 p5) k⟩
  have pre1 : ∀ t, own_K p e below m s₁ 7 #[lv p1, .second, lv p2, .second, iv p3, iv p4, iv p5, .unset, .unset, .unset, .unset, .unset, .unset, .unset, .unset] [(.int ((p3 &&& (2147483647 : Int32)) % (5 : Int32)))] t → G t := by
    intro t k
    refine pre0 t ?_
    show own_K p e below m s₁ 0 #[lv p1, .second, lv p2, .second, iv p3, iv p4, iv p5, .unset, .unset, .unset, .unset, .unset, .unset, .unset, .unset] [] _
    refine XS.iload X0.here hx rfl (hb hby at_0) rfl ?_
    show own_K p e below m s₁ 2 #[lv p1, .second, lv p2, .second, iv p3, iv p4, iv p5, .unset, .unset, .unset, .unset, .unset, .unset, .unset, .unset] [(.int p3)] _
    refine X0.ldcInt hx hown (mvT hZ (hw _ (List.mem_of_getElem? (i := 0) rfl))) (g := (mkF m 2 #[lv p1, .second, lv p2, .second, iv p3, iv p4, iv p5, .unset, .unset, .unset, .unset, .unset, .unset, .unset, .unset] [(.int p3)])) rfl (hb hby at_2) _ ?_
    show own_K p e below m s₁ 4 #[lv p1, .second, lv p2, .second, iv p3, iv p4, iv p5, .unset, .unset, .unset, .unset, .unset, .unset, .unset, .unset] [(.int (2147483647 : Int32)), (.int p3)] _
    refine XS.iand X0.here hx rfl (hb hby at_4) rfl ?_
    show own_K p e below m s₁ 5 #[lv p1, .second, lv p2, .second, iv p3, iv p4, iv p5, .unset, .unset, .unset, .unset, .unset, .unset, .unset, .unset] [(.int (p3 &&& (2147483647 : Int32)))] _
    refine XS.iconst X0.here hx rfl (hb hby at_5) ?_
    show own_K p e below m s₁ 6 #[lv p1, .second, lv p2, .second, iv p3, iv p4, iv p5, .unset, .unset, .unset, .unset, .unset, .unset, .unset, .unset] [(.int (5 : Int32)), (.int (p3 &&& (2147483647 : Int32)))] _
    refine iremM X0 hx rfl (hb hby at_6) rfl (by decide) ?_
    exact k
  obtain ⟨xw, hxw⟩ : ∃ z : Int32, z = ((p3 &&& (2147483647 : Int32)) % (5 : Int32)) := ⟨_, rfl⟩
  have pre2 : ∀ t, own_K p e below m s₁ 7 #[lv p1, .second, lv p2, .second, iv p3, iv p4, iv p5, .unset, .unset, .unset, .unset, .unset, .unset, .unset, .unset] [(.int xw)] t → G t := fun t k => pre1 t (by rw [hxw] at k; exact k)
  obtain ⟨wN, hwb, hwN⟩ := own_w5 _ xw hxw
  have pre3 : ∀ t, own_K p e below m s₁ 11 #[lv p1, .second, lv p2, .second, iv p3, iv p4, iv p5, iv xw, .unset, .unset, .unset, .unset, .unset, .unset, .unset] [(.int xw)] t → G t := by
    intro t k
    refine pre2 t ?_
    show own_K p e below m s₁ 7 #[lv p1, .second, lv p2, .second, iv p3, iv p4, iv p5, .unset, .unset, .unset, .unset, .unset, .unset, .unset, .unset] [(.int xw)] _
    refine XS.istore X0.here hx rfl (hb hby at_7) rfl (l' := #[lv p1, .second, lv p2, .second, iv p3, iv p4, iv p5, iv xw, .unset, .unset, .unset, .unset, .unset, .unset, .unset]) rfl ?_
    show own_K p e below m s₁ 9 #[lv p1, .second, lv p2, .second, iv p3, iv p4, iv p5, iv xw, .unset, .unset, .unset, .unset, .unset, .unset, .unset] [] _
    refine XS.iload X0.here hx rfl (hb hby at_9) rfl ?_
    exact k
  obtain ⟨v7, hv7⟩ : ∃ z : Int32, z = (if xw = (0 : Int32) then (3 : Int32) else ((8 : Int32) / xw)) := ⟨_, rfl⟩
  have pre8 : ∀ t, own_K p e below m s₁ 23 #[lv p1, .second, lv p2, .second, iv p3, iv p4, iv p5, iv xw, .unset, .unset, .unset, .unset, .unset, .unset, .unset] [(.int v7)] t → G t := by
    by_cases hc11_4 : xw = (0 : Int32)
    · have pre5 : ∀ t, own_K p e below m s₁ 23 #[lv p1, .second, lv p2, .second, iv p3, iv p4, iv p5, iv xw, .unset, .unset, .unset, .unset, .unset, .unset, .unset] [(.int (3 : Int32))] t → G t := by
        intro t k
        refine pre3 t ?_
        show own_K p e below m s₁ 11 #[lv p1, .second, lv p2, .second, iv p3, iv p4, iv p5, iv xw, .unset, .unset, .unset, .unset, .unset, .unset, .unset] [(.int xw)] _
        refine XS.ifNo X0.here hx rfl (hb hby at_11) rfl ((if0 _ _).trans (teq hc11_4).2) ?_
        show own_K p e below m s₁ 14 #[lv p1, .second, lv p2, .second, iv p3, iv p4, iv p5, iv xw, .unset, .unset, .unset, .unset, .unset, .unset, .unset] [] _
        refine XS.iconst X0.here hx rfl (hb hby at_14) ?_
        show own_K p e below m s₁ 15 #[lv p1, .second, lv p2, .second, iv p3, iv p4, iv p5, iv xw, .unset, .unset, .unset, .unset, .unset, .unset, .unset] [(.int (3 : Int32))] _
        refine XS.goto X0.here hx rfl (pc0 := 15) (pc' := 23) rfl (hb hby at_15) (by decide) (by decide) ?_
        exact k
      have hq := True.intro
      obtain rfl : v7 = (3 : Int32) := by simp only [hv7, if_pos hc11_4]
      exact fun t k => pre5 t k
    · have pre6 : ∀ t, own_K p e below m s₁ 23 #[lv p1, .second, lv p2, .second, iv p3, iv p4, iv p5, iv xw, .unset, .unset, .unset, .unset, .unset, .unset, .unset] [(.int ((8 : Int32) / xw))] t → G t := by
        intro t k
        refine pre3 t ?_
        show own_K p e below m s₁ 11 #[lv p1, .second, lv p2, .second, iv p3, iv p4, iv p5, iv xw, .unset, .unset, .unset, .unset, .unset, .unset, .unset] [(.int xw)] _
        refine XS.ifYes X0.here hx rfl (pc0 := 11) (pc' := 18) rfl (hb hby at_11) rfl ((if0 _ _).trans (feq hc11_4).2) (by decide) (by decide) ?_
        show own_K p e below m s₁ 18 #[lv p1, .second, lv p2, .second, iv p3, iv p4, iv p5, iv xw, .unset, .unset, .unset, .unset, .unset, .unset, .unset] [] _
        refine XS.bipush X0.here hx rfl (hb hby at_18) ?_
        show own_K p e below m s₁ 20 #[lv p1, .second, lv p2, .second, iv p3, iv p4, iv p5, iv xw, .unset, .unset, .unset, .unset, .unset, .unset, .unset] [(.int (8 : Int32))] _
        refine XS.iload X0.here hx rfl (hb hby at_20) rfl ?_
        show own_K p e below m s₁ 22 #[lv p1, .second, lv p2, .second, iv p3, iv p4, iv p5, iv xw, .unset, .unset, .unset, .unset, .unset, .unset, .unset] [(.int xw), (.int (8 : Int32))] _
        refine XS.idiv X0.here hx rfl (hb hby at_22) rfl hc11_4 ?_
        exact k
      have hq := True.intro
      obtain rfl : v7 = ((8 : Int32) / xw) := by simp only [hv7, if_neg hc11_4]
      exact fun t k => pre6 t k
  have pre9 : ∀ t, own_K p e below m s₁ 25 #[lv p1, .second, lv p2, .second, iv p3, iv p4, iv p5, iv xw, iv v7, .unset, .unset, .unset, .unset, .unset, .unset] [] t → G t := by
    intro t k
    refine pre8 t ?_
    show own_K p e below m s₁ 23 #[lv p1, .second, lv p2, .second, iv p3, iv p4, iv p5, iv xw, .unset, .unset, .unset, .unset, .unset, .unset, .unset] [(.int v7)] _
    refine XS.istore X0.here hx rfl (hb hby at_23) rfl (l' := #[lv p1, .second, lv p2, .second, iv p3, iv p4, iv p5, iv xw, iv v7, .unset, .unset, .unset, .unset, .unset, .unset]) rfl ?_
    exact k
  obtain ⟨hfz, hfit⟩ := own_fit wN hwb v7 (by rw [hv7, hwN])
  have pre10 : ∀ t, own_K p e below m s₁ 33 #[lv p1, .second, lv p2, .second, iv p3, iv p4, iv p5, iv xw, iv v7, .unset, .unset, .unset, .unset, .unset, .unset] [(.int ((p4 &&& (2147483647 : Int32)) % v7))] t → G t := by
    intro t k
    refine pre9 t ?_
    show own_K p e below m s₁ 25 #[lv p1, .second, lv p2, .second, iv p3, iv p4, iv p5, iv xw, iv v7, .unset, .unset, .unset, .unset, .unset, .unset] [] _
    refine XS.iload X0.here hx rfl (hb hby at_25) rfl ?_
    show own_K p e below m s₁ 27 #[lv p1, .second, lv p2, .second, iv p3, iv p4, iv p5, iv xw, iv v7, .unset, .unset, .unset, .unset, .unset, .unset] [(.int p4)] _
    refine X0.ldcInt hx hown (mvT hZ (hw _ (List.mem_of_getElem? (i := 0) rfl))) (g := (mkF m 27 #[lv p1, .second, lv p2, .second, iv p3, iv p4, iv p5, iv xw, iv v7, .unset, .unset, .unset, .unset, .unset, .unset] [(.int p4)])) rfl (hb hby at_27) _ ?_
    show own_K p e below m s₁ 29 #[lv p1, .second, lv p2, .second, iv p3, iv p4, iv p5, iv xw, iv v7, .unset, .unset, .unset, .unset, .unset, .unset] [(.int (2147483647 : Int32)), (.int p4)] _
    refine XS.iand X0.here hx rfl (hb hby at_29) rfl ?_
    show own_K p e below m s₁ 30 #[lv p1, .second, lv p2, .second, iv p3, iv p4, iv p5, iv xw, iv v7, .unset, .unset, .unset, .unset, .unset, .unset] [(.int (p4 &&& (2147483647 : Int32)))] _
    refine XS.iload X0.here hx rfl (hb hby at_30) rfl ?_
    show own_K p e below m s₁ 32 #[lv p1, .second, lv p2, .second, iv p3, iv p4, iv p5, iv xw, iv v7, .unset, .unset, .unset, .unset, .unset, .unset] [(.int v7), (.int (p4 &&& (2147483647 : Int32)))] _
    refine iremM X0 hx rfl (hb hby at_32) rfl hfz ?_
    exact k
  obtain ⟨xst, hxst⟩ : ∃ z : Int32, z = ((p4 &&& (2147483647 : Int32)) % v7) := ⟨_, rfl⟩
  have pre11 : ∀ t, own_K p e below m s₁ 33 #[lv p1, .second, lv p2, .second, iv p3, iv p4, iv p5, iv xw, iv v7, .unset, .unset, .unset, .unset, .unset, .unset] [(.int xst)] t → G t := fun t k => pre10 t (by rw [hxst] at k; exact k)
  obtain ⟨aN, haN, hab⟩ := own_fit' hfit hxst
  have pre12 : ∀ t, own_K p e below m s₁ 43 #[lv p1, .second, lv p2, .second, iv p3, iv p4, iv p5, iv xw, iv v7, iv xst, .unset, .unset, .unset, .unset, .unset] [(.int ((p5 &&& (2147483647 : Int32)) % v7))] t → G t := by
    intro t k
    refine pre11 t ?_
    show own_K p e below m s₁ 33 #[lv p1, .second, lv p2, .second, iv p3, iv p4, iv p5, iv xw, iv v7, .unset, .unset, .unset, .unset, .unset, .unset] [(.int xst)] _
    refine XS.istore X0.here hx rfl (hb hby at_33) rfl (l' := #[lv p1, .second, lv p2, .second, iv p3, iv p4, iv p5, iv xw, iv v7, iv xst, .unset, .unset, .unset, .unset, .unset]) rfl ?_
    show own_K p e below m s₁ 35 #[lv p1, .second, lv p2, .second, iv p3, iv p4, iv p5, iv xw, iv v7, iv xst, .unset, .unset, .unset, .unset, .unset] [] _
    refine XS.iload X0.here hx rfl (hb hby at_35) rfl ?_
    show own_K p e below m s₁ 37 #[lv p1, .second, lv p2, .second, iv p3, iv p4, iv p5, iv xw, iv v7, iv xst, .unset, .unset, .unset, .unset, .unset] [(.int p5)] _
    refine X0.ldcInt hx hown (mvT hZ (hw _ (List.mem_of_getElem? (i := 0) rfl))) (g := (mkF m 37 #[lv p1, .second, lv p2, .second, iv p3, iv p4, iv p5, iv xw, iv v7, iv xst, .unset, .unset, .unset, .unset, .unset] [(.int p5)])) rfl (hb hby at_37) _ ?_
    show own_K p e below m s₁ 39 #[lv p1, .second, lv p2, .second, iv p3, iv p4, iv p5, iv xw, iv v7, iv xst, .unset, .unset, .unset, .unset, .unset] [(.int (2147483647 : Int32)), (.int p5)] _
    refine XS.iand X0.here hx rfl (hb hby at_39) rfl ?_
    show own_K p e below m s₁ 40 #[lv p1, .second, lv p2, .second, iv p3, iv p4, iv p5, iv xw, iv v7, iv xst, .unset, .unset, .unset, .unset, .unset] [(.int (p5 &&& (2147483647 : Int32)))] _
    refine XS.iload X0.here hx rfl (hb hby at_40) rfl ?_
    show own_K p e below m s₁ 42 #[lv p1, .second, lv p2, .second, iv p3, iv p4, iv p5, iv xw, iv v7, iv xst, .unset, .unset, .unset, .unset, .unset] [(.int v7), (.int (p5 &&& (2147483647 : Int32)))] _
    refine iremM X0 hx rfl (hb hby at_42) rfl hfz ?_
    exact k
  obtain ⟨xat, hxat⟩ : ∃ z : Int32, z = ((p5 &&& (2147483647 : Int32)) % v7) := ⟨_, rfl⟩
  have pre13 : ∀ t, own_K p e below m s₁ 43 #[lv p1, .second, lv p2, .second, iv p3, iv p4, iv p5, iv xw, iv v7, iv xst, .unset, .unset, .unset, .unset, .unset] [(.int xat)] t → G t := fun t k => pre12 t (by rw [hxat] at k; exact k)
  obtain ⟨bN, hbN, hbb⟩ := own_fit' hfit hxat
  obtain ⟨T14, h14, k14, X14, e14, E14, A14, st14⟩ := newP X0 hx hZ (hw _ (List.mem_of_getElem? (i := 1) rfl)) e0 (g := (mkF m 47 #[lv p1, .second, lv p2, .second, iv p3, iv p4, iv p5, iv xw, iv v7, iv xst, iv xat, .unset, .unset, .unset, .unset] [(.int (8 : Int32))])) rfl (hb hby at_47) rfl (by decide) (cap := 8) (by decide) (by decide) (by decide) (by decide)
  obtain ⟨b14, g14⟩ : ∃ z, z = h0.size := ⟨_, rfl⟩
  rw [← g14] at A14 st14
  have ge_b14 : n0 ≤ b14 := Nat.le_trans Z0 (Nat.le_of_eq g14.symm)
  have sz_b14 : h0.size ≤ b14 := Nat.le_trans (Keep.refl h0 []).1 (Nat.le_of_eq g14.symm)
  have K14 : Keep h0 h14 [] := (Keep.refl h0 []).ext E14
  have sz14 : n0 ≤ h14.size := Nat.le_trans Z0 E14.1
  have V14 : Arv Z h14 b14 k14 .long (8 : Int32) [(.long (0 : Int64)), (.long (0 : Int64)), (.long (0 : Int64)), (.long (0 : Int64)), (.long (0 : Int64)), (.long (0 : Int64)), (.long (0 : Int64)), (.long (0 : Int64))] (.long (0 : Int64)) := (Arv.new A14 (by decide)).pad (pad_rep [] (.long (0 : Int64)) 8)
  obtain ⟨T15, h15, k15, X15, e15, E15, A15, st15⟩ := newP X14 hx hZ (hw _ (List.mem_of_getElem? (i := 1) rfl)) e14 (g := (mkF m 53 #[lv p1, .second, lv p2, .second, iv p3, iv p4, iv p5, iv xw, iv v7, iv xst, iv xat, rv b14, .unset, .unset, .unset] [(.int (8 : Int32))])) rfl (hb hby at_53) rfl (by decide) (cap := 8) (by decide) (by decide) (by decide) (by decide)
  obtain ⟨b15, g15⟩ : ∃ z, z = h14.size := ⟨_, rfl⟩
  rw [← g15] at A15 st15
  have ne15_b14 : b14 ≠ b15 := Nat.ne_of_lt (Nat.lt_of_lt_of_le V14.lt (Nat.le_of_eq g15.symm))
  have ge_b15 : n0 ≤ b15 := Nat.le_trans sz14 (Nat.le_of_eq g15.symm)
  have sz_b15 : h0.size ≤ b15 := Nat.le_trans K14.1 (Nat.le_of_eq g15.symm)
  have K15 : Keep h0 h15 [] := K14.ext E15
  have sz15 : n0 ≤ h15.size := Nat.le_trans sz14 E15.1
  have V15 : Arv Z h15 b15 k15 .long (8 : Int32) [(.long (0 : Int64)), (.long (0 : Int64)), (.long (0 : Int64)), (.long (0 : Int64)), (.long (0 : Int64)), (.long (0 : Int64)), (.long (0 : Int64)), (.long (0 : Int64))] (.long (0 : Int64)) := (Arv.new A15 (by decide)).pad (pad_rep [] (.long (0 : Int64)) 8)
  have f17 : Arv Z h15 b14 k14 .long (8 : Int32) [(.long (0 : Int64)), (.long (0 : Int64)), (.long (0 : Int64)), (.long (0 : Int64)), (.long (0 : Int64)), (.long (0 : Int64)), (.long (0 : Int64)), (.long (0 : Int64))] (.long (0 : Int64)) := (V14.ext E15)
  obtain ⟨_, _, ⟨T16, L16, k16, n16⟩, -, X16, ⟨Lc16, hQ16, l16, y16, z16⟩, st16⟩ := Jvm.LawKit.callS X15 hx (y := (⟨"com/example/tiercast/tiercast/protocol/DescriptorsCopyOnePinLaw", "fill", "([JJ)V"⟩ : MethodName)) hown (mvT hZ (hw _ (List.mem_of_getElem? (i := 2) rfl))) (mvT hZ (hw _ (List.mem_of_getElem? (i := 3) rfl))) (mvT hZ (hw _ (List.mem_of_getElem? (i := 4) rfl))) (mvT hZ (hw _ (List.mem_of_getElem? (i := 5) rfl))) (by decide) (backOf (W := 0) (rm1 l Z a0 hw [] b14 p1 k14 h15 n0 sz15 f17 ge_b14) hZ (hw _ (List.mem_of_getElem? (i := 5) rfl)) (hw _ (List.mem_of_getElem? (i := 4) rfl)) (by decide) (by decide)) (g := (mkF m 60 #[lv p1, .second, lv p2, .second, iv p3, iv p4, iv p5, iv xw, iv v7, iv xst, iv xat, rv b14, rv b15, .unset, .unset] [(.long p1), (.ref b14)])) rfl (by rw [hml]; rfl) (argsL := [(.ref b14), (.long p1)]) (rest := []) (lenOf pd_0 rfl) rfl (by show 2 * 0 + _ ≤ _; exact Nat.le_of_eq rfl) (hb hby at_60) (fun _ _ => ⟨rfl, e15, (by decide : 2 + 0 ≤ _), (by decide : 16 + 0 ≤ _)⟩)
  dsimp only [Pt.U, Pt.locs, Pt.cells, Pt.slots] at X16 l16 y16 z16 st16 hQ16
  subst l16 y16 z16
  obtain ⟨rfl, Nq16, Kc16, Vf_16⟩ := hQ16
  have N16 := Fr.app N0 Nq16
  have K16 : Keep h0 T16.heap [] := K15.trans Kc16 (allS (Or.inr sz_b14) all0)
  have sz16 : n0 ≤ T16.heap.size := Nat.le_trans sz15 Kc16.1
  have f19 : Arv Z T16.heap b15 k15 .long (8 : Int32) [(.long (0 : Int64)), (.long (0 : Int64)), (.long (0 : Int64)), (.long (0 : Int64)), (.long (0 : Int64)), (.long (0 : Int64)), (.long (0 : Int64)), (.long (0 : Int64))] (.long (0 : Int64)) := (V15.keep Kc16 (ninS (Ne.symm ne15_b14) nin0))
  obtain ⟨_, _, ⟨T18, L18, k18, n18⟩, -, X18, ⟨Lc18, hQ18, l18, y18, z18⟩, st18⟩ := Jvm.LawKit.callS X16 hx (y := (⟨"com/example/tiercast/tiercast/protocol/DescriptorsCopyOnePinLaw", "fill", "([JJ)V"⟩ : MethodName)) hown (mvT hZ (hw _ (List.mem_of_getElem? (i := 2) rfl))) (mvT hZ (hw _ (List.mem_of_getElem? (i := 3) rfl))) (mvT hZ (hw _ (List.mem_of_getElem? (i := 4) rfl))) (mvT hZ (hw _ (List.mem_of_getElem? (i := 5) rfl))) (by decide) (backOf (W := 0) (rm1 l Z a0 hw [] b15 p2 k15 T16.heap n0 sz16 f19 ge_b15) hZ (hw _ (List.mem_of_getElem? (i := 5) rfl)) (hw _ (List.mem_of_getElem? (i := 4) rfl)) (by decide) (by decide)) (g := (mkF m 66 #[lv p1, .second, lv p2, .second, iv p3, iv p4, iv p5, iv xw, iv v7, iv xst, iv xat, rv b14, rv b15, .unset, .unset] [(.long p2), (.ref b15)])) rfl (by rw [hml]; rfl) (argsL := [(.ref b15), (.long p2)]) (rest := []) (lenOf pd_0 rfl) rfl (by show 2 * 0 + _ ≤ _; exact Nat.le_of_eq rfl) (hb hby at_66) (fun _ _ => ⟨rfl, rfl, (by decide : 2 + 0 ≤ _), (by decide : 16 + 0 ≤ _)⟩)
  dsimp only [Pt.U, Pt.locs, Pt.cells, Pt.slots] at X18 l18 y18 z18 st18 hQ18
  subst l18 y18 z18
  obtain ⟨rfl, Nq18, Kc18, Vf_18⟩ := hQ18
  have N18 := Fr.app N16 Nq18
  have K18 : Keep h0 T18.heap [] := K16.trans Kc18 (allS (Or.inr sz_b15) all0)
  have sz18 : n0 ≤ T18.heap.size := Nat.le_trans sz16 Kc18.1
  have f21 : Arv Z T18.heap b14 k14 .long (8 : Int32) (own_vals (own_f p1)) (.long (0 : Int64)) := (Vf_16.keep Kc18 (ninS ne15_b14 nin0))
  obtain ⟨_, _, ⟨T20, L20, k20, n20⟩, -, X20, ⟨Lc20, hQ20, l20, y20, z20⟩, st20⟩ := Jvm.LawKit.callS X18 hx (y := (⟨"com/example/tiercast/tiercast/protocol/Descriptors", "copyOne", "([JI[JII)V"⟩ : MethodName)) hown (mvT hZ (hw _ (List.mem_of_getElem? (i := 12) rfl))) (mvT hZ (hw _ (List.mem_of_getElem? (i := 13) rfl))) (mvT hZ (hw _ (List.mem_of_getElem? (i := 14) rfl))) (mvT hZ (hw _ (List.mem_of_getElem? (i := 15) rfl))) (by decide) (backOf (W := 0) (rm2 l Z a0 hw [] b14 xst b15 xat xw k14 k15 (own_f p1) (own_f p2) (wN * aN) (wN * bN) wN T18.heap n0 sz18 f21 Vf_18 ne15_b14 ge_b15 (own_mul hwN haN) (own_mul hwN hbN) hwN hab hbb) hZ (hw _ (List.mem_of_getElem? (i := 15) rfl)) (hw _ (List.mem_of_getElem? (i := 14) rfl)) (by decide) (by decide)) (g := (mkF m 79 #[lv p1, .second, lv p2, .second, iv p3, iv p4, iv p5, iv xw, iv v7, iv xst, iv xat, rv b14, rv b15, .unset, .unset] [(.int xw), (.int xat), (.ref b15), (.int xst), (.ref b14)])) rfl (by rw [hml]; rfl) (argsL := [(.ref b14), (.int xst), (.ref b15), (.int xat), (.int xw)]) (rest := []) (lenOf pd_1 rfl) rfl (by show 2 * 0 + _ ≤ _; exact Nat.le_of_eq rfl) (hb hby at_79) (fun _ _ => ⟨rfl, rfl, (by decide : 2 + 0 ≤ _), (by decide : 16 + 0 ≤ _)⟩)
  dsimp only [Pt.U, Pt.locs, Pt.cells, Pt.slots] at X20 l20 y20 z20 st20 hQ20
  subst l20 y20 z20
  obtain ⟨rfl, Nq20, Kc20, Vc_20⟩ := hQ20
  have N20 := Fr.app N18 Nq20
  have K20 : Keep h0 T20.heap [] := K18.trans Kc20 (allS (Or.inr sz_b15) all0)
  have sz20 : n0 ≤ T20.heap.size := Nat.le_trans sz18 Kc20.1
  have pre22 : ∀ t, own_K p e below m T20 87 #[lv p1, .second, lv p2, .second, iv p3, iv p4, iv p5, iv xw, iv v7, iv xst, iv xat, rv b14, rv b15, .unset, .unset] [(.int (xw * xst))] t → G t := by
    intro t k
    refine pre13 t ?_
    show own_K p e below m s₁ 43 #[lv p1, .second, lv p2, .second, iv p3, iv p4, iv p5, iv xw, iv v7, iv xst, .unset, .unset, .unset, .unset, .unset] [(.int xat)] _
    refine XS.istore X0.here hx rfl (hb hby at_43) rfl (l' := #[lv p1, .second, lv p2, .second, iv p3, iv p4, iv p5, iv xw, iv v7, iv xst, iv xat, .unset, .unset, .unset, .unset]) rfl ?_
    show own_K p e below m s₁ 45 #[lv p1, .second, lv p2, .second, iv p3, iv p4, iv p5, iv xw, iv v7, iv xst, iv xat, .unset, .unset, .unset, .unset] [] _
    refine XS.bipush X0.here hx rfl (hb hby at_45) ?_
    show own_K p e below m s₁ 47 #[lv p1, .second, lv p2, .second, iv p3, iv p4, iv p5, iv xw, iv v7, iv xst, iv xat, .unset, .unset, .unset, .unset] [(.int (8 : Int32))] _
    refine st14 _ ?_
    show own_K p e below m T14 49 #[lv p1, .second, lv p2, .second, iv p3, iv p4, iv p5, iv xw, iv v7, iv xst, iv xat, .unset, .unset, .unset, .unset] [(.ref b14)] _
    refine XS.astore X14.here hx rfl (hb hby at_49) rfl rfl (l' := #[lv p1, .second, lv p2, .second, iv p3, iv p4, iv p5, iv xw, iv v7, iv xst, iv xat, rv b14, .unset, .unset, .unset]) rfl ?_
    show own_K p e below m T14 51 #[lv p1, .second, lv p2, .second, iv p3, iv p4, iv p5, iv xw, iv v7, iv xst, iv xat, rv b14, .unset, .unset, .unset] [] _
    refine XS.bipush X14.here hx rfl (hb hby at_51) ?_
    show own_K p e below m T14 53 #[lv p1, .second, lv p2, .second, iv p3, iv p4, iv p5, iv xw, iv v7, iv xst, iv xat, rv b14, .unset, .unset, .unset] [(.int (8 : Int32))] _
    refine st15 _ ?_
    show own_K p e below m T15 55 #[lv p1, .second, lv p2, .second, iv p3, iv p4, iv p5, iv xw, iv v7, iv xst, iv xat, rv b14, .unset, .unset, .unset] [(.ref b15)] _
    refine XS.astore X15.here hx rfl (hb hby at_55) rfl rfl (l' := #[lv p1, .second, lv p2, .second, iv p3, iv p4, iv p5, iv xw, iv v7, iv xst, iv xat, rv b14, rv b15, .unset, .unset]) rfl ?_
    show own_K p e below m T15 57 #[lv p1, .second, lv p2, .second, iv p3, iv p4, iv p5, iv xw, iv v7, iv xst, iv xat, rv b14, rv b15, .unset, .unset] [] _
    refine XS.aload X15.here hx rfl (hb hby at_57) rfl rfl ?_
    show own_K p e below m T15 59 #[lv p1, .second, lv p2, .second, iv p3, iv p4, iv p5, iv xw, iv v7, iv xst, iv xat, rv b14, rv b15, .unset, .unset] [(.ref b14)] _
    refine XS.lloadN X15.here hx rfl (hb hby at_59) rfl ?_
    show own_K p e below m T15 60 #[lv p1, .second, lv p2, .second, iv p3, iv p4, iv p5, iv xw, iv v7, iv xst, iv xat, rv b14, rv b15, .unset, .unset] [(.long p1), (.ref b14)] _
    refine st16 _ ?_
    show own_K p e below m T16 63 #[lv p1, .second, lv p2, .second, iv p3, iv p4, iv p5, iv xw, iv v7, iv xst, iv xat, rv b14, rv b15, .unset, .unset] [] _
    refine XS.aload X16.here hx rfl (hb hby at_63) rfl rfl ?_
    show own_K p e below m T16 65 #[lv p1, .second, lv p2, .second, iv p3, iv p4, iv p5, iv xw, iv v7, iv xst, iv xat, rv b14, rv b15, .unset, .unset] [(.ref b15)] _
    refine XS.lloadN X16.here hx rfl (hb hby at_65) rfl ?_
    show own_K p e below m T16 66 #[lv p1, .second, lv p2, .second, iv p3, iv p4, iv p5, iv xw, iv v7, iv xst, iv xat, rv b14, rv b15, .unset, .unset] [(.long p2), (.ref b15)] _
    refine st18 _ ?_
    show own_K p e below m T18 69 #[lv p1, .second, lv p2, .second, iv p3, iv p4, iv p5, iv xw, iv v7, iv xst, iv xat, rv b14, rv b15, .unset, .unset] [] _
    refine XS.aload X18.here hx rfl (hb hby at_69) rfl rfl ?_
    show own_K p e below m T18 71 #[lv p1, .second, lv p2, .second, iv p3, iv p4, iv p5, iv xw, iv v7, iv xst, iv xat, rv b14, rv b15, .unset, .unset] [(.ref b14)] _
    refine XS.iload X18.here hx rfl (hb hby at_71) rfl ?_
    show own_K p e below m T18 73 #[lv p1, .second, lv p2, .second, iv p3, iv p4, iv p5, iv xw, iv v7, iv xst, iv xat, rv b14, rv b15, .unset, .unset] [(.int xst), (.ref b14)] _
    refine XS.aload X18.here hx rfl (hb hby at_73) rfl rfl ?_
    show own_K p e below m T18 75 #[lv p1, .second, lv p2, .second, iv p3, iv p4, iv p5, iv xw, iv v7, iv xst, iv xat, rv b14, rv b15, .unset, .unset] [(.ref b15), (.int xst), (.ref b14)] _
    refine XS.iload X18.here hx rfl (hb hby at_75) rfl ?_
    show own_K p e below m T18 77 #[lv p1, .second, lv p2, .second, iv p3, iv p4, iv p5, iv xw, iv v7, iv xst, iv xat, rv b14, rv b15, .unset, .unset] [(.int xat), (.ref b15), (.int xst), (.ref b14)] _
    refine XS.iload X18.here hx rfl (hb hby at_77) rfl ?_
    show own_K p e below m T18 79 #[lv p1, .second, lv p2, .second, iv p3, iv p4, iv p5, iv xw, iv v7, iv xst, iv xat, rv b14, rv b15, .unset, .unset] [(.int xw), (.int xat), (.ref b15), (.int xst), (.ref b14)] _
    refine st20 _ ?_
    show own_K p e below m T20 82 #[lv p1, .second, lv p2, .second, iv p3, iv p4, iv p5, iv xw, iv v7, iv xst, iv xat, rv b14, rv b15, .unset, .unset] [] _
    refine XS.iload X20.here hx rfl (hb hby at_82) rfl ?_
    show own_K p e below m T20 84 #[lv p1, .second, lv p2, .second, iv p3, iv p4, iv p5, iv xw, iv v7, iv xst, iv xat, rv b14, rv b15, .unset, .unset] [(.int xw)] _
    refine XS.iload X20.here hx rfl (hb hby at_84) rfl ?_
    show own_K p e below m T20 86 #[lv p1, .second, lv p2, .second, iv p3, iv p4, iv p5, iv xw, iv v7, iv xst, iv xat, rv b14, rv b15, .unset, .unset] [(.int xst), (.int xw)] _
    refine XS.imul X20.here hx rfl (hb hby at_86) rfl ?_
    exact k
  obtain ⟨xs, hxs⟩ : ∃ z : Int32, z = (xw * xst) := ⟨_, rfl⟩
  have pre23 : ∀ t, own_K p e below m T20 87 #[lv p1, .second, lv p2, .second, iv p3, iv p4, iv p5, iv xw, iv v7, iv xst, iv xat, rv b14, rv b15, .unset, .unset] [(.int xs)] t → G t := fun t k => pre22 t (by rw [hxs] at k; exact k)
  have pre24 : ∀ t, own_K p e below m T20 94 #[lv p1, .second, lv p2, .second, iv p3, iv p4, iv p5, iv xw, iv v7, iv xst, iv xat, rv b14, rv b15, iv xs, .unset] [(.int (xw * xat))] t → G t := by
    intro t k
    refine pre23 t ?_
    show own_K p e below m T20 87 #[lv p1, .second, lv p2, .second, iv p3, iv p4, iv p5, iv xw, iv v7, iv xst, iv xat, rv b14, rv b15, .unset, .unset] [(.int xs)] _
    refine XS.istore X20.here hx rfl (hb hby at_87) rfl (l' := #[lv p1, .second, lv p2, .second, iv p3, iv p4, iv p5, iv xw, iv v7, iv xst, iv xat, rv b14, rv b15, iv xs, .unset]) rfl ?_
    show own_K p e below m T20 89 #[lv p1, .second, lv p2, .second, iv p3, iv p4, iv p5, iv xw, iv v7, iv xst, iv xat, rv b14, rv b15, iv xs, .unset] [] _
    refine XS.iload X20.here hx rfl (hb hby at_89) rfl ?_
    show own_K p e below m T20 91 #[lv p1, .second, lv p2, .second, iv p3, iv p4, iv p5, iv xw, iv v7, iv xst, iv xat, rv b14, rv b15, iv xs, .unset] [(.int xw)] _
    refine XS.iload X20.here hx rfl (hb hby at_91) rfl ?_
    show own_K p e below m T20 93 #[lv p1, .second, lv p2, .second, iv p3, iv p4, iv p5, iv xw, iv v7, iv xst, iv xat, rv b14, rv b15, iv xs, .unset] [(.int xat), (.int xw)] _
    refine XS.imul X20.here hx rfl (hb hby at_93) rfl ?_
    exact k
  obtain ⟨xt, hxt⟩ : ∃ z : Int32, z = (xw * xat) := ⟨_, rfl⟩
  have pre25 : ∀ t, own_K p e below m T20 94 #[lv p1, .second, lv p2, .second, iv p3, iv p4, iv p5, iv xw, iv v7, iv xst, iv xat, rv b14, rv b15, iv xs, .unset] [(.int xt)] t → G t := fun t k => pre24 t (by rw [hxt] at k; exact k)
  have f27 : Arv Z T20.heap b14 k14 .long (8 : Int32) (own_vals (own_f p1)) (.long (0 : Int64)) := (f21.keep Kc20 (ninS ne15_b14 nin0))
  obtain ⟨_, _, ⟨T26, L26, k26, n26⟩, -, X26, ⟨Lc26, hQ26, l26, y26, z26⟩, st26⟩ := Jvm.LawKit.callS X20 hx (y := (⟨"com/example/tiercast/tiercast/protocol/DescriptorsCopyOnePinLaw", "same", "([JJ)Z"⟩ : MethodName)) hown (mvT hZ (hw _ (List.mem_of_getElem? (i := 16) rfl))) (mvT hZ (hw _ (List.mem_of_getElem? (i := 17) rfl))) (mvT hZ (hw _ (List.mem_of_getElem? (i := 4) rfl))) (mvT hZ (hw _ (List.mem_of_getElem? (i := 18) rfl))) (by decide) (backOf (W := 0) (rm3 l Z a0 hw [] b14 p1 k14 T20.heap n0 sz20 f27) hZ (hw _ (List.mem_of_getElem? (i := 18) rfl)) (hw _ (List.mem_of_getElem? (i := 4) rfl)) (by decide) (by decide)) (g := (mkF m 99 #[lv p1, .second, lv p2, .second, iv p3, iv p4, iv p5, iv xw, iv v7, iv xst, iv xat, rv b14, rv b15, iv xs, iv xt] [(.long p1), (.ref b14)])) rfl (by rw [hml]; rfl) (argsL := [(.ref b14), (.long p1)]) (rest := []) (lenOf pd_2 rfl) rfl (by show 2 * 0 + _ ≤ _; exact Nat.le_of_eq rfl) (hb hby at_99) (fun _ _ => ⟨rfl, rfl, (by decide : 2 + 0 ≤ _), (by decide : 16 + 0 ≤ _)⟩)
  dsimp only [Pt.U, Pt.locs, Pt.cells, Pt.slots] at X26 l26 y26 z26 st26 hQ26
  subst l26 y26 z26
  obtain ⟨rfl, Nq26, eh26⟩ := hQ26
  have N26 := Fr.app N20 Nq26
  obtain ⟨_, _, ⟨T28, L28, k28, n28⟩, -, X28, ⟨Lc28, hQ28, l28, y28, z28⟩, st28⟩ := Jvm.LawKit.callS X26 hx (y := (⟨"com/example/tiercast/tiercast/protocol/DescriptorsCopyOnePinLaw", "cell", "([JIJJIII)Z"⟩ : MethodName)) hown (mvT hZ (hw _ (List.mem_of_getElem? (i := 19) rfl))) (mvT hZ (hw _ (List.mem_of_getElem? (i := 20) rfl))) (mvT hZ (hw _ (List.mem_of_getElem? (i := 4) rfl))) (mvT hZ (hw _ (List.mem_of_getElem? (i := 21) rfl))) (by decide) (backOf (W := 0) (rm4 l Z a0 hw [] b15 (0 : Int32) p1 p2 xs xt xw k15 (own_cps (own_f p1) (own_f p2) (wN * aN) (wN * bN) 0 wN) 0 T20.heap n0 sz20 Vc_20 rfl (by decide) (own_cell 0 (by decide) hxs hxt hwN haN hbN hab hbb)) hZ (hw _ (List.mem_of_getElem? (i := 21) rfl)) (hw _ (List.mem_of_getElem? (i := 4) rfl)) (by decide) (by decide)) (g := (mkF m 116 #[lv p1, .second, lv p2, .second, iv p3, iv p4, iv p5, iv xw, iv v7, iv xst, iv xat, rv b14, rv b15, iv xs, iv xt] [(.int xw), (.int xt), (.int xs), (.long p2), (.long p1), (.int (0 : Int32)), (.ref b15)])) rfl (by rw [hml]; rfl) (argsL := [(.ref b15), (.int (0 : Int32)), (.long p1), (.long p2), (.int xs), (.int xt), (.int xw)]) (rest := []) (lenOf pd_3 rfl) rfl (by show 2 * 0 + _ ≤ _; exact Nat.le_of_eq rfl) (hb hby at_116) (fun _ _ => ⟨rfl, eh26, (by decide : 2 + 0 ≤ _), (by decide : 16 + 0 ≤ _)⟩)
  dsimp only [Pt.U, Pt.locs, Pt.cells, Pt.slots] at X28 l28 y28 z28 st28 hQ28
  subst l28 y28 z28
  obtain ⟨rfl, Nq28, eh28⟩ := hQ28
  have N28 := Fr.app N26 Nq28
  obtain ⟨_, _, ⟨T29, L29, k29, n29⟩, -, X29, ⟨Lc29, hQ29, l29, y29, z29⟩, st29⟩ := Jvm.LawKit.callS X28 hx (y := (⟨"com/example/tiercast/tiercast/protocol/DescriptorsCopyOnePinLaw", "cell", "([JIJJIII)Z"⟩ : MethodName)) hown (mvT hZ (hw _ (List.mem_of_getElem? (i := 19) rfl))) (mvT hZ (hw _ (List.mem_of_getElem? (i := 20) rfl))) (mvT hZ (hw _ (List.mem_of_getElem? (i := 4) rfl))) (mvT hZ (hw _ (List.mem_of_getElem? (i := 21) rfl))) (by decide) (backOf (W := 0) (rm4 l Z a0 hw [] b15 (1 : Int32) p1 p2 xs xt xw k15 (own_cps (own_f p1) (own_f p2) (wN * aN) (wN * bN) 0 wN) 1 T20.heap n0 sz20 Vc_20 rfl (by decide) (own_cell 1 (by decide) hxs hxt hwN haN hbN hab hbb)) hZ (hw _ (List.mem_of_getElem? (i := 21) rfl)) (hw _ (List.mem_of_getElem? (i := 4) rfl)) (by decide) (by decide)) (g := (mkF m 133 #[lv p1, .second, lv p2, .second, iv p3, iv p4, iv p5, iv xw, iv v7, iv xst, iv xat, rv b14, rv b15, iv xs, iv xt] [(.int xw), (.int xt), (.int xs), (.long p2), (.long p1), (.int (1 : Int32)), (.ref b15)])) rfl (by rw [hml]; rfl) (argsL := [(.ref b15), (.int (1 : Int32)), (.long p1), (.long p2), (.int xs), (.int xt), (.int xw)]) (rest := []) (lenOf pd_3 rfl) rfl (by show 2 * 0 + _ ≤ _; exact Nat.le_of_eq rfl) (hb hby at_133) (fun _ _ => ⟨rfl, eh28, (by decide : 2 + 0 ≤ _), (by decide : 16 + 0 ≤ _)⟩)
  dsimp only [Pt.U, Pt.locs, Pt.cells, Pt.slots] at X29 l29 y29 z29 st29 hQ29
  subst l29 y29 z29
  obtain ⟨rfl, Nq29, eh29⟩ := hQ29
  have N29 := Fr.app N28 Nq29
  obtain ⟨_, _, ⟨T30, L30, k30, n30⟩, -, X30, ⟨Lc30, hQ30, l30, y30, z30⟩, st30⟩ := Jvm.LawKit.callS X29 hx (y := (⟨"com/example/tiercast/tiercast/protocol/DescriptorsCopyOnePinLaw", "cell", "([JIJJIII)Z"⟩ : MethodName)) hown (mvT hZ (hw _ (List.mem_of_getElem? (i := 19) rfl))) (mvT hZ (hw _ (List.mem_of_getElem? (i := 20) rfl))) (mvT hZ (hw _ (List.mem_of_getElem? (i := 4) rfl))) (mvT hZ (hw _ (List.mem_of_getElem? (i := 21) rfl))) (by decide) (backOf (W := 0) (rm4 l Z a0 hw [] b15 (2 : Int32) p1 p2 xs xt xw k15 (own_cps (own_f p1) (own_f p2) (wN * aN) (wN * bN) 0 wN) 2 T20.heap n0 sz20 Vc_20 rfl (by decide) (own_cell 2 (by decide) hxs hxt hwN haN hbN hab hbb)) hZ (hw _ (List.mem_of_getElem? (i := 21) rfl)) (hw _ (List.mem_of_getElem? (i := 4) rfl)) (by decide) (by decide)) (g := (mkF m 150 #[lv p1, .second, lv p2, .second, iv p3, iv p4, iv p5, iv xw, iv v7, iv xst, iv xat, rv b14, rv b15, iv xs, iv xt] [(.int xw), (.int xt), (.int xs), (.long p2), (.long p1), (.int (2 : Int32)), (.ref b15)])) rfl (by rw [hml]; rfl) (argsL := [(.ref b15), (.int (2 : Int32)), (.long p1), (.long p2), (.int xs), (.int xt), (.int xw)]) (rest := []) (lenOf pd_3 rfl) rfl (by show 2 * 0 + _ ≤ _; exact Nat.le_of_eq rfl) (hb hby at_150) (fun _ _ => ⟨rfl, eh29, (by decide : 2 + 0 ≤ _), (by decide : 16 + 0 ≤ _)⟩)
  dsimp only [Pt.U, Pt.locs, Pt.cells, Pt.slots] at X30 l30 y30 z30 st30 hQ30
  subst l30 y30 z30
  obtain ⟨rfl, Nq30, eh30⟩ := hQ30
  have N30 := Fr.app N29 Nq30
  obtain ⟨_, _, ⟨T31, L31, k31, n31⟩, -, X31, ⟨Lc31, hQ31, l31, y31, z31⟩, st31⟩ := Jvm.LawKit.callS X30 hx (y := (⟨"com/example/tiercast/tiercast/protocol/DescriptorsCopyOnePinLaw", "cell", "([JIJJIII)Z"⟩ : MethodName)) hown (mvT hZ (hw _ (List.mem_of_getElem? (i := 19) rfl))) (mvT hZ (hw _ (List.mem_of_getElem? (i := 20) rfl))) (mvT hZ (hw _ (List.mem_of_getElem? (i := 4) rfl))) (mvT hZ (hw _ (List.mem_of_getElem? (i := 21) rfl))) (by decide) (backOf (W := 0) (rm4 l Z a0 hw [] b15 (3 : Int32) p1 p2 xs xt xw k15 (own_cps (own_f p1) (own_f p2) (wN * aN) (wN * bN) 0 wN) 3 T20.heap n0 sz20 Vc_20 rfl (by decide) (own_cell 3 (by decide) hxs hxt hwN haN hbN hab hbb)) hZ (hw _ (List.mem_of_getElem? (i := 21) rfl)) (hw _ (List.mem_of_getElem? (i := 4) rfl)) (by decide) (by decide)) (g := (mkF m 167 #[lv p1, .second, lv p2, .second, iv p3, iv p4, iv p5, iv xw, iv v7, iv xst, iv xat, rv b14, rv b15, iv xs, iv xt] [(.int xw), (.int xt), (.int xs), (.long p2), (.long p1), (.int (3 : Int32)), (.ref b15)])) rfl (by rw [hml]; rfl) (argsL := [(.ref b15), (.int (3 : Int32)), (.long p1), (.long p2), (.int xs), (.int xt), (.int xw)]) (rest := []) (lenOf pd_3 rfl) rfl (by show 2 * 0 + _ ≤ _; exact Nat.le_of_eq rfl) (hb hby at_167) (fun _ _ => ⟨rfl, eh30, (by decide : 2 + 0 ≤ _), (by decide : 16 + 0 ≤ _)⟩)
  dsimp only [Pt.U, Pt.locs, Pt.cells, Pt.slots] at X31 l31 y31 z31 st31 hQ31
  subst l31 y31 z31
  obtain ⟨rfl, Nq31, eh31⟩ := hQ31
  have N31 := Fr.app N30 Nq31
  obtain ⟨_, _, ⟨T32, L32, k32, n32⟩, -, X32, ⟨Lc32, hQ32, l32, y32, z32⟩, st32⟩ := Jvm.LawKit.callS X31 hx (y := (⟨"com/example/tiercast/tiercast/protocol/DescriptorsCopyOnePinLaw", "cell", "([JIJJIII)Z"⟩ : MethodName)) hown (mvT hZ (hw _ (List.mem_of_getElem? (i := 19) rfl))) (mvT hZ (hw _ (List.mem_of_getElem? (i := 20) rfl))) (mvT hZ (hw _ (List.mem_of_getElem? (i := 4) rfl))) (mvT hZ (hw _ (List.mem_of_getElem? (i := 21) rfl))) (by decide) (backOf (W := 0) (rm4 l Z a0 hw [] b15 (4 : Int32) p1 p2 xs xt xw k15 (own_cps (own_f p1) (own_f p2) (wN * aN) (wN * bN) 0 wN) 4 T20.heap n0 sz20 Vc_20 rfl (by decide) (own_cell 4 (by decide) hxs hxt hwN haN hbN hab hbb)) hZ (hw _ (List.mem_of_getElem? (i := 21) rfl)) (hw _ (List.mem_of_getElem? (i := 4) rfl)) (by decide) (by decide)) (g := (mkF m 184 #[lv p1, .second, lv p2, .second, iv p3, iv p4, iv p5, iv xw, iv v7, iv xst, iv xat, rv b14, rv b15, iv xs, iv xt] [(.int xw), (.int xt), (.int xs), (.long p2), (.long p1), (.int (4 : Int32)), (.ref b15)])) rfl (by rw [hml]; rfl) (argsL := [(.ref b15), (.int (4 : Int32)), (.long p1), (.long p2), (.int xs), (.int xt), (.int xw)]) (rest := []) (lenOf pd_3 rfl) rfl (by show 2 * 0 + _ ≤ _; exact Nat.le_of_eq rfl) (hb hby at_184) (fun _ _ => ⟨rfl, eh31, (by decide : 2 + 0 ≤ _), (by decide : 16 + 0 ≤ _)⟩)
  dsimp only [Pt.U, Pt.locs, Pt.cells, Pt.slots] at X32 l32 y32 z32 st32 hQ32
  subst l32 y32 z32
  obtain ⟨rfl, Nq32, eh32⟩ := hQ32
  have N32 := Fr.app N31 Nq32
  obtain ⟨_, _, ⟨T33, L33, k33, n33⟩, -, X33, ⟨Lc33, hQ33, l33, y33, z33⟩, st33⟩ := Jvm.LawKit.callS X32 hx (y := (⟨"com/example/tiercast/tiercast/protocol/DescriptorsCopyOnePinLaw", "cell", "([JIJJIII)Z"⟩ : MethodName)) hown (mvT hZ (hw _ (List.mem_of_getElem? (i := 19) rfl))) (mvT hZ (hw _ (List.mem_of_getElem? (i := 20) rfl))) (mvT hZ (hw _ (List.mem_of_getElem? (i := 4) rfl))) (mvT hZ (hw _ (List.mem_of_getElem? (i := 21) rfl))) (by decide) (backOf (W := 0) (rm4 l Z a0 hw [] b15 (5 : Int32) p1 p2 xs xt xw k15 (own_cps (own_f p1) (own_f p2) (wN * aN) (wN * bN) 0 wN) 5 T20.heap n0 sz20 Vc_20 rfl (by decide) (own_cell 5 (by decide) hxs hxt hwN haN hbN hab hbb)) hZ (hw _ (List.mem_of_getElem? (i := 21) rfl)) (hw _ (List.mem_of_getElem? (i := 4) rfl)) (by decide) (by decide)) (g := (mkF m 201 #[lv p1, .second, lv p2, .second, iv p3, iv p4, iv p5, iv xw, iv v7, iv xst, iv xat, rv b14, rv b15, iv xs, iv xt] [(.int xw), (.int xt), (.int xs), (.long p2), (.long p1), (.int (5 : Int32)), (.ref b15)])) rfl (by rw [hml]; rfl) (argsL := [(.ref b15), (.int (5 : Int32)), (.long p1), (.long p2), (.int xs), (.int xt), (.int xw)]) (rest := []) (lenOf pd_3 rfl) rfl (by show 2 * 0 + _ ≤ _; exact Nat.le_of_eq rfl) (hb hby at_201) (fun _ _ => ⟨rfl, eh32, (by decide : 2 + 0 ≤ _), (by decide : 16 + 0 ≤ _)⟩)
  dsimp only [Pt.U, Pt.locs, Pt.cells, Pt.slots] at X33 l33 y33 z33 st33 hQ33
  subst l33 y33 z33
  obtain ⟨rfl, Nq33, eh33⟩ := hQ33
  have N33 := Fr.app N32 Nq33
  obtain ⟨_, _, ⟨T34, L34, k34, n34⟩, -, X34, ⟨Lc34, hQ34, l34, y34, z34⟩, st34⟩ := Jvm.LawKit.callS X33 hx (y := (⟨"com/example/tiercast/tiercast/protocol/DescriptorsCopyOnePinLaw", "cell", "([JIJJIII)Z"⟩ : MethodName)) hown (mvT hZ (hw _ (List.mem_of_getElem? (i := 19) rfl))) (mvT hZ (hw _ (List.mem_of_getElem? (i := 20) rfl))) (mvT hZ (hw _ (List.mem_of_getElem? (i := 4) rfl))) (mvT hZ (hw _ (List.mem_of_getElem? (i := 21) rfl))) (by decide) (backOf (W := 0) (rm4 l Z a0 hw [] b15 (6 : Int32) p1 p2 xs xt xw k15 (own_cps (own_f p1) (own_f p2) (wN * aN) (wN * bN) 0 wN) 6 T20.heap n0 sz20 Vc_20 rfl (by decide) (own_cell 6 (by decide) hxs hxt hwN haN hbN hab hbb)) hZ (hw _ (List.mem_of_getElem? (i := 21) rfl)) (hw _ (List.mem_of_getElem? (i := 4) rfl)) (by decide) (by decide)) (g := (mkF m 219 #[lv p1, .second, lv p2, .second, iv p3, iv p4, iv p5, iv xw, iv v7, iv xst, iv xat, rv b14, rv b15, iv xs, iv xt] [(.int xw), (.int xt), (.int xs), (.long p2), (.long p1), (.int (6 : Int32)), (.ref b15)])) rfl (by rw [hml]; rfl) (argsL := [(.ref b15), (.int (6 : Int32)), (.long p1), (.long p2), (.int xs), (.int xt), (.int xw)]) (rest := []) (lenOf pd_3 rfl) rfl (by show 2 * 0 + _ ≤ _; exact Nat.le_of_eq rfl) (hb hby at_219) (fun _ _ => ⟨rfl, eh33, (by decide : 2 + 0 ≤ _), (by decide : 16 + 0 ≤ _)⟩)
  dsimp only [Pt.U, Pt.locs, Pt.cells, Pt.slots] at X34 l34 y34 z34 st34 hQ34
  subst l34 y34 z34
  obtain ⟨rfl, Nq34, eh34⟩ := hQ34
  have N34 := Fr.app N33 Nq34
  obtain ⟨_, _, ⟨T35, L35, k35, n35⟩, -, X35, ⟨Lc35, hQ35, l35, y35, z35⟩, st35⟩ := Jvm.LawKit.callS X34 hx (y := (⟨"com/example/tiercast/tiercast/protocol/DescriptorsCopyOnePinLaw", "cell", "([JIJJIII)Z"⟩ : MethodName)) hown (mvT hZ (hw _ (List.mem_of_getElem? (i := 19) rfl))) (mvT hZ (hw _ (List.mem_of_getElem? (i := 20) rfl))) (mvT hZ (hw _ (List.mem_of_getElem? (i := 4) rfl))) (mvT hZ (hw _ (List.mem_of_getElem? (i := 21) rfl))) (by decide) (backOf (W := 0) (rm4 l Z a0 hw [] b15 (7 : Int32) p1 p2 xs xt xw k15 (own_cps (own_f p1) (own_f p2) (wN * aN) (wN * bN) 0 wN) 7 T20.heap n0 sz20 Vc_20 rfl (by decide) (own_cell 7 (by decide) hxs hxt hwN haN hbN hab hbb)) hZ (hw _ (List.mem_of_getElem? (i := 21) rfl)) (hw _ (List.mem_of_getElem? (i := 4) rfl)) (by decide) (by decide)) (g := (mkF m 237 #[lv p1, .second, lv p2, .second, iv p3, iv p4, iv p5, iv xw, iv v7, iv xst, iv xat, rv b14, rv b15, iv xs, iv xt] [(.int xw), (.int xt), (.int xs), (.long p2), (.long p1), (.int (7 : Int32)), (.ref b15)])) rfl (by rw [hml]; rfl) (argsL := [(.ref b15), (.int (7 : Int32)), (.long p1), (.long p2), (.int xs), (.int xt), (.int xw)]) (rest := []) (lenOf pd_3 rfl) rfl (by show 2 * 0 + _ ≤ _; exact Nat.le_of_eq rfl) (hb hby at_237) (fun _ _ => ⟨rfl, eh34, (by decide : 2 + 0 ≤ _), (by decide : 16 + 0 ≤ _)⟩)
  dsimp only [Pt.U, Pt.locs, Pt.cells, Pt.slots] at X35 l35 y35 z35 st35 hQ35
  subst l35 y35 z35
  obtain ⟨rfl, Nq35, eh35⟩ := hQ35
  have N35 := Fr.app N34 Nq35
  have pre36 : ∀ t, own_K p e below m T35 248 #[lv p1, .second, lv p2, .second, iv p3, iv p4, iv p5, iv xw, iv v7, iv xst, iv xat, rv b14, rv b15, iv xs, iv xt] [(.int (1 : Int32))] t → G t := by
    intro t k
    refine pre25 t ?_
    show own_K p e below m T20 94 #[lv p1, .second, lv p2, .second, iv p3, iv p4, iv p5, iv xw, iv v7, iv xst, iv xat, rv b14, rv b15, iv xs, .unset] [(.int xt)] _
    refine XS.istore X20.here hx rfl (hb hby at_94) rfl (l' := #[lv p1, .second, lv p2, .second, iv p3, iv p4, iv p5, iv xw, iv v7, iv xst, iv xat, rv b14, rv b15, iv xs, iv xt]) rfl ?_
    show own_K p e below m T20 96 #[lv p1, .second, lv p2, .second, iv p3, iv p4, iv p5, iv xw, iv v7, iv xst, iv xat, rv b14, rv b15, iv xs, iv xt] [] _
    refine XS.aload X20.here hx rfl (hb hby at_96) rfl rfl ?_
    show own_K p e below m T20 98 #[lv p1, .second, lv p2, .second, iv p3, iv p4, iv p5, iv xw, iv v7, iv xst, iv xat, rv b14, rv b15, iv xs, iv xt] [(.ref b14)] _
    refine XS.lloadN X20.here hx rfl (hb hby at_98) rfl ?_
    show own_K p e below m T20 99 #[lv p1, .second, lv p2, .second, iv p3, iv p4, iv p5, iv xw, iv v7, iv xst, iv xat, rv b14, rv b15, iv xs, iv xt] [(.long p1), (.ref b14)] _
    refine st26 _ ?_
    show own_K p e below m T26 102 #[lv p1, .second, lv p2, .second, iv p3, iv p4, iv p5, iv xw, iv v7, iv xst, iv xat, rv b14, rv b15, iv xs, iv xt] [(.int (1 : Int32))] _
    refine XS.ifNo X26.here hx rfl (hb hby at_102) rfl ((if0 _ _).trans (feq (by decide : ¬ ((1 : Int32) = (0 : Int32)))).1) ?_
    show own_K p e below m T26 105 #[lv p1, .second, lv p2, .second, iv p3, iv p4, iv p5, iv xw, iv v7, iv xst, iv xat, rv b14, rv b15, iv xs, iv xt] [] _
    refine XS.aload X26.here hx rfl (hb hby at_105) rfl rfl ?_
    show own_K p e below m T26 107 #[lv p1, .second, lv p2, .second, iv p3, iv p4, iv p5, iv xw, iv v7, iv xst, iv xat, rv b14, rv b15, iv xs, iv xt] [(.ref b15)] _
    refine XS.iconst X26.here hx rfl (hb hby at_107) ?_
    show own_K p e below m T26 108 #[lv p1, .second, lv p2, .second, iv p3, iv p4, iv p5, iv xw, iv v7, iv xst, iv xat, rv b14, rv b15, iv xs, iv xt] [(.int (0 : Int32)), (.ref b15)] _
    refine XS.lloadN X26.here hx rfl (hb hby at_108) rfl ?_
    show own_K p e below m T26 109 #[lv p1, .second, lv p2, .second, iv p3, iv p4, iv p5, iv xw, iv v7, iv xst, iv xat, rv b14, rv b15, iv xs, iv xt] [(.long p1), (.int (0 : Int32)), (.ref b15)] _
    refine XS.lloadN X26.here hx rfl (hb hby at_109) rfl ?_
    show own_K p e below m T26 110 #[lv p1, .second, lv p2, .second, iv p3, iv p4, iv p5, iv xw, iv v7, iv xst, iv xat, rv b14, rv b15, iv xs, iv xt] [(.long p2), (.long p1), (.int (0 : Int32)), (.ref b15)] _
    refine XS.iload X26.here hx rfl (hb hby at_110) rfl ?_
    show own_K p e below m T26 112 #[lv p1, .second, lv p2, .second, iv p3, iv p4, iv p5, iv xw, iv v7, iv xst, iv xat, rv b14, rv b15, iv xs, iv xt] [(.int xs), (.long p2), (.long p1), (.int (0 : Int32)), (.ref b15)] _
    refine XS.iload X26.here hx rfl (hb hby at_112) rfl ?_
    show own_K p e below m T26 114 #[lv p1, .second, lv p2, .second, iv p3, iv p4, iv p5, iv xw, iv v7, iv xst, iv xat, rv b14, rv b15, iv xs, iv xt] [(.int xt), (.int xs), (.long p2), (.long p1), (.int (0 : Int32)), (.ref b15)] _
    refine XS.iload X26.here hx rfl (hb hby at_114) rfl ?_
    show own_K p e below m T26 116 #[lv p1, .second, lv p2, .second, iv p3, iv p4, iv p5, iv xw, iv v7, iv xst, iv xat, rv b14, rv b15, iv xs, iv xt] [(.int xw), (.int xt), (.int xs), (.long p2), (.long p1), (.int (0 : Int32)), (.ref b15)] _
    refine st28 _ ?_
    show own_K p e below m T28 119 #[lv p1, .second, lv p2, .second, iv p3, iv p4, iv p5, iv xw, iv v7, iv xst, iv xat, rv b14, rv b15, iv xs, iv xt] [(.int (1 : Int32))] _
    refine XS.ifNo X28.here hx rfl (hb hby at_119) rfl ((if0 _ _).trans (feq (by decide : ¬ ((1 : Int32) = (0 : Int32)))).1) ?_
    show own_K p e below m T28 122 #[lv p1, .second, lv p2, .second, iv p3, iv p4, iv p5, iv xw, iv v7, iv xst, iv xat, rv b14, rv b15, iv xs, iv xt] [] _
    refine XS.aload X28.here hx rfl (hb hby at_122) rfl rfl ?_
    show own_K p e below m T28 124 #[lv p1, .second, lv p2, .second, iv p3, iv p4, iv p5, iv xw, iv v7, iv xst, iv xat, rv b14, rv b15, iv xs, iv xt] [(.ref b15)] _
    refine XS.iconst X28.here hx rfl (hb hby at_124) ?_
    show own_K p e below m T28 125 #[lv p1, .second, lv p2, .second, iv p3, iv p4, iv p5, iv xw, iv v7, iv xst, iv xat, rv b14, rv b15, iv xs, iv xt] [(.int (1 : Int32)), (.ref b15)] _
    refine XS.lloadN X28.here hx rfl (hb hby at_125) rfl ?_
    show own_K p e below m T28 126 #[lv p1, .second, lv p2, .second, iv p3, iv p4, iv p5, iv xw, iv v7, iv xst, iv xat, rv b14, rv b15, iv xs, iv xt] [(.long p1), (.int (1 : Int32)), (.ref b15)] _
    refine XS.lloadN X28.here hx rfl (hb hby at_126) rfl ?_
    show own_K p e below m T28 127 #[lv p1, .second, lv p2, .second, iv p3, iv p4, iv p5, iv xw, iv v7, iv xst, iv xat, rv b14, rv b15, iv xs, iv xt] [(.long p2), (.long p1), (.int (1 : Int32)), (.ref b15)] _
    refine XS.iload X28.here hx rfl (hb hby at_127) rfl ?_
    show own_K p e below m T28 129 #[lv p1, .second, lv p2, .second, iv p3, iv p4, iv p5, iv xw, iv v7, iv xst, iv xat, rv b14, rv b15, iv xs, iv xt] [(.int xs), (.long p2), (.long p1), (.int (1 : Int32)), (.ref b15)] _
    refine XS.iload X28.here hx rfl (hb hby at_129) rfl ?_
    show own_K p e below m T28 131 #[lv p1, .second, lv p2, .second, iv p3, iv p4, iv p5, iv xw, iv v7, iv xst, iv xat, rv b14, rv b15, iv xs, iv xt] [(.int xt), (.int xs), (.long p2), (.long p1), (.int (1 : Int32)), (.ref b15)] _
    refine XS.iload X28.here hx rfl (hb hby at_131) rfl ?_
    show own_K p e below m T28 133 #[lv p1, .second, lv p2, .second, iv p3, iv p4, iv p5, iv xw, iv v7, iv xst, iv xat, rv b14, rv b15, iv xs, iv xt] [(.int xw), (.int xt), (.int xs), (.long p2), (.long p1), (.int (1 : Int32)), (.ref b15)] _
    refine st29 _ ?_
    show own_K p e below m T29 136 #[lv p1, .second, lv p2, .second, iv p3, iv p4, iv p5, iv xw, iv v7, iv xst, iv xat, rv b14, rv b15, iv xs, iv xt] [(.int (1 : Int32))] _
    refine XS.ifNo X29.here hx rfl (hb hby at_136) rfl ((if0 _ _).trans (feq (by decide : ¬ ((1 : Int32) = (0 : Int32)))).1) ?_
    show own_K p e below m T29 139 #[lv p1, .second, lv p2, .second, iv p3, iv p4, iv p5, iv xw, iv v7, iv xst, iv xat, rv b14, rv b15, iv xs, iv xt] [] _
    refine XS.aload X29.here hx rfl (hb hby at_139) rfl rfl ?_
    show own_K p e below m T29 141 #[lv p1, .second, lv p2, .second, iv p3, iv p4, iv p5, iv xw, iv v7, iv xst, iv xat, rv b14, rv b15, iv xs, iv xt] [(.ref b15)] _
    refine XS.iconst X29.here hx rfl (hb hby at_141) ?_
    show own_K p e below m T29 142 #[lv p1, .second, lv p2, .second, iv p3, iv p4, iv p5, iv xw, iv v7, iv xst, iv xat, rv b14, rv b15, iv xs, iv xt] [(.int (2 : Int32)), (.ref b15)] _
    refine XS.lloadN X29.here hx rfl (hb hby at_142) rfl ?_
    show own_K p e below m T29 143 #[lv p1, .second, lv p2, .second, iv p3, iv p4, iv p5, iv xw, iv v7, iv xst, iv xat, rv b14, rv b15, iv xs, iv xt] [(.long p1), (.int (2 : Int32)), (.ref b15)] _
    refine XS.lloadN X29.here hx rfl (hb hby at_143) rfl ?_
    show own_K p e below m T29 144 #[lv p1, .second, lv p2, .second, iv p3, iv p4, iv p5, iv xw, iv v7, iv xst, iv xat, rv b14, rv b15, iv xs, iv xt] [(.long p2), (.long p1), (.int (2 : Int32)), (.ref b15)] _
    refine XS.iload X29.here hx rfl (hb hby at_144) rfl ?_
    show own_K p e below m T29 146 #[lv p1, .second, lv p2, .second, iv p3, iv p4, iv p5, iv xw, iv v7, iv xst, iv xat, rv b14, rv b15, iv xs, iv xt] [(.int xs), (.long p2), (.long p1), (.int (2 : Int32)), (.ref b15)] _
    refine XS.iload X29.here hx rfl (hb hby at_146) rfl ?_
    show own_K p e below m T29 148 #[lv p1, .second, lv p2, .second, iv p3, iv p4, iv p5, iv xw, iv v7, iv xst, iv xat, rv b14, rv b15, iv xs, iv xt] [(.int xt), (.int xs), (.long p2), (.long p1), (.int (2 : Int32)), (.ref b15)] _
    refine XS.iload X29.here hx rfl (hb hby at_148) rfl ?_
    show own_K p e below m T29 150 #[lv p1, .second, lv p2, .second, iv p3, iv p4, iv p5, iv xw, iv v7, iv xst, iv xat, rv b14, rv b15, iv xs, iv xt] [(.int xw), (.int xt), (.int xs), (.long p2), (.long p1), (.int (2 : Int32)), (.ref b15)] _
    refine st30 _ ?_
    show own_K p e below m T30 153 #[lv p1, .second, lv p2, .second, iv p3, iv p4, iv p5, iv xw, iv v7, iv xst, iv xat, rv b14, rv b15, iv xs, iv xt] [(.int (1 : Int32))] _
    refine XS.ifNo X30.here hx rfl (hb hby at_153) rfl ((if0 _ _).trans (feq (by decide : ¬ ((1 : Int32) = (0 : Int32)))).1) ?_
    show own_K p e below m T30 156 #[lv p1, .second, lv p2, .second, iv p3, iv p4, iv p5, iv xw, iv v7, iv xst, iv xat, rv b14, rv b15, iv xs, iv xt] [] _
    refine XS.aload X30.here hx rfl (hb hby at_156) rfl rfl ?_
    show own_K p e below m T30 158 #[lv p1, .second, lv p2, .second, iv p3, iv p4, iv p5, iv xw, iv v7, iv xst, iv xat, rv b14, rv b15, iv xs, iv xt] [(.ref b15)] _
    refine XS.iconst X30.here hx rfl (hb hby at_158) ?_
    show own_K p e below m T30 159 #[lv p1, .second, lv p2, .second, iv p3, iv p4, iv p5, iv xw, iv v7, iv xst, iv xat, rv b14, rv b15, iv xs, iv xt] [(.int (3 : Int32)), (.ref b15)] _
    refine XS.lloadN X30.here hx rfl (hb hby at_159) rfl ?_
    show own_K p e below m T30 160 #[lv p1, .second, lv p2, .second, iv p3, iv p4, iv p5, iv xw, iv v7, iv xst, iv xat, rv b14, rv b15, iv xs, iv xt] [(.long p1), (.int (3 : Int32)), (.ref b15)] _
    refine XS.lloadN X30.here hx rfl (hb hby at_160) rfl ?_
    show own_K p e below m T30 161 #[lv p1, .second, lv p2, .second, iv p3, iv p4, iv p5, iv xw, iv v7, iv xst, iv xat, rv b14, rv b15, iv xs, iv xt] [(.long p2), (.long p1), (.int (3 : Int32)), (.ref b15)] _
    refine XS.iload X30.here hx rfl (hb hby at_161) rfl ?_
    show own_K p e below m T30 163 #[lv p1, .second, lv p2, .second, iv p3, iv p4, iv p5, iv xw, iv v7, iv xst, iv xat, rv b14, rv b15, iv xs, iv xt] [(.int xs), (.long p2), (.long p1), (.int (3 : Int32)), (.ref b15)] _
    refine XS.iload X30.here hx rfl (hb hby at_163) rfl ?_
    show own_K p e below m T30 165 #[lv p1, .second, lv p2, .second, iv p3, iv p4, iv p5, iv xw, iv v7, iv xst, iv xat, rv b14, rv b15, iv xs, iv xt] [(.int xt), (.int xs), (.long p2), (.long p1), (.int (3 : Int32)), (.ref b15)] _
    refine XS.iload X30.here hx rfl (hb hby at_165) rfl ?_
    show own_K p e below m T30 167 #[lv p1, .second, lv p2, .second, iv p3, iv p4, iv p5, iv xw, iv v7, iv xst, iv xat, rv b14, rv b15, iv xs, iv xt] [(.int xw), (.int xt), (.int xs), (.long p2), (.long p1), (.int (3 : Int32)), (.ref b15)] _
    refine st31 _ ?_
    show own_K p e below m T31 170 #[lv p1, .second, lv p2, .second, iv p3, iv p4, iv p5, iv xw, iv v7, iv xst, iv xat, rv b14, rv b15, iv xs, iv xt] [(.int (1 : Int32))] _
    refine XS.ifNo X31.here hx rfl (hb hby at_170) rfl ((if0 _ _).trans (feq (by decide : ¬ ((1 : Int32) = (0 : Int32)))).1) ?_
    show own_K p e below m T31 173 #[lv p1, .second, lv p2, .second, iv p3, iv p4, iv p5, iv xw, iv v7, iv xst, iv xat, rv b14, rv b15, iv xs, iv xt] [] _
    refine XS.aload X31.here hx rfl (hb hby at_173) rfl rfl ?_
    show own_K p e below m T31 175 #[lv p1, .second, lv p2, .second, iv p3, iv p4, iv p5, iv xw, iv v7, iv xst, iv xat, rv b14, rv b15, iv xs, iv xt] [(.ref b15)] _
    refine XS.iconst X31.here hx rfl (hb hby at_175) ?_
    show own_K p e below m T31 176 #[lv p1, .second, lv p2, .second, iv p3, iv p4, iv p5, iv xw, iv v7, iv xst, iv xat, rv b14, rv b15, iv xs, iv xt] [(.int (4 : Int32)), (.ref b15)] _
    refine XS.lloadN X31.here hx rfl (hb hby at_176) rfl ?_
    show own_K p e below m T31 177 #[lv p1, .second, lv p2, .second, iv p3, iv p4, iv p5, iv xw, iv v7, iv xst, iv xat, rv b14, rv b15, iv xs, iv xt] [(.long p1), (.int (4 : Int32)), (.ref b15)] _
    refine XS.lloadN X31.here hx rfl (hb hby at_177) rfl ?_
    show own_K p e below m T31 178 #[lv p1, .second, lv p2, .second, iv p3, iv p4, iv p5, iv xw, iv v7, iv xst, iv xat, rv b14, rv b15, iv xs, iv xt] [(.long p2), (.long p1), (.int (4 : Int32)), (.ref b15)] _
    refine XS.iload X31.here hx rfl (hb hby at_178) rfl ?_
    show own_K p e below m T31 180 #[lv p1, .second, lv p2, .second, iv p3, iv p4, iv p5, iv xw, iv v7, iv xst, iv xat, rv b14, rv b15, iv xs, iv xt] [(.int xs), (.long p2), (.long p1), (.int (4 : Int32)), (.ref b15)] _
    refine XS.iload X31.here hx rfl (hb hby at_180) rfl ?_
    show own_K p e below m T31 182 #[lv p1, .second, lv p2, .second, iv p3, iv p4, iv p5, iv xw, iv v7, iv xst, iv xat, rv b14, rv b15, iv xs, iv xt] [(.int xt), (.int xs), (.long p2), (.long p1), (.int (4 : Int32)), (.ref b15)] _
    refine XS.iload X31.here hx rfl (hb hby at_182) rfl ?_
    show own_K p e below m T31 184 #[lv p1, .second, lv p2, .second, iv p3, iv p4, iv p5, iv xw, iv v7, iv xst, iv xat, rv b14, rv b15, iv xs, iv xt] [(.int xw), (.int xt), (.int xs), (.long p2), (.long p1), (.int (4 : Int32)), (.ref b15)] _
    refine st32 _ ?_
    show own_K p e below m T32 187 #[lv p1, .second, lv p2, .second, iv p3, iv p4, iv p5, iv xw, iv v7, iv xst, iv xat, rv b14, rv b15, iv xs, iv xt] [(.int (1 : Int32))] _
    refine XS.ifNo X32.here hx rfl (hb hby at_187) rfl ((if0 _ _).trans (feq (by decide : ¬ ((1 : Int32) = (0 : Int32)))).1) ?_
    show own_K p e below m T32 190 #[lv p1, .second, lv p2, .second, iv p3, iv p4, iv p5, iv xw, iv v7, iv xst, iv xat, rv b14, rv b15, iv xs, iv xt] [] _
    refine XS.aload X32.here hx rfl (hb hby at_190) rfl rfl ?_
    show own_K p e below m T32 192 #[lv p1, .second, lv p2, .second, iv p3, iv p4, iv p5, iv xw, iv v7, iv xst, iv xat, rv b14, rv b15, iv xs, iv xt] [(.ref b15)] _
    refine XS.iconst X32.here hx rfl (hb hby at_192) ?_
    show own_K p e below m T32 193 #[lv p1, .second, lv p2, .second, iv p3, iv p4, iv p5, iv xw, iv v7, iv xst, iv xat, rv b14, rv b15, iv xs, iv xt] [(.int (5 : Int32)), (.ref b15)] _
    refine XS.lloadN X32.here hx rfl (hb hby at_193) rfl ?_
    show own_K p e below m T32 194 #[lv p1, .second, lv p2, .second, iv p3, iv p4, iv p5, iv xw, iv v7, iv xst, iv xat, rv b14, rv b15, iv xs, iv xt] [(.long p1), (.int (5 : Int32)), (.ref b15)] _
    refine XS.lloadN X32.here hx rfl (hb hby at_194) rfl ?_
    show own_K p e below m T32 195 #[lv p1, .second, lv p2, .second, iv p3, iv p4, iv p5, iv xw, iv v7, iv xst, iv xat, rv b14, rv b15, iv xs, iv xt] [(.long p2), (.long p1), (.int (5 : Int32)), (.ref b15)] _
    refine XS.iload X32.here hx rfl (hb hby at_195) rfl ?_
    show own_K p e below m T32 197 #[lv p1, .second, lv p2, .second, iv p3, iv p4, iv p5, iv xw, iv v7, iv xst, iv xat, rv b14, rv b15, iv xs, iv xt] [(.int xs), (.long p2), (.long p1), (.int (5 : Int32)), (.ref b15)] _
    refine XS.iload X32.here hx rfl (hb hby at_197) rfl ?_
    show own_K p e below m T32 199 #[lv p1, .second, lv p2, .second, iv p3, iv p4, iv p5, iv xw, iv v7, iv xst, iv xat, rv b14, rv b15, iv xs, iv xt] [(.int xt), (.int xs), (.long p2), (.long p1), (.int (5 : Int32)), (.ref b15)] _
    refine XS.iload X32.here hx rfl (hb hby at_199) rfl ?_
    show own_K p e below m T32 201 #[lv p1, .second, lv p2, .second, iv p3, iv p4, iv p5, iv xw, iv v7, iv xst, iv xat, rv b14, rv b15, iv xs, iv xt] [(.int xw), (.int xt), (.int xs), (.long p2), (.long p1), (.int (5 : Int32)), (.ref b15)] _
    refine st33 _ ?_
    show own_K p e below m T33 204 #[lv p1, .second, lv p2, .second, iv p3, iv p4, iv p5, iv xw, iv v7, iv xst, iv xat, rv b14, rv b15, iv xs, iv xt] [(.int (1 : Int32))] _
    refine XS.ifNo X33.here hx rfl (hb hby at_204) rfl ((if0 _ _).trans (feq (by decide : ¬ ((1 : Int32) = (0 : Int32)))).1) ?_
    show own_K p e below m T33 207 #[lv p1, .second, lv p2, .second, iv p3, iv p4, iv p5, iv xw, iv v7, iv xst, iv xat, rv b14, rv b15, iv xs, iv xt] [] _
    refine XS.aload X33.here hx rfl (hb hby at_207) rfl rfl ?_
    show own_K p e below m T33 209 #[lv p1, .second, lv p2, .second, iv p3, iv p4, iv p5, iv xw, iv v7, iv xst, iv xat, rv b14, rv b15, iv xs, iv xt] [(.ref b15)] _
    refine XS.bipush X33.here hx rfl (hb hby at_209) ?_
    show own_K p e below m T33 211 #[lv p1, .second, lv p2, .second, iv p3, iv p4, iv p5, iv xw, iv v7, iv xst, iv xat, rv b14, rv b15, iv xs, iv xt] [(.int (6 : Int32)), (.ref b15)] _
    refine XS.lloadN X33.here hx rfl (hb hby at_211) rfl ?_
    show own_K p e below m T33 212 #[lv p1, .second, lv p2, .second, iv p3, iv p4, iv p5, iv xw, iv v7, iv xst, iv xat, rv b14, rv b15, iv xs, iv xt] [(.long p1), (.int (6 : Int32)), (.ref b15)] _
    refine XS.lloadN X33.here hx rfl (hb hby at_212) rfl ?_
    show own_K p e below m T33 213 #[lv p1, .second, lv p2, .second, iv p3, iv p4, iv p5, iv xw, iv v7, iv xst, iv xat, rv b14, rv b15, iv xs, iv xt] [(.long p2), (.long p1), (.int (6 : Int32)), (.ref b15)] _
    refine XS.iload X33.here hx rfl (hb hby at_213) rfl ?_
    show own_K p e below m T33 215 #[lv p1, .second, lv p2, .second, iv p3, iv p4, iv p5, iv xw, iv v7, iv xst, iv xat, rv b14, rv b15, iv xs, iv xt] [(.int xs), (.long p2), (.long p1), (.int (6 : Int32)), (.ref b15)] _
    refine XS.iload X33.here hx rfl (hb hby at_215) rfl ?_
    show own_K p e below m T33 217 #[lv p1, .second, lv p2, .second, iv p3, iv p4, iv p5, iv xw, iv v7, iv xst, iv xat, rv b14, rv b15, iv xs, iv xt] [(.int xt), (.int xs), (.long p2), (.long p1), (.int (6 : Int32)), (.ref b15)] _
    refine XS.iload X33.here hx rfl (hb hby at_217) rfl ?_
    show own_K p e below m T33 219 #[lv p1, .second, lv p2, .second, iv p3, iv p4, iv p5, iv xw, iv v7, iv xst, iv xat, rv b14, rv b15, iv xs, iv xt] [(.int xw), (.int xt), (.int xs), (.long p2), (.long p1), (.int (6 : Int32)), (.ref b15)] _
    refine st34 _ ?_
    show own_K p e below m T34 222 #[lv p1, .second, lv p2, .second, iv p3, iv p4, iv p5, iv xw, iv v7, iv xst, iv xat, rv b14, rv b15, iv xs, iv xt] [(.int (1 : Int32))] _
    refine XS.ifNo X34.here hx rfl (hb hby at_222) rfl ((if0 _ _).trans (feq (by decide : ¬ ((1 : Int32) = (0 : Int32)))).1) ?_
    show own_K p e below m T34 225 #[lv p1, .second, lv p2, .second, iv p3, iv p4, iv p5, iv xw, iv v7, iv xst, iv xat, rv b14, rv b15, iv xs, iv xt] [] _
    refine XS.aload X34.here hx rfl (hb hby at_225) rfl rfl ?_
    show own_K p e below m T34 227 #[lv p1, .second, lv p2, .second, iv p3, iv p4, iv p5, iv xw, iv v7, iv xst, iv xat, rv b14, rv b15, iv xs, iv xt] [(.ref b15)] _
    refine XS.bipush X34.here hx rfl (hb hby at_227) ?_
    show own_K p e below m T34 229 #[lv p1, .second, lv p2, .second, iv p3, iv p4, iv p5, iv xw, iv v7, iv xst, iv xat, rv b14, rv b15, iv xs, iv xt] [(.int (7 : Int32)), (.ref b15)] _
    refine XS.lloadN X34.here hx rfl (hb hby at_229) rfl ?_
    show own_K p e below m T34 230 #[lv p1, .second, lv p2, .second, iv p3, iv p4, iv p5, iv xw, iv v7, iv xst, iv xat, rv b14, rv b15, iv xs, iv xt] [(.long p1), (.int (7 : Int32)), (.ref b15)] _
    refine XS.lloadN X34.here hx rfl (hb hby at_230) rfl ?_
    show own_K p e below m T34 231 #[lv p1, .second, lv p2, .second, iv p3, iv p4, iv p5, iv xw, iv v7, iv xst, iv xat, rv b14, rv b15, iv xs, iv xt] [(.long p2), (.long p1), (.int (7 : Int32)), (.ref b15)] _
    refine XS.iload X34.here hx rfl (hb hby at_231) rfl ?_
    show own_K p e below m T34 233 #[lv p1, .second, lv p2, .second, iv p3, iv p4, iv p5, iv xw, iv v7, iv xst, iv xat, rv b14, rv b15, iv xs, iv xt] [(.int xs), (.long p2), (.long p1), (.int (7 : Int32)), (.ref b15)] _
    refine XS.iload X34.here hx rfl (hb hby at_233) rfl ?_
    show own_K p e below m T34 235 #[lv p1, .second, lv p2, .second, iv p3, iv p4, iv p5, iv xw, iv v7, iv xst, iv xat, rv b14, rv b15, iv xs, iv xt] [(.int xt), (.int xs), (.long p2), (.long p1), (.int (7 : Int32)), (.ref b15)] _
    refine XS.iload X34.here hx rfl (hb hby at_235) rfl ?_
    show own_K p e below m T34 237 #[lv p1, .second, lv p2, .second, iv p3, iv p4, iv p5, iv xw, iv v7, iv xst, iv xat, rv b14, rv b15, iv xs, iv xt] [(.int xw), (.int xt), (.int xs), (.long p2), (.long p1), (.int (7 : Int32)), (.ref b15)] _
    refine st35 _ ?_
    show own_K p e below m T35 240 #[lv p1, .second, lv p2, .second, iv p3, iv p4, iv p5, iv xw, iv v7, iv xst, iv xat, rv b14, rv b15, iv xs, iv xt] [(.int (1 : Int32))] _
    refine XS.ifNo X35.here hx rfl (hb hby at_240) rfl ((if0 _ _).trans (feq (by decide : ¬ ((1 : Int32) = (0 : Int32)))).1) ?_
    show own_K p e below m T35 243 #[lv p1, .second, lv p2, .second, iv p3, iv p4, iv p5, iv xw, iv v7, iv xst, iv xat, rv b14, rv b15, iv xs, iv xt] [] _
    refine XS.iconst X35.here hx rfl (hb hby at_243) ?_
    show own_K p e below m T35 244 #[lv p1, .second, lv p2, .second, iv p3, iv p4, iv p5, iv xw, iv v7, iv xst, iv xat, rv b14, rv b15, iv xs, iv xt] [(.int (1 : Int32))] _
    refine XS.goto X35.here hx rfl (pc0 := 244) (pc' := 248) rfl (hb hby at_244) (by decide) (by decide) ?_
    exact k
  obtain ⟨fs, hr, hrun, hended, hW, hsame⟩ := X35.leave (v := some (.int (1 : Int32))) (fun h => by rw [Bd.returns] at h; cases h)
  refine ⟨_, _, hG _ (pre36 _ ?_), hrun, hended, _, _, rfl, ?_, ⟨_, rfl⟩, hW, hsame.mono (by decide) (by decide)⟩
  · show own_K p e below m T35 248 #[lv p1, .second, lv p2, .second, iv p3, iv p4, iv p5, iv xw, iv v7, iv xst, iv xat, rv b14, rv b15, iv xs, iv xt] [(.int (1 : Int32))] _
    exact retN X35 hx (t := .boolean) Bd.returns (by simp) (hb hby at_248) hr
  · show Q0 Z p1 p2 p3 p4 p5 h0 n0 _ T35.heap _
    rw [eh35]
    exact ⟨rfl, N35, K20⟩
set_option maxRecDepth 65536 in
set_option maxHeartbeats 40000000 in
theorem comes_1 {Post : Tables → Env → Array Value → State → Outcome → State → Prop} (hpost : ∀ tb e args s v u, (limb_1_1.after args s (.returned v) u = true ∧ limb_1_2.after args s (.returned v) u = true ∧ True) → FrameEnd s (.returned v) u (Jvm.fieldLocs frame_1_writes args s ++ Jvm.arrayLocs frame_1_arrays args s ++ Jvm.staticLocs frame_1_statics s) 16 128 → Post tb e args s (.returned v) u) :
    ArmFor flags0 classFile x code maxLocals ret World_1 tables_1 room_1 Calls_1 rest_1 Pre_1 Post := by
  intro l hfl _ _ p e ha hc hk s m args below hf hA hF happ hP
  obtain ⟨hcalls, hrest, hpre⟩ := hP
  obtain ⟨-, -, -, hnamed, -, -, -, hat⟩ := (Spec.applies_iff hf).mp happ
  obtain ⟨hg, hn⟩ := and_e (Cond.before_iff.mp (show (Jvm.Cond.and given_1 narrow_1).before args s = true from hpre))
  obtain ⟨ga1, gb1⟩ := and_e hg
  obtain ⟨ga2, gb2⟩ := and_e gb1
  obtain ⟨ga3, gb3⟩ := and_e gb2
  obtain ⟨ga4, gb4⟩ := and_e gb3
  obtain ⟨ga5, gb5⟩ := and_e gb4
  obtain ⟨w0, w1, w2, w3, w4, rfl⟩ : ∃ w0 w1 w2 w3 w4 : Value, args = #[w0, w1, w2, w3, w4] := by
    have hs : args.size = 5 := by simpa [Cond.value, given_1] using ga1
    obtain ⟨L⟩ := args
    match L, hs with
    | [w0, w1, w2, w3, w4], _ => exact ⟨w0, w1, w2, w3, w4, rfl⟩
  have hw := fun d (hd : d ∈ tables_1) => atoms_spec (ws := Jvm.Cond.code x code maxLocals ret :: tables_1) hat d (List.mem_cons_of_mem _ hd)
  have hfit : Fit s := fun {y c} hc i hi => by
    obtain ⟨ha, rfl⟩ := Array.getElem?_eq_some_iff.mp hc
    have q := List.all_eq_true.mp ((Array.all_eq_true_iff_forall_mem.mp hF) _ (Array.getElem_mem ha)) i (List.mem_range.mpr hi)
    simpa [Array.getElem?_eq_getElem hi] using q
  obtain ⟨i0, ei0⟩ := isL_v ga2
  obtain rfl : w0 = (.long i0) := Option.some.inj ei0
  obtain ⟨i1, ei1⟩ := isL_v ga3
  obtain rfl : w1 = (.long i1) := Option.some.inj ei1
  obtain ⟨i2, ei2⟩ := is_v ga4
  obtain rfl : w2 = (.int i2) := Option.some.inj ei2
  obtain ⟨i3, ei3⟩ := is_v ga5
  obtain rfl : w3 = (.int i3) := Option.some.inj ei3
  obtain ⟨i4, ei4⟩ := is_v gb5
  obtain rfl : w4 = (.int i4) := Option.some.inj ei4
  obtain ⟨n, o, h1, h2, h3, _, L, rfl, ⟨rfl, N, _⟩, hq⟩ := rm0 l s _ hw tables_1 i0 i1 i2 i3 i4 s.heap s.heap.size (Nat.le_refl _) p e ha hc hk s m _ below hf ((Spec.applies_iff_loose hf).mp happ).1 ⟨rfl, State.Warmed39.refl s, rfl⟩ trivial
  refine ⟨n, _, h1, h2, h3, hpost _ _ _ _ _ _ ⟨Cond.after_iff.mpr rfl, Cond.after_iff.mpr (eq_i res_at (Term.int_eval (1)) rfl), trivial⟩ ⟨hq.1, hq.2.1, (hq.2.2.sift fun y hy => Or.inr (N y hy)).mono (by decide) (by decide)⟩⟩
theorem main_1_1 : Claimed_1_1 := comes_1 fun _ _ _ _ _ _ h hF => ⟨h.1, hF⟩
theorem main_1_2 : Claimed_1_2 := comes_1 fun _ _ _ _ _ _ h hF => ⟨h.2.1, hF⟩
end Jvm.Pilot.@@N@@
namespace Jvm.Pilot.@@N@@
open Jvm Jvm.ClassFile Sem Op Lib Jvm.Free Jvm.Stand Jvm.Pilot.@@N@@.Jvm.D
/-! MADE BY PROGRAM (witnessworld.py) out of the Statement's table words and the real class files: 11 classes; the members and pool entries that the words name. The judged class is class 1, her method 1. -/
namespace start1
open Jvm.ClassFile
def u (s : String) : CpInfo := .utf8 (stringToUtf16 s)
/-- a pool by its gaps: so many unusable entries, then the entry; so many at the end -/
def gap : Nat → List CpInfo → List CpInfo
  | 0, r => r
  | n + 1, r => .unusable :: gap n r
def poolList (es : List (Nat × CpInfo)) (last : Nat) : List CpInfo := es.foldr (fun e r => gap e.1 (e.2 :: r)) (gap last [])
def pool (es : List (Nat × CpInfo)) (last : Nat) : Array CpInfo := ⟨poolList es last⟩
def fileOf (pool : Array CpInfo) (this : Nat) (attrs : Array Attribute := #[]) (ms : Array MethodInfo := #[]) (fl : Nat := 33) (sup : Nat := 0) (ifs : Array Nat := #[]) (fds : Array FieldInfo := #[]) : ClassFile where
  minorVersion := 0
  majorVersion := 65
  constantPool := pool
  accessFlags := fl
  thisClass := this
  superClass := sup
  interfaces := ifs
  fields := fds
  methods := ms
  attributes := attrs
def plain (name : String) (sup : Option ClassId) : Class where
  name := name
  kind := .ordinary
  loader := none
  accessFlags := 33
  super := sup
  interfaces := #[]
  cf := none
  fields := #[]
  methods := #[]
  instanceTypes := #[]
  staticTypes := #[]
  resolved := #[]
  callSites := []
  init := .initialized
  statics := none
  mirror := none

def pool0 : Array CpInfo := pool [(5, u "<init>"), (0, u "()V"), (1, .class_ 10), (1, u "java/lang/Object")] 113

def k0m0 : Method := { name := "<init>", desc := "()V", sig := { parameters := [], returnType := none }, accessFlags := 1, code := none }
/-- java/lang/Object -/
def k0 : Class := { plain "java/lang/Object" none with
  accessFlags := 33
  interfaces := #[]
  cf := some (fileOf pool0 8 #[] #[{ accessFlags := 1, nameIndex := 5, descriptorIndex := 6, attributes := #[] }] 33 0 #[] #[])
  fields := #[]
  methods := #[k0m0]
  instanceTypes := #[]
  staticTypes := #[]
  resolved := Array.replicate 124 none
  statics := none }

def pool1 : Array CpInfo := pool [(2, .class_ 4), (1, u "java/lang/Object"), (0, u "<init>"), (0, u "()V"), (0, .integer 2147483647), (0, .methodref 9 10), (0, .class_ 11), (0, .nameAndType 12 13), (0, u "com/example/tiercast/tiercast/protocol/DescriptorsCopyOnePinLaw"), (0, u "fill"), (0, u "([JJ)V"), (0, .methodref 15 16), (0, .class_ 17), (0, .nameAndType 18 19), (0, u "com/example/tiercast/tiercast/protocol/Descriptors"), (0, u "copyOne"), (0, u "([JI[JII)V"), (0, .methodref 9 21), (0, .nameAndType 22 23), (0, u "same"), (0, u "([JJ)Z"), (0, .methodref 9 25), (0, .nameAndType 26 27), (0, u "cell"), (0, u "([JIJJIII)Z"), (0, .long 2), (1, .long 3), (1, .long 4), (1, .long 5), (1, .long 6), (1, .long 7), (3, u "law"), (0, u "(JJIII)Z")] 5

def k1m0 : Method := { name := "<init>", desc := "()V", sig := { parameters := [], returnType := none }, accessFlags := 1, code := none }
def k1c1 : Code := { maxStack := 9, maxLocals := 15, code := code, exceptionTable := #[], attributes := #[] }
def k1m1 : Method := { name := "law", desc := "(JJIII)Z", sig := { parameters := [.long, .long, .int, .int, .int], returnType := some .boolean }, accessFlags := 9, code := some k1c1 }
def k1c2 : Code := { maxStack := 6, maxLocals := 3, code := method_3_code, exceptionTable := #[], attributes := #[] }
def k1m2 : Method := { name := "fill", desc := "([JJ)V", sig := { parameters := [(.array .long), .long], returnType := none }, accessFlags := 10, code := some k1c2 }
def k1c3 : Code := { maxStack := 6, maxLocals := 3, code := method_4_code, exceptionTable := #[], attributes := #[] }
def k1m3 : Method := { name := "same", desc := "([JJ)Z", sig := { parameters := [(.array .long), .long], returnType := some .boolean }, accessFlags := 10, code := some k1c3 }
def k1c4 : Code := { maxStack := 5, maxLocals := 11, code := method_5_code, exceptionTable := #[], attributes := #[] }
def k1m4 : Method := { name := "cell", desc := "([JIJJIII)Z", sig := { parameters := [(.array .long), .int, .long, .long, .int, .int, .int], returnType := some .boolean }, accessFlags := 10, code := some k1c4 }
/-- com/example/tiercast/tiercast/protocol/DescriptorsCopyOnePinLaw -/
def k1 : Class := { plain "com/example/tiercast/tiercast/protocol/DescriptorsCopyOnePinLaw" (some 0) with
  accessFlags := 49
  interfaces := #[]
  cf := some (fileOf pool1 9 #[] #[{ accessFlags := 1, nameIndex := 5, descriptorIndex := 6, attributes := #[] }, { accessFlags := 9, nameIndex := 42, descriptorIndex := 43, attributes := #[] }, { accessFlags := 10, nameIndex := 12, descriptorIndex := 13, attributes := #[] }, { accessFlags := 10, nameIndex := 22, descriptorIndex := 23, attributes := #[] }, { accessFlags := 10, nameIndex := 26, descriptorIndex := 27, attributes := #[] }] 49 2 #[] #[])
  fields := #[]
  methods := #[k1m0, k1m1, k1m2, k1m3, k1m4]
  instanceTypes := #[]
  staticTypes := #[]
  resolved := Array.replicate 49 none
  statics := none }

def pool2 : Array CpInfo := pool [(2, .class_ 4), (1, u "com/example/tiercast/tiercast/protocol/Descriptors"), (3, .class_ 10), (1, u "java/lang/Object"), (16, u "width"), (0, u "I"), (2, u "slots"), (0, u "[J"), (24, u "size"), (147, u "HEAD"), (2, u "KEY"), (1, u "JOINED"), (19, u "copyOne"), (0, u "([JI[JII)V")] 26

def k2c0 : Code := { maxStack := 5, maxLocals := 8, code := prog_65_method_27_code, exceptionTable := #[], attributes := #[] }
def k2m0 : Method := { name := "copyOne", desc := "([JI[JII)V", sig := { parameters := [(.array .long), .int, (.array .long), .int, .int], returnType := none }, accessFlags := 8, code := some k2c0 }
/-- com/example/tiercast/tiercast/protocol/Descriptors -/
def k2 : Class := { plain "com/example/tiercast/tiercast/protocol/Descriptors" (some 0) with
  accessFlags := 49
  interfaces := #[]
  cf := some (fileOf pool2 2 #[] #[{ accessFlags := 8, nameIndex := 230, descriptorIndex := 231, attributes := #[] }] 49 8 #[] #[{ accessFlags := 24, nameIndex := 205, descriptorIndex := 28, attributes := #[] }, { accessFlags := 24, nameIndex := 208, descriptorIndex := 28, attributes := #[] }, { accessFlags := 24, nameIndex := 210, descriptorIndex := 28, attributes := #[] }, { accessFlags := 0, nameIndex := 27, descriptorIndex := 28, attributes := #[] }, { accessFlags := 0, nameIndex := 31, descriptorIndex := 32, attributes := #[] }, { accessFlags := 0, nameIndex := 57, descriptorIndex := 28, attributes := #[] }])
  fields := #[{ name := "HEAD", type := .int, accessFlags := 24, slot := 0, constantValue := 0 }, { name := "KEY", type := .int, accessFlags := 24, slot := 1, constantValue := 0 }, { name := "JOINED", type := .int, accessFlags := 24, slot := 2, constantValue := 0 }, { name := "width", type := .int, accessFlags := 0, slot := 0, constantValue := 0 }, { name := "slots", type := (.array .long), accessFlags := 0, slot := 1, constantValue := 0 }, { name := "size", type := .int, accessFlags := 0, slot := 2, constantValue := 0 }]
  methods := #[k2m0]
  instanceTypes := #[.int, (.array .long), .int]
  staticTypes := #[.int, .int, .int]
  resolved := Array.replicate 258 none
  statics := none }

def pool3 : Array CpInfo := pool [(1, u "java/lang/Cloneable"), (0, .class_ 1), (0, u "java/lang/Object"), (0, .class_ 3)] 3

/-- java/lang/Cloneable -/
def k3 : Class := { plain "java/lang/Cloneable" (some 0) with
  accessFlags := 1537
  interfaces := #[]
  cf := some (fileOf pool3 2 #[] #[] 1537 4 #[] #[])
  fields := #[]
  methods := #[]
  instanceTypes := #[]
  staticTypes := #[]
  resolved := Array.replicate 8 none
  statics := none }

def pool4 : Array CpInfo := pool [(1, u "java/io/Serializable"), (0, .class_ 1), (0, u "java/lang/Object"), (0, .class_ 3)] 3

/-- java/io/Serializable -/
def k4 : Class := { plain "java/io/Serializable" (some 0) with
  accessFlags := 1537
  interfaces := #[]
  cf := some (fileOf pool4 2 #[] #[] 1537 4 #[] #[])
  fields := #[]
  methods := #[]
  instanceTypes := #[]
  staticTypes := #[]
  resolved := Array.replicate 8 none
  statics := none }

/-- the primitive byte -/
def k5 : Class := { plain "byte" none with kind := .primitive 'B', accessFlags := 0x411 }
/-- [B -/
def k6 : Class := { plain "[B" (some 0) with kind := .array 5 .byte, interfaces := #[3, 4], accessFlags := 1041 }

/-- the primitive int -/
def k7 : Class := { plain "int" none with kind := .primitive 'I', accessFlags := 0x411 }
/-- [I -/
def k8 : Class := { plain "[I" (some 0) with kind := .array 7 .int, interfaces := #[3, 4], accessFlags := 1041 }

/-- the primitive long -/
def k9 : Class := { plain "long" none with kind := .primitive 'J', accessFlags := 0x411 }
/-- [J -/
def k10 : Class := { plain "[J" (some 0) with kind := .array 9 .long, interfaces := #[3, 4], accessFlags := 1041 }

def heap : Heap := #[]
def classes : Array Class := #[k0, k1, k2, k3, k4, k5, k6, k7, k8, k9, k10]
def interned : List (Array UInt16 × Addr) := []
def slotsUsed : Nat := 0
def theMethod : MethodId := ⟨1, 1⟩
def args0 : Array Value := #[.long 10, .long 20, .int 2, .int 1, .int 3]
def aboutOver (below : List Frame) : State where
  vm := { classes := classes, interned := interned.toArray }
  heap := heap
  slotsUsed := slotsUsed
  threads := #[{ frames := .invoking theMethod args0 :: below }]
def below0 : List Frame := [.native { method := ⟨0, 0⟩, args := #[] }]
def about1 : State := aboutOver below0
def p0 : Program := .bare "" "" ""
def e0 : Env := launch0.env 0 0 0
theorem w_frames : about1.frames = Frame.invoking theMethod args0 :: below0 := rfl
set_option maxRecDepth 65536 in
theorem w_args : argsFit about1.vm theMethod args0 = true := by decide +kernel
set_option maxRecDepth 65536 in
theorem w_heap : heapFits about1 = true := by decide +kernel
set_option maxRecDepth 65536 in
theorem w_runnable : about1.curStatus? = some .runnable := by decide +kernel
set_option maxRecDepth 65536 in
theorem w_alone : about1.alone = true := by decide +kernel
set_option maxRecDepth 65536 in
theorem w_named : about1.methodNamed? x = some theMethod := by decide +kernel
set_option maxRecDepth 65536 in
theorem w_hears : about1.hears theMethod below0 = true := by decide +kernel
set_option maxRecDepth 65536 in
theorem w_ripe : about1.ripe theMethod args0 below0 = true := by decide +kernel
theorem w_running : about1.status = .running := rfl
set_option maxRecDepth 65536 in
theorem w_room : about1.hasRoom e0.platform room_1 = true :=
  launch0.hasRoom_least _ room_1 (by decide +kernel) (by decide +kernel) (by decide +kernel) (by decide +kernel) (by decide +kernel) (by decide +kernel)
theorem allAtoms_all (ts : List Jvm.Cond) (a : Array Jvm.Value) (st : Jvm.State) : (allAtoms ts).before a st = ts.all (fun c => c.before a st) := by
  induction ts with
  | nil => rfl
  | cons c t ih =>
    show (Jvm.Cond.and c (allAtoms t)).before a st = _
    rw [Jvm.Cond.before_and, ih, List.all_cons]
def words1 : List Jvm.Cond := Jvm.Cond.code x code maxLocals ret :: tables_1
/-- a 'code' word, met by the world's own term for the bytes: nothing is compared byte by byte -/
theorem code_word {y : MethodName} {bytes : ByteArray} {mx : Nat} {rt : Option FieldType} {a : Array Value} {s : State} {m : MethodId} {meth : Method} {c : Code} (h1 : s.methodNamed? y = some m) (h2 : s.vm.method? m = some meth) (h3 : meth.code = some c) (h4 : c.code = bytes)
    (h5 : (c.maxLocals == mx && c.exceptionTable.isEmpty && decide (c.maxStack ≤ mostOperands) && decide (meth.sig.returnType = rt) && !meth.locks && decide (parseMethodDescriptor y.desc = some meth.sig)) = true) : (Jvm.Cond.code y bytes mx rt).before a s = true := by
  simp only [Bool.and_eq_true, beq_iff_eq, Bool.not_eq_true', decide_eq_true_eq] at h5
  obtain ⟨⟨⟨⟨⟨g1, g2⟩, g3⟩, g4⟩, g5⟩, g6⟩ := h5
  simp [Cond.before, Cond.holds, Cond.value, h1, h2, h3, h4, g1, g2, g3, g4, g5, g6]
def isCode : Jvm.Cond → Bool
  | .code _ _ _ _ => true
  | _ => false
theorem all_split {L : List Jvm.Cond} {P : Jvm.Cond → Bool} (h1 : L.all (fun c => isCode c || P c) = true) (h2 : ∀ c ∈ L.filter isCode, P c = true) : L.all P = true := by
  refine List.all_eq_true.mpr fun c hc => ?_
  have h := List.all_eq_true.mp h1 c hc
  rcases Bool.eq_false_or_eq_true (isCode c) with hi | hi
  · exact h2 c (List.mem_filter.mpr ⟨hc, hi⟩)
  · simpa [hi] using h
set_option maxRecDepth 65536 in
theorem w_c0 : (Jvm.Cond.code x code maxLocals ret).before args0 about1 = true := code_word (m := ⟨1, 1⟩) (meth := k1m1) (c := k1c1) (by decide +kernel) rfl rfl rfl (by decide +kernel)
set_option maxRecDepth 65536 in
theorem w_c1 : (Jvm.Cond.code ({ cls := "com/example/tiercast/tiercast/protocol/DescriptorsCopyOnePinLaw", name := "fill", desc := "([JJ)V" } : Jvm.MethodName) method_3_code (3 : Nat) (Option.none : Option Jvm.ClassFile.FieldType)).before args0 about1 = true := code_word (m := ⟨1, 2⟩) (meth := k1m2) (c := k1c2) (by decide +kernel) rfl rfl rfl (by decide +kernel)
set_option maxRecDepth 65536 in
theorem w_c2 : (Jvm.Cond.code ({ cls := "com/example/tiercast/tiercast/protocol/Descriptors", name := "copyOne", desc := "([JI[JII)V" } : Jvm.MethodName) prog_65_method_27_code (8 : Nat) (Option.none : Option Jvm.ClassFile.FieldType)).before args0 about1 = true := code_word (m := ⟨2, 0⟩) (meth := k2m0) (c := k2c0) (by decide +kernel) rfl rfl rfl (by decide +kernel)
set_option maxRecDepth 65536 in
theorem w_c3 : (Jvm.Cond.code ({ cls := "com/example/tiercast/tiercast/protocol/DescriptorsCopyOnePinLaw", name := "same", desc := "([JJ)Z" } : Jvm.MethodName) method_4_code (3 : Nat) (Option.some Jvm.ClassFile.FieldType.boolean)).before args0 about1 = true := code_word (m := ⟨1, 3⟩) (meth := k1m3) (c := k1c3) (by decide +kernel) rfl rfl rfl (by decide +kernel)
set_option maxRecDepth 65536 in
theorem w_c4 : (Jvm.Cond.code ({ cls := "com/example/tiercast/tiercast/protocol/DescriptorsCopyOnePinLaw", name := "cell", desc := "([JIJJIII)Z" } : Jvm.MethodName) method_5_code (11 : Nat) (Option.some Jvm.ClassFile.FieldType.boolean)).before args0 about1 = true := code_word (m := ⟨1, 4⟩) (meth := k1m4) (c := k1c4) (by decide +kernel) rfl rfl rfl (by decide +kernel)
def codes1 : List Jvm.Cond := [Jvm.Cond.code x code maxLocals ret, Jvm.Cond.code ({ cls := "com/example/tiercast/tiercast/protocol/DescriptorsCopyOnePinLaw", name := "fill", desc := "([JJ)V" } : Jvm.MethodName) method_3_code (3 : Nat) (Option.none : Option Jvm.ClassFile.FieldType), Jvm.Cond.code ({ cls := "com/example/tiercast/tiercast/protocol/Descriptors", name := "copyOne", desc := "([JI[JII)V" } : Jvm.MethodName) prog_65_method_27_code (8 : Nat) (Option.none : Option Jvm.ClassFile.FieldType), Jvm.Cond.code ({ cls := "com/example/tiercast/tiercast/protocol/DescriptorsCopyOnePinLaw", name := "same", desc := "([JJ)Z" } : Jvm.MethodName) method_4_code (3 : Nat) (Option.some Jvm.ClassFile.FieldType.boolean), Jvm.Cond.code ({ cls := "com/example/tiercast/tiercast/protocol/DescriptorsCopyOnePinLaw", name := "cell", desc := "([JIJJIII)Z" } : Jvm.MethodName) method_5_code (11 : Nat) (Option.some Jvm.ClassFile.FieldType.boolean)]
set_option maxRecDepth 65536 in
theorem codes_eq : words1.filter isCode = codes1 := rfl
theorem w_codes : ∀ c ∈ words1.filter isCode, c.before args0 about1 = true := by
  rw [codes_eq]
  intro c hc
  simp only [codes1, List.mem_cons, List.not_mem_nil, or_false] at hc
  rcases hc with rfl | rfl | rfl | rfl | rfl
  · exact w_c0
  · exact w_c1
  · exact w_c2
  · exact w_c3
  · exact w_c4
set_option maxRecDepth 65536 in
theorem w_t1 : words1.all (fun c => isCode c || c.before args0 about1) = true := by decide +kernel
theorem w_tables : (allAtoms (Jvm.Cond.code x code maxLocals ret :: tables_1)).before args0 about1 = true := by
  rw [allAtoms_all]
  show words1.all (fun c => c.before args0 about1) = true
  refine all_split ?_ w_codes
  rw [w_t1]
set_option maxRecDepth 65536 in
theorem w_case : (Jvm.Cond.and given_1 narrow_1).before args0 about1 = true := by decide +kernel
theorem w_applies : (headSpec (Jvm.Cond.code x code maxLocals ret :: tables_1) room_1).applies x e0.platform about1 = true :=
  (Spec.applies_iff w_frames).mpr ⟨w_running, w_runnable, w_alone, w_named, w_hears, w_ripe, w_room, w_tables⟩
theorem atStart : AtStart classFile x code maxLocals ret World_1 tables_1 room_1 Calls_1 rest_1 Pre_1 launch0 p0 e0 about1 theMethod args0 below0 :=
  ⟨lists_1, trivial, launch0.admits_env _ _ _, launch0.least_env, fairChoices_fair.cas, fairChoices_fair.clock, w_frames, w_args, w_heap, w_applies, trivial, trivial, w_case⟩
end start1
theorem witness_1 : WitnessClaimed_1 := ⟨start1.p0, start1.e0, start1.about1, start1.theMethod, start1.args0, start1.below0, start1.atStart⟩
end Jvm.Pilot.@@N@@
