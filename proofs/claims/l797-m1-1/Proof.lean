import JvmDerived
import JvmDerived.Pilot.@@N@@Statement
import JvmDerived.Pilot.@@N@@Code
set_option linter.unusedVariables false
set_option linter.unusedSimpArgs false
namespace Jvm.RoadKit
open Sem ClassFile Op Lib Jvm.Stand Jvm.Free Jvm.LawKit
section New
variable {p : Program} {l : Launch} {e : Env} {R : Room} {s : State} {m : MethodId} {args : Array Value} {below : List Frame} {meth : Method} {c : Code} {T : State} {locs : List Loc} {cells slots : Nat}
theorem retI (X : Stand p l e R s m args below meth c T locs cells slots) (hx : p.tables.exec = Jvm.exec) {pc : Nat} {Ls : Array Slot} {z : Int32} {rest : List Value} (hret : meth.sig.returnType = some .int) (hd : decode c.code pc = .ok (.ireturn, 1)) {fs : List Frame}
    (hl : ∀ (f : JFrame) (acts : List Action), f.method = m → f.locked = none → f.entered = [] → (doReturn e (T.setTop f) acts (some (.int z))).1 = T.setFrames fs) : Steps p.tables e below (T.setTop (mkF m pc Ls (.int z :: rest))) (T.setFrames fs) := by
  have hm' : T.vm.method? m = some meth := X.method'
  have hn : narrow .int (.int z) = .int z := rfl
  show Steps p.tables e below (T.setTop { method := m, pc := pc, locals := Ls, stack := _ :: rest, locked := none }) _
  jvm_step X.here [X.here.top, hx, hd, hm', hret, hn]
  first | (intro acts; rw [hl _ acts rfl rfl rfl]) | rw [hl _ _ rfl rfl rfl]
  exact Steps.refl _
end New
end Jvm.RoadKit
namespace Jvm.Pilot.@@N@@
open Jvm Jvm.ClassFile Sem Op Lib Jvm.Free Jvm.Stand Jvm.LawKit Jvm.RoadKit Bundle Jvm.Pilot.@@N@@.Jvm.D
abbrev own_K (p : Program) (e : Env) (below : List Frame) (m : MethodId) (T : State) (pc : Nat) (L : Array Slot) (S : List Value) (t : State) : Prop := Steps p.tables e below (T.setTop (mkF m pc L S)) t
abbrev lv (x : Int64) : Slot := .val (.long x)
section OwnLib
variable {p : Program} {l : Launch} {e : Env} {R : Room} {s : State} {m : MethodId} {args : Array Value} {below : List Frame} {meth : Method} {c : Code} {T : State} {locs : List Loc} {cells slots : Nat} {Z : State} {h : Heap} {a : Addr} {k : ClassId} {ty : FieldType} {n j : Int32} {vs : List Value} {dv v : Value}
theorem own_aal (X : Stand p l e R s m args below meth c T locs cells slots) (hx : p.tables.exec = Jvm.exec) (hZ : Z.Warmed39 s.vm) (eT : T.heap = h) (V : Arv Z h a k ty n vs dv) (hty : ty.isReference = true) (hj : ¬ j < 0 ∧ j < n) (hv : vs.getD j.toNatClampNeg dv = v) {g : JFrame} (hg : g.method = m) {rest : List Value} (hs : g.stack = .int j :: .ref a :: rest) (hd : decode c.code g.pc = .ok (.aaload, 1)) (target : State)
    (hr : Steps p.tables e below (T.setTop { g with pc := g.pc + 1, stack := v :: rest }) target) : Steps p.tables e below (T.setTop g) target := by
  obtain ⟨cl, Ar, -, S, -, H, -⟩ := V
  have hin := inb_of S hj
  exact X.aaload hx (by rw [eT]; exact Ar.1) (State.isArrayOf_alike hZ.alike Ar.2.1) hty Ar.2.2 hin (H.at hin hv) hg hs hd target hr
end OwnLib

def own_refs (n : Nat) (f : Nat → Addr) : List Value := (List.range n).map (fun i => .ref (f i))
theorem own_refs_get (n : Nat) (f : Nat → Addr) (k : Nat) (h : k < n) (d : Value) : (own_refs n f).getD k d = .ref (f k) := by
  simp [own_refs, h]
theorem own_start {Z : State} {a : Addr} {cl : Cell} {ty : FieldType} {n : Int32} {N : Nat} {f : Nat → Addr} (A : Arr Z Z.heap a cl ty) (q : cl.slots.size = N) (hn : n.toNatClampNeg = N) (hnn : ¬ n < 0) (hty : ∀ x, fits ty (.ref x) = true) (sm : ∀ i, i < N → cl.slots[i]? = some (.ref (f i))) :
    Arv Z Z.heap a cl.cls ty n (own_refs N f) .null :=
  ⟨cl, A, rfl, q.trans hn.symm, hnn, fun k hk => by rw [own_refs_get N f k (q ▸ hk)]; exact sm k (q ▸ hk), fun i hi => by rw [own_refs_get N f i (q ▸ hi)]; exact hty _⟩
theorem own_size {s : State} {args : Array Value} {t : Term} {a : Addr} {cl : Cell} {ty : FieldType} {n : Int32} {N : Nat} (ev : t.eval args s none [] s = some (.ref a)) (A : Arr s s.heap a cl ty) (h : (Jvm.Cond.eq (Term.length t) (Term.int n)).value args s none s [] = some true) (hn : n.toNatClampNeg = N) : cl.slots.size = N := by
  have h1 := eqv_i (Term.int_eval n) h
  have h2 : s.arrayAt? a = some cl := A.fin (Vm.Alike.refl _)
  by_cases hs : cl.slots.size < 2 ^ 31
  · rw [len_f ev h2 hs] at h1
    have h3 : cl.slots.size.toInt32 = n := by cases h1; rfl
    rw [← hn, ← h3]
    simp only [Int32.toNatClampNeg, len_toInt hs]
    rfl
  · have hs' : ¬ cl.slots.size < 2147483648 := hs
    simp only [Term.eval, ev] at h1
    simp [h2, hs'] at h1
theorem own_elem {s : State} {args : Array Value} {t : Term} {a : Addr} {cl : Cell} {ty : FieldType} {C D n d : String} {j : Int32} {v : Int32} (ev : t.eval args s none [] s = some (.ref a)) (A : Arr s s.heap a cl ty) (h : (Jvm.Cond.exactly (Term.elem t (Term.int j)) C).value args s none s [] = some true)
    (hf : (Jvm.Cond.eq (Term.field (Term.elem t (Term.int j)) D n d) (Term.int v)).value args s none s [] = some true) :
    ∃ m : Addr, cl.slots[j.toNatClampNeg]? = some (.ref m) ∧ Exa s s.heap m C ∧ Fld s s.heap m D n d (.int v) := by
  obtain ⟨m, em⟩ := exa_v h
  have h1 := eqv_i (Term.int_eval v) hf
  exact ⟨m, (elem_in em ev (Term.int_eval j) A.1).2, Exa.start em h, Fld.start ((fld_at em).symm.trans h1)⟩
theorem own_all {Z : State} {args : Array Value} {t : Term} {a : Addr} {c : Cell} {K : String} {G : Jvm.Cond} (et : ∀ idx, t.eval args Z none idx Z = some (.ref a)) (A : Arr Z Z.heap a c (.object K)) (q : c.slots.size = 256)
    (h : (Jvm.Cond.all t (.and (.exactly (.elem t (.index 0)) K) G)).value args Z none Z [] = some true) :
    ∃ cc : Nat → Addr, (∀ i, i < 256 → c.slots[i]? = some (.ref (cc i))) ∧ ∀ i, i < 256 → Exa Z Z.heap (cc i) K := by
  have H : ∀ i : Nat, ∃ b : Addr, i < 256 → (c.slots[i]? = some (.ref b) ∧ Exa Z Z.heap b K) := by
    intro i
    by_cases hi : i < 256
    · have hn : (Int32.ofNat i).toNatClampNeg = i := Int32.toNatClampNeg_ofNat_of_lt (by omega)
      have nn : ¬ (Int32.ofNat i) < 0 := by
        have e : (Int32.ofNat i).toInt = i := Int32.toInt_ofNat_small (by omega)
        have e0 : (0 : Int32).toInt = 0 := by decide
        rw [Int32.lt_iff_toInt_lt, e, e0]
        omega
      have u := Cond.all_elim (et []) (A.fin (Vm.Alike.refl _)) h i (by omega)
      rw [← hn] at u
      obtain ⟨u1, u2⟩ := and_e u
      obtain ⟨box, eb⟩ := exa_v u1
      refine ⟨box, fun _ => ⟨?_, exa_at eb u1⟩⟩
      have := (elem_f (et _) (idx_at nn) (A.fin (Vm.Alike.refl _)) nn).symm.trans eb
      rw [hn] at this
      exact this
    · exact ⟨0, fun q => absurd q hi⟩
  obtain ⟨cc, hcc⟩ := Classical.axiomOfChoice H
  exact ⟨cc, fun i hi => (hcc i hi).1, fun i hi => (hcc i hi).2⟩
theorem own_no {Z : State} {a0 : Array Value} {I N O K : String} {k : Nat} (w1 : (Jvm.Cond.superclass I N).before a0 Z = true) (w2 : (Jvm.Cond.superclass N O).before a0 Z = true) (w3 : (Jvm.Cond.noSuperclass O).before a0 Z = true) (wk : (Jvm.Cond.instantiable K k).before a0 Z = true) (n1 : I ≠ K) (n2 : N ≠ K) (n3 : O ≠ K) :
    ∃ c t, Z.vm.findClass I = some c ∧ Z.vm.findClass K = some t ∧ Z.vm.assignable c t = false := by
  obtain ⟨t, kt, g1, g2, g3, g4, -⟩ := Cond.instantiable_spec wk
  have R : NS Z O K := by
    obtain ⟨c, kc, h1, h2, h3, -, -⟩ := Cond.noSuperclass_spec w3
    have ne := ids_ne h1 g1 n3
    refine ⟨c, t, h1, g1, fun fuel => ?_⟩
    cases fuel with
    | zero => rfl
    | succ f => simp [Vm.isSubclassAux, ne, h2, h3]
  obtain ⟨c, t', h0, g0, n4⟩ := NS.step w1 (NS.step w2 R n2) n1
  cases g1.symm.trans g0
  obtain ⟨p, kc, kp, h1, h2, h3, h4, h5, -, h7⟩ := Cond.superclass_spec h0 w1
  have ne := ids_ne h0 g0 n1
  have hi : kt.isInterface = false := by
    cases hq : kt.isInterface
    · rfl
    · simp [hq] at g4
  refine ⟨c, t, h0, g1, ?_⟩
  show Z.vm.assignableAux (255 + 1) c t = false
  simp [Vm.assignableAux, ne, h2, g2, h5, g3, hi, Vm.isSubclass, n4]
def own_ml (x : Int32) : Int32 := if x = (2 : Int32) then (29 : Int32) else (if x = (4 : Int32) then (30 : Int32) else (if x = (6 : Int32) then (30 : Int32) else (if x = (9 : Int32) then (30 : Int32) else (if x = (11 : Int32) then (30 : Int32) else (31 : Int32)))))
def own_mlen (x : Int32) : Int32 := if x = (1 : Int32) then (29 : Int32) else (if x = (2 : Int32) then (31 : Int32) else (if x = (3 : Int32) then (30 : Int32) else (if x = (4 : Int32) then (31 : Int32) else (if x = (5 : Int32) then (30 : Int32) else (if x = (6 : Int32) then (31 : Int32) else (if x = (7 : Int32) then (31 : Int32) else (if x = (8 : Int32) then (30 : Int32) else (if x = (9 : Int32) then (31 : Int32) else (if x = (10 : Int32) then (30 : Int32) else (31 : Int32))))))))))
theorem own_toInt {n : Nat} (h : n < 2 ^ 31) : (Int32.ofNat n).toInt = n := Int32.toInt_ofNat_small h
theorem own_m1 {x : Int32} {n : Nat} (hx : x = Int32.ofNat (n + 1)) (h : n < 12) : ¬ x < (1 : Int32) := by
  have e : (1 : Int32).toInt = 1 := by decide
  rw [hx, Int32.lt_iff_toInt_lt, own_toInt (by omega), e]
  omega
theorem own_m12 {x : Int32} {n : Nat} (hx : x = Int32.ofNat (n + 1)) (h : n < 12) : ¬ (12 : Int32) < x := by
  have e : (12 : Int32).toInt = 12 := by decide
  rw [hx, Int32.lt_iff_toInt_lt, own_toInt (by omega), e]
  omega
theorem own_sub1 {x : Int32} {n : Nat} (hx : x = Int32.ofNat (n + 1)) (h : n < 12) : x - (1 : Int32) = Int32.ofNat n := by
  apply Int32.toInt_inj.mp
  have c := c_isub x 1
  have r := rng32 (x - 1)
  have e : (1 : Int32).toInt = 1 := by decide
  have ex : x.toInt = ((n + 1 : Nat) : Int) := by rw [hx]; exact own_toInt (by omega)
  rw [own_toInt (by omega)]
  omega
theorem own_idx {x : Int32} {k : Nat} {z : Int32} {N : Nat} (hx : x = Int32.ofNat k) (h : k < N) (hN : N < 2 ^ 31) (hz : z.toInt = N) : ¬ x < (0 : Int32) ∧ x < z := by
  have e0 : (0 : Int32).toInt = 0 := by decide
  rw [hx, Int32.lt_iff_toInt_lt, Int32.lt_iff_toInt_lt, own_toInt (by omega), e0, hz]
  omega
theorem own_clamp {x : Int32} {k : Nat} (hx : x = Int32.ofNat k) (h : k < 2 ^ 31) : x.toNatClampNeg = k := by rw [hx]; exact Int32.toNatClampNeg_ofNat_of_lt h
theorem own_mi {x : Int32} {n : Nat} (hx : x = Int32.ofNat (n + 1)) (h : n < 12) : ¬ (x - (1 : Int32)) < (0 : Int32) ∧ (x - (1 : Int32)) < (12 : Int32) := own_idx (own_sub1 hx h) h (by decide) (by decide)
theorem own_mg {x : Int32} {n : Nat} {f : Nat → Addr} {d : Value} (hx : x = Int32.ofNat (n + 1)) (h : n < 12) : (own_refs 12 f).getD (x - (1 : Int32)).toNatClampNeg d = .ref (f n) := by
  rw [own_clamp (own_sub1 hx h) (by omega)]
  exact own_refs_get 12 f n h d
theorem own_c256 (x : Int32) (h1 : ¬ x < (-128 : Int32)) (h2 : ¬ (127 : Int32) < x) : ∃ j : Nat, j < 256 ∧ x + (128 : Int32) = Int32.ofNat j := by
  have e1 : (-128 : Int32).toInt = -128 := by decide
  have e2 : (127 : Int32).toInt = 127 := by decide
  have e3 : (128 : Int32).toInt = 128 := by decide
  rw [Int32.lt_iff_toInt_lt, e1] at h1
  rw [Int32.lt_iff_toInt_lt, e2] at h2
  have c := c_iadd x 128
  have r := rng32 (x + 128)
  refine ⟨(x.toInt + 128).toNat, by omega, Int32.toInt_inj.mp ?_⟩
  rw [own_toInt (by omega)]
  omega
theorem own_ci {x : Int32} {j : Nat} (hx : x = Int32.ofNat j) (h : j < 256) : ¬ x < (0 : Int32) ∧ x < (256 : Int32) := own_idx hx h (by decide) (by decide)
theorem own_cg {x : Int32} {j : Nat} {f : Nat → Addr} {d : Value} (hx : x = Int32.ofNat j) (h : j < 256) : (own_refs 256 f).getD x.toNatClampNeg d = .ref (f j) := by
  rw [own_clamp hx (by omega)]
  exact own_refs_get 256 f j h d
theorem own_mask (x : Int32) : 0 ≤ (x &&& (2147483647 : Int32)).toInt := (c_and x 2147483647 (by decide)).1
theorem own_rem1 {x m : Int32} {n : Nat} (hx : 0 ≤ x.toInt) (hm : m.toInt = n) (h0 : 0 < n) (h1 : n ≤ 31) : 1 ≤ (x % m + (1 : Int32)).toInt ∧ (x % m + (1 : Int32)).toInt ≤ n := by
  have h2 := (c_irem x m n hm).1 hx
  have h3 := Int.emod_nonneg x.toInt (show (n : Int) ≠ 0 by omega)
  have h4 := Int.emod_lt_of_pos x.toInt (show (0 : Int) < n by omega)
  have c := c_iadd (x % m) 1
  have r := rng32 (x % m + 1)
  have e : (1 : Int32).toInt = 1 := by decide
  omega
theorem own_month' (x : Int32) : ∃ n : Nat, n < 12 ∧ (x &&& (2147483647 : Int32)) % (12 : Int32) + (1 : Int32) = Int32.ofNat (n + 1) := by
  have h := own_rem1 (own_mask x) (m := 12) (n := 12) (by decide) (by decide) (by decide)
  refine ⟨(((x &&& (2147483647 : Int32)) % (12 : Int32) + (1 : Int32)).toInt - 1).toNat, by omega, Int32.toInt_inj.mp ?_⟩
  rw [own_toInt (by omega)]
  omega
theorem own_month (x m : Int32) (h : m = (x &&& (2147483647 : Int32)) % (12 : Int32) + (1 : Int32)) : ∃ n : Nat, n < 12 ∧ m = Int32.ofNat (n + 1) := by
  obtain ⟨n, h1, h2⟩ := own_month' x
  exact ⟨n, h1, h.trans h2⟩
theorem own_mls (n : Nat) (h : n < 12) : ∃ k : Nat, own_ml (Int32.ofNat (n + 1)) = Int32.ofNat k ∧ own_mlen (Int32.ofNat n) = Int32.ofNat k ∧ 0 < k ∧ k ≤ 31 := by
  match n, h with
  | 0, _ => exact ⟨31, by decide, by decide, by decide, by decide⟩
  | 1, _ => exact ⟨29, by decide, by decide, by decide, by decide⟩
  | 2, _ => exact ⟨31, by decide, by decide, by decide, by decide⟩
  | 3, _ => exact ⟨30, by decide, by decide, by decide, by decide⟩
  | 4, _ => exact ⟨31, by decide, by decide, by decide, by decide⟩
  | 5, _ => exact ⟨30, by decide, by decide, by decide, by decide⟩
  | 6, _ => exact ⟨31, by decide, by decide, by decide, by decide⟩
  | 7, _ => exact ⟨31, by decide, by decide, by decide, by decide⟩
  | 8, _ => exact ⟨30, by decide, by decide, by decide, by decide⟩
  | 9, _ => exact ⟨31, by decide, by decide, by decide, by decide⟩
  | 10, _ => exact ⟨30, by decide, by decide, by decide, by decide⟩
  | 11, _ => exact ⟨31, by decide, by decide, by decide, by decide⟩
theorem own_mlnz {m : Int32} {n : Nat} (hm : m = Int32.ofNat (n + 1)) (h : n < 12) : own_ml m ≠ 0 := by
  obtain ⟨k, h1, -, h3, h4⟩ := own_mls n h
  rw [hm, h1]
  intro q
  have := congrArg Int32.toInt q
  rw [own_toInt (by omega)] at this
  have e : (0 : Int32).toInt = 0 := by decide
  omega
theorem own_day {x m d : Int32} {n : Nat} (hx : 0 ≤ x.toInt) (hm : m = Int32.ofNat (n + 1)) (h : n < 12) (hd : d = x % (own_ml m) + (1 : Int32)) : ¬ d < (1 : Int32) ∧ ¬ (own_mlen (Int32.ofNat n)) < d := by
  obtain ⟨k, h1, h2, h3, h4⟩ := own_mls n h
  have e : (1 : Int32).toInt = 1 := by decide
  have hk : (own_ml m).toInt = k := by rw [hm, h1]; exact own_toInt (by omega)
  have q := own_rem1 hx hk h3 h4
  rw [← hd] at q
  rw [h2, Int32.lt_iff_toInt_lt, Int32.lt_iff_toInt_lt, e, own_toInt (by omega)]
  omega
theorem own_dm1 {d : Int32} (h : ¬ d < (1 : Int32)) : 0 ≤ (d - (1 : Int32)).toInt := by
  have e : (1 : Int32).toInt = 1 := by decide
  rw [Int32.lt_iff_toInt_lt, e] at h
  have c := c_isub d 1
  have r := rng32 d
  have r' := rng32 (d - 1)
  omega
theorem own_sym {a b c d : Int32} : (if a = b then (if c = d then (1 : Int32) else (0 : Int32)) else (0 : Int32)) = (if b = a then (if d = c then (1 : Int32) else (0 : Int32)) else (0 : Int32)) := by
  by_cases h1 : a = b
  · by_cases h2 : c = d
    · rw [if_pos h1, if_pos h2, if_pos h1.symm, if_pos h2.symm]
    · rw [if_pos h1, if_neg h2, if_pos h1.symm, if_neg (Ne.symm h2)]
  · rw [if_neg h1, if_neg (Ne.symm h1)]
theorem d1_0 : decode method_2_code 0 = .ok (.iload_n 0, 1) := by decide +kernel
theorem d1_1 : decode method_2_code 1 = .ok (.iconst 2, 1) := by decide +kernel
theorem d1_2 : decode method_2_code 2 = .ok (.if_icmp .ne 6, 3) := by decide +kernel
theorem d1_5 : decode method_2_code 5 = .ok (.bipush 29, 2) := by decide +kernel
theorem d1_7 : decode method_2_code 7 = .ok (.ireturn, 1) := by decide +kernel
theorem d1_8 : decode method_2_code 8 = .ok (.iload_n 0, 1) := by decide +kernel
theorem d1_9 : decode method_2_code 9 = .ok (.iconst 4, 1) := by decide +kernel
theorem d1_10 : decode method_2_code 10 = .ok (.if_icmp .eq 21, 3) := by decide +kernel
theorem d1_31 : decode method_2_code 31 = .ok (.bipush 30, 2) := by decide +kernel
theorem d1_33 : decode method_2_code 33 = .ok (.ireturn, 1) := by decide +kernel
theorem d1_13 : decode method_2_code 13 = .ok (.iload_n 0, 1) := by decide +kernel
theorem d1_14 : decode method_2_code 14 = .ok (.bipush 6, 2) := by decide +kernel
theorem d1_16 : decode method_2_code 16 = .ok (.if_icmp .eq 15, 3) := by decide +kernel
theorem d1_19 : decode method_2_code 19 = .ok (.iload_n 0, 1) := by decide +kernel
theorem d1_20 : decode method_2_code 20 = .ok (.bipush 9, 2) := by decide +kernel
theorem d1_22 : decode method_2_code 22 = .ok (.if_icmp .eq 9, 3) := by decide +kernel
theorem d1_25 : decode method_2_code 25 = .ok (.iload_n 0, 1) := by decide +kernel
theorem d1_26 : decode method_2_code 26 = .ok (.bipush 11, 2) := by decide +kernel
theorem d1_28 : decode method_2_code 28 = .ok (.if_icmp .ne 6, 3) := by decide +kernel
theorem d1_34 : decode method_2_code 34 = .ok (.bipush 31, 2) := by decide +kernel
theorem d1_36 : decode method_2_code 36 = .ok (.ireturn, 1) := by decide +kernel
theorem pn_0 : plainName "com/example/notewright/notewright/AnnualDayEqualsPinLaw" = true := by first | (simp [plainName, overriddenIn]; done) | decide +kernel
theorem ef_1 (m : MethodId) (x0 : Int32) : entryFrame m #[(.int x0)] 1 = mkF m 0 #[iv x0] [] := by first | (simp [entryFrame, mkF, argsToLocals, Value.category]; done) | rfl
def Q1 (Z : State) (xm : Int32) (h0 : Heap) (n0 : Nat) (rv_ : Option Value) (h_ : Heap) (L_ : List Loc) : Prop := rv_ = some (.int (own_ml xm)) ∧ Fr n0 L_ ∧ h_ = h0
set_option maxRecDepth 65536 in
set_option maxHeartbeats 40000000 in
theorem rm1 (l : Launch) (Z : State) (a0 : Array Value) (hw : ∀ d ∈ tables_1, d.before a0 Z = true) (ws : List Jvm.Cond) (xm : Int32) (h0 : Heap) (n0 : Nat) (Z0 : n0 ≤ h0.size) :
    MetFree l (⟨"com/example/notewright/notewright/AnnualDayEqualsPinLaw", "maxLen", "(I)I"⟩ : MethodName) (head1 (Jvm.Cond.code (⟨"com/example/notewright/notewright/AnnualDayEqualsPinLaw", "maxLen", "(I)I"⟩ : MethodName) method_2_code 1 (some .int) :: ws) ({ frames := 0, cells := 0, slots := 0, locals := 0 } : Room)) (fun a U => a = #[(.int xm)] ∧ Z.Warmed39 U.vm ∧ U.heap = h0) (fun _ _ _ _ _ => True) (fun _ U o U' => ∃ v L, o = .returned v ∧ Q1 Z xm h0 n0 v U'.heap L ∧ FrameEnd U o U' L ({ frames := 0, cells := 0, slots := 0, locals := 0 } : Room).cells ({ frames := 0, cells := 0, slots := 0, locals := 0 } : Room).slots) := by
  refine MetFree.of_bodySF (plainFor_of_name pn_0) hisR ?_
  intro p e s m args below meth c s₁ Bd hml0 hP hK
  obtain ⟨rfl, hZ, hh⟩ := hP
  have hx := Bd.exec
  have hby := Bd.bytes
  have hml : c.maxLocals = 1 := hml0
  have hown : s.vm.findClass "com/example/notewright/notewright/AnnualDayEqualsPinLaw" = some m.cls := findClass_of_methodNamed Bd.named
  have hnm := (name_of_methodNamed Bd.named Bd.method).1
  have X0 : Stand p l e ({ frames := 0, cells := 0, slots := 0, locals := 0 } : Room) s m #[(.int xm)] below meth c s₁ [] 0 0 := Stand.of_body Bd
  have e0 : s₁.heap = h0 := by rw [← hh, Bd.state]; rfl
  have N0 := Fr.nil n0
  obtain ⟨G, hG, pre0⟩ : ∃ G : State → Prop, (∀ t, G t → Steps p.tables e below (s₁.setTop (entryFrame m #[(.int xm)] 1)) t) ∧ ∀ t, own_K p e below m s₁ 0 #[iv xm] [] t → G t := ⟨fun t => Steps p.tables e below (s₁.setTop (entryFrame m #[(.int xm)] 1)) t, fun _ k => k, fun t k => castTop (ef_1 m xm) k⟩
  have pre1 : ∀ t, own_K p e below m s₁ 2 #[iv xm] [(.int (2 : Int32)), (.int xm)] t → G t := by
    intro t k
    refine pre0 t ?_
    show own_K p e below m s₁ 0 #[iv xm] [] _
    refine XS.iloadN X0.here hx rfl (hb hby d1_0) rfl ?_
    show own_K p e below m s₁ 1 #[iv xm] [(.int xm)] _
    refine XS.iconst X0.here hx rfl (hb hby d1_1) ?_
    exact k
  by_cases hc2_2 : xm = (2 : Int32)
  · have pre3 : ∀ t, own_K p e below m s₁ 7 #[iv xm] [(.int (29 : Int32))] t → G t := by
      intro t k
      refine pre1 t ?_
      show own_K p e below m s₁ 2 #[iv xm] [(.int (2 : Int32)), (.int xm)] _
      refine XS.icmpNo X0.here hx rfl (hb hby d1_2) rfl (teq hc2_2).2 ?_
      show own_K p e below m s₁ 5 #[iv xm] [] _
      refine XS.bipush X0.here hx rfl (hb hby d1_5) ?_
      exact k
    obtain ⟨fs, hr, hrun, hended, hW, hsame⟩ := X0.leave (v := some (.int (29 : Int32))) (fun h => by rw [Bd.returns] at h; cases h)
    refine ⟨_, _, hG _ (pre3 _ ?_), hrun, hended, _, _, rfl, ?_, ⟨_, rfl⟩, hW, hsame.mono (by decide) (by decide)⟩
    · show own_K p e below m s₁ 7 #[iv xm] [(.int (29 : Int32))] _
      exact retI X0 hx Bd.returns (hb hby d1_7) hr
    · show Q1 Z xm h0 n0 _ s₁.heap _
      rw [e0]
      exact ⟨(by simp only [own_ml, if_pos hc2_2]), N0, rfl⟩
  · have pre4 : ∀ t, own_K p e below m s₁ 10 #[iv xm] [(.int (4 : Int32)), (.int xm)] t → G t := by
      intro t k
      refine pre1 t ?_
      show own_K p e below m s₁ 2 #[iv xm] [(.int (2 : Int32)), (.int xm)] _
      refine XS.icmpYes X0.here hx rfl (pc0 := 2) (pc' := 8) rfl (hb hby d1_2) rfl (feq hc2_2).2 (by decide) (by decide) ?_
      show own_K p e below m s₁ 8 #[iv xm] [] _
      refine XS.iloadN X0.here hx rfl (hb hby d1_8) rfl ?_
      show own_K p e below m s₁ 9 #[iv xm] [(.int xm)] _
      refine XS.iconst X0.here hx rfl (hb hby d1_9) ?_
      exact k
    by_cases hc10_5 : xm = (4 : Int32)
    · have pre6 : ∀ t, own_K p e below m s₁ 33 #[iv xm] [(.int (30 : Int32))] t → G t := by
        intro t k
        refine pre4 t ?_
        show own_K p e below m s₁ 10 #[iv xm] [(.int (4 : Int32)), (.int xm)] _
        refine XS.icmpYes X0.here hx rfl (pc0 := 10) (pc' := 31) rfl (hb hby d1_10) rfl (teq hc10_5).1 (by decide) (by decide) ?_
        show own_K p e below m s₁ 31 #[iv xm] [] _
        refine XS.bipush X0.here hx rfl (hb hby d1_31) ?_
        exact k
      obtain ⟨fs, hr, hrun, hended, hW, hsame⟩ := X0.leave (v := some (.int (30 : Int32))) (fun h => by rw [Bd.returns] at h; cases h)
      refine ⟨_, _, hG _ (pre6 _ ?_), hrun, hended, _, _, rfl, ?_, ⟨_, rfl⟩, hW, hsame.mono (by decide) (by decide)⟩
      · show own_K p e below m s₁ 33 #[iv xm] [(.int (30 : Int32))] _
        exact retI X0 hx Bd.returns (hb hby d1_33) hr
      · show Q1 Z xm h0 n0 _ s₁.heap _
        rw [e0]
        exact ⟨(by simp only [own_ml, if_neg hc2_2, if_pos hc10_5]), N0, rfl⟩
    · have pre7 : ∀ t, own_K p e below m s₁ 16 #[iv xm] [(.int (6 : Int32)), (.int xm)] t → G t := by
        intro t k
        refine pre4 t ?_
        show own_K p e below m s₁ 10 #[iv xm] [(.int (4 : Int32)), (.int xm)] _
        refine XS.icmpNo X0.here hx rfl (hb hby d1_10) rfl (feq hc10_5).1 ?_
        show own_K p e below m s₁ 13 #[iv xm] [] _
        refine XS.iloadN X0.here hx rfl (hb hby d1_13) rfl ?_
        show own_K p e below m s₁ 14 #[iv xm] [(.int xm)] _
        refine XS.bipush X0.here hx rfl (hb hby d1_14) ?_
        exact k
      by_cases hc16_8 : xm = (6 : Int32)
      · have pre9 : ∀ t, own_K p e below m s₁ 33 #[iv xm] [(.int (30 : Int32))] t → G t := by
          intro t k
          refine pre7 t ?_
          show own_K p e below m s₁ 16 #[iv xm] [(.int (6 : Int32)), (.int xm)] _
          refine XS.icmpYes X0.here hx rfl (pc0 := 16) (pc' := 31) rfl (hb hby d1_16) rfl (teq hc16_8).1 (by decide) (by decide) ?_
          show own_K p e below m s₁ 31 #[iv xm] [] _
          refine XS.bipush X0.here hx rfl (hb hby d1_31) ?_
          exact k
        obtain ⟨fs, hr, hrun, hended, hW, hsame⟩ := X0.leave (v := some (.int (30 : Int32))) (fun h => by rw [Bd.returns] at h; cases h)
        refine ⟨_, _, hG _ (pre9 _ ?_), hrun, hended, _, _, rfl, ?_, ⟨_, rfl⟩, hW, hsame.mono (by decide) (by decide)⟩
        · show own_K p e below m s₁ 33 #[iv xm] [(.int (30 : Int32))] _
          exact retI X0 hx Bd.returns (hb hby d1_33) hr
        · show Q1 Z xm h0 n0 _ s₁.heap _
          rw [e0]
          exact ⟨(by simp only [own_ml, if_neg hc2_2, if_neg hc10_5, if_pos hc16_8]), N0, rfl⟩
      · have pre10 : ∀ t, own_K p e below m s₁ 22 #[iv xm] [(.int (9 : Int32)), (.int xm)] t → G t := by
          intro t k
          refine pre7 t ?_
          show own_K p e below m s₁ 16 #[iv xm] [(.int (6 : Int32)), (.int xm)] _
          refine XS.icmpNo X0.here hx rfl (hb hby d1_16) rfl (feq hc16_8).1 ?_
          show own_K p e below m s₁ 19 #[iv xm] [] _
          refine XS.iloadN X0.here hx rfl (hb hby d1_19) rfl ?_
          show own_K p e below m s₁ 20 #[iv xm] [(.int xm)] _
          refine XS.bipush X0.here hx rfl (hb hby d1_20) ?_
          exact k
        by_cases hc22_11 : xm = (9 : Int32)
        · have pre12 : ∀ t, own_K p e below m s₁ 33 #[iv xm] [(.int (30 : Int32))] t → G t := by
            intro t k
            refine pre10 t ?_
            show own_K p e below m s₁ 22 #[iv xm] [(.int (9 : Int32)), (.int xm)] _
            refine XS.icmpYes X0.here hx rfl (pc0 := 22) (pc' := 31) rfl (hb hby d1_22) rfl (teq hc22_11).1 (by decide) (by decide) ?_
            show own_K p e below m s₁ 31 #[iv xm] [] _
            refine XS.bipush X0.here hx rfl (hb hby d1_31) ?_
            exact k
          obtain ⟨fs, hr, hrun, hended, hW, hsame⟩ := X0.leave (v := some (.int (30 : Int32))) (fun h => by rw [Bd.returns] at h; cases h)
          refine ⟨_, _, hG _ (pre12 _ ?_), hrun, hended, _, _, rfl, ?_, ⟨_, rfl⟩, hW, hsame.mono (by decide) (by decide)⟩
          · show own_K p e below m s₁ 33 #[iv xm] [(.int (30 : Int32))] _
            exact retI X0 hx Bd.returns (hb hby d1_33) hr
          · show Q1 Z xm h0 n0 _ s₁.heap _
            rw [e0]
            exact ⟨(by simp only [own_ml, if_neg hc2_2, if_neg hc10_5, if_neg hc16_8, if_pos hc22_11]), N0, rfl⟩
        · have pre13 : ∀ t, own_K p e below m s₁ 28 #[iv xm] [(.int (11 : Int32)), (.int xm)] t → G t := by
            intro t k
            refine pre10 t ?_
            show own_K p e below m s₁ 22 #[iv xm] [(.int (9 : Int32)), (.int xm)] _
            refine XS.icmpNo X0.here hx rfl (hb hby d1_22) rfl (feq hc22_11).1 ?_
            show own_K p e below m s₁ 25 #[iv xm] [] _
            refine XS.iloadN X0.here hx rfl (hb hby d1_25) rfl ?_
            show own_K p e below m s₁ 26 #[iv xm] [(.int xm)] _
            refine XS.bipush X0.here hx rfl (hb hby d1_26) ?_
            exact k
          by_cases hc28_14 : xm = (11 : Int32)
          · have pre15 : ∀ t, own_K p e below m s₁ 33 #[iv xm] [(.int (30 : Int32))] t → G t := by
              intro t k
              refine pre13 t ?_
              show own_K p e below m s₁ 28 #[iv xm] [(.int (11 : Int32)), (.int xm)] _
              refine XS.icmpNo X0.here hx rfl (hb hby d1_28) rfl (teq hc28_14).2 ?_
              show own_K p e below m s₁ 31 #[iv xm] [] _
              refine XS.bipush X0.here hx rfl (hb hby d1_31) ?_
              exact k
            obtain ⟨fs, hr, hrun, hended, hW, hsame⟩ := X0.leave (v := some (.int (30 : Int32))) (fun h => by rw [Bd.returns] at h; cases h)
            refine ⟨_, _, hG _ (pre15 _ ?_), hrun, hended, _, _, rfl, ?_, ⟨_, rfl⟩, hW, hsame.mono (by decide) (by decide)⟩
            · show own_K p e below m s₁ 33 #[iv xm] [(.int (30 : Int32))] _
              exact retI X0 hx Bd.returns (hb hby d1_33) hr
            · show Q1 Z xm h0 n0 _ s₁.heap _
              rw [e0]
              exact ⟨(by simp only [own_ml, if_neg hc2_2, if_neg hc10_5, if_neg hc16_8, if_neg hc22_11, if_pos hc28_14]), N0, rfl⟩
          · have pre16 : ∀ t, own_K p e below m s₁ 36 #[iv xm] [(.int (31 : Int32))] t → G t := by
              intro t k
              refine pre13 t ?_
              show own_K p e below m s₁ 28 #[iv xm] [(.int (11 : Int32)), (.int xm)] _
              refine XS.icmpYes X0.here hx rfl (pc0 := 28) (pc' := 34) rfl (hb hby d1_28) rfl (feq hc28_14).2 (by decide) (by decide) ?_
              show own_K p e below m s₁ 34 #[iv xm] [] _
              refine XS.bipush X0.here hx rfl (hb hby d1_34) ?_
              exact k
            obtain ⟨fs, hr, hrun, hended, hW, hsame⟩ := X0.leave (v := some (.int (31 : Int32))) (fun h => by rw [Bd.returns] at h; cases h)
            refine ⟨_, _, hG _ (pre16 _ ?_), hrun, hended, _, _, rfl, ?_, ⟨_, rfl⟩, hW, hsame.mono (by decide) (by decide)⟩
            · show own_K p e below m s₁ 36 #[iv xm] [(.int (31 : Int32))] _
              exact retI X0 hx Bd.returns (hb hby d1_36) hr
            · show Q1 Z xm h0 n0 _ s₁.heap _
              rw [e0]
              exact ⟨(by simp only [own_ml, if_neg hc2_2, if_neg hc10_5, if_neg hc16_8, if_neg hc22_11, if_neg hc28_14]), N0, rfl⟩

theorem d3_0 : decode jdk_30_method_1_code 0 = .ok (.aload_n 0, 1) := by decide +kernel
theorem d3_1 : decode jdk_30_method_1_code 1 = .ok (.invokespecial 1, 3) := by decide +kernel
theorem d3_4 : decode jdk_30_method_1_code 4 = .ok (.return_, 1) := by decide +kernel
theorem pn_1 : plainName "java/lang/Record" = true := by first | (simp [plainName, overriddenIn]; done) | decide +kernel
theorem ef_3 (m : MethodId) (x0 : Addr) : entryFrame m #[(.ref x0)] 1 = mkF m 0 #[rv x0] [] := by first | (simp [entryFrame, mkF, argsToLocals, Value.category]; done) | rfl
def Q3 (Z : State) (oa : Addr) (h0 : Heap) (n0 : Nat) (rv_ : Option Value) (h_ : Heap) (L_ : List Loc) : Prop := rv_ = none ∧ Fr n0 L_ ∧ h_ = h0
set_option maxRecDepth 65536 in
set_option maxHeartbeats 40000000 in
theorem rm3 (l : Launch) (Z : State) (a0 : Array Value) (hw : ∀ d ∈ tables_1, d.before a0 Z = true) (ws : List Jvm.Cond) (oa : Addr) (h0 : Heap) (n0 : Nat) (Z0 : n0 ≤ h0.size) :
    MetFree l (⟨"java/lang/Record", "<init>", "()V"⟩ : MethodName) (head1 (Jvm.Cond.code (⟨"java/lang/Record", "<init>", "()V"⟩ : MethodName) jdk_30_method_1_code 1 none :: ws) ({ frames := 1, cells := 0, slots := 0, locals := 12 } : Room)) (fun a U => a = #[(.ref oa)] ∧ Z.Warmed39 U.vm ∧ U.heap = h0) (fun _ _ _ _ _ => True) (fun _ U o U' => ∃ v L, o = .returned v ∧ Q3 Z oa h0 n0 v U'.heap L ∧ FrameEnd U o U' L ({ frames := 1, cells := 0, slots := 0, locals := 12 } : Room).cells ({ frames := 1, cells := 0, slots := 0, locals := 12 } : Room).slots) := by
  refine MetFree.of_bodySF (plainFor_of_name pn_1) hisR ?_
  intro p e s m args below meth c s₁ Bd hml0 hP hK
  obtain ⟨rfl, hZ, hh⟩ := hP
  have hx := Bd.exec
  have hby := Bd.bytes
  have hml : c.maxLocals = 1 := hml0
  have hown : s.vm.findClass "java/lang/Record" = some m.cls := findClass_of_methodNamed Bd.named
  have hnm := (name_of_methodNamed Bd.named Bd.method).1
  have X0 : Stand p l e ({ frames := 1, cells := 0, slots := 0, locals := 12 } : Room) s m #[(.ref oa)] below meth c s₁ [] 0 0 := Stand.of_body Bd
  have e0 : s₁.heap = h0 := by rw [← hh, Bd.state]; rfl
  have N0 := Fr.nil n0
  obtain ⟨G, hG, pre0⟩ : ∃ G : State → Prop, (∀ t, G t → Steps p.tables e below (s₁.setTop (entryFrame m #[(.ref oa)] 1)) t) ∧ ∀ t, own_K p e below m s₁ 0 #[rv oa] [] t → G t := ⟨fun t => Steps p.tables e below (s₁.setTop (entryFrame m #[(.ref oa)] 1)) t, fun _ k => k, fun t k => castTop (ef_3 m oa) k⟩
  obtain ⟨T1, X1, e1, st1⟩ := initO X0 hx hZ hown (hw _ (List.mem_of_getElem? (i := 16) rfl)) (hw _ (List.mem_of_getElem? (i := 17) rfl)) (hw _ (List.mem_of_getElem? (i := 18) rfl)) e0 (g := (mkF m 1 #[rv oa] [(.ref oa)])) rfl (by rw [hml]; rfl) rfl (hb hby d3_1) (by decide) (W := 0) (by show 2 * 0 + _ ≤ _; exact Nat.le_of_eq rfl) (by decide)
  have pre2 : ∀ t, own_K p e below m T1 4 #[rv oa] [] t → G t := by
    intro t k
    refine pre0 t ?_
    show own_K p e below m s₁ 0 #[rv oa] [] _
    refine XS.aloadN X0.here hx rfl (hb hby d3_0) rfl rfl ?_
    show own_K p e below m s₁ 1 #[rv oa] [(.ref oa)] _
    refine st1 _ ?_
    exact k
  obtain ⟨fs, hr, hrun, hended, hW, hsame⟩ := X1.leave (v := none) (fun _ => rfl)
  refine ⟨_, _, hG _ (pre2 _ ?_), hrun, hended, _, _, rfl, ?_, ⟨_, rfl⟩, hW, hsame.mono (by decide) (by decide)⟩
  · show own_K p e below m T1 4 #[rv oa] [] _
    exact X1.returnOut hx Bd.returns (hb hby d3_4) hr
  · show Q3 Z oa h0 n0 _ T1.heap _
    rw [e1]
    exact ⟨rfl, N0, rfl⟩

theorem d11_0 : decode jdk_18_method_1_code 0 = .ok (.aload_n 0, 1) := by decide +kernel
theorem d11_1 : decode jdk_18_method_1_code 1 = .ok (.invokespecial 1, 3) := by decide +kernel
theorem d11_4 : decode jdk_18_method_1_code 4 = .ok (.return_, 1) := by decide +kernel
theorem pn_2 : plainName "java/lang/Number" = true := by first | (simp [plainName, overriddenIn]; done) | decide +kernel
theorem ef_11 (m : MethodId) (x0 : Addr) : entryFrame m #[(.ref x0)] 1 = mkF m 0 #[rv x0] [] := by first | (simp [entryFrame, mkF, argsToLocals, Value.category]; done) | rfl
def Q11 (Z : State) (oa : Addr) (h0 : Heap) (n0 : Nat) (rv_ : Option Value) (h_ : Heap) (L_ : List Loc) : Prop := rv_ = none ∧ Fr n0 L_ ∧ h_ = h0
set_option maxRecDepth 65536 in
set_option maxHeartbeats 40000000 in
theorem rm11 (l : Launch) (Z : State) (a0 : Array Value) (hw : ∀ d ∈ tables_1, d.before a0 Z = true) (ws : List Jvm.Cond) (oa : Addr) (h0 : Heap) (n0 : Nat) (Z0 : n0 ≤ h0.size) :
    MetFree l (⟨"java/lang/Number", "<init>", "()V"⟩ : MethodName) (head1 (Jvm.Cond.code (⟨"java/lang/Number", "<init>", "()V"⟩ : MethodName) jdk_18_method_1_code 1 none :: ws) ({ frames := 1, cells := 0, slots := 0, locals := 12 } : Room)) (fun a U => a = #[(.ref oa)] ∧ Z.Warmed39 U.vm ∧ U.heap = h0) (fun _ _ _ _ _ => True) (fun _ U o U' => ∃ v L, o = .returned v ∧ Q11 Z oa h0 n0 v U'.heap L ∧ FrameEnd U o U' L ({ frames := 1, cells := 0, slots := 0, locals := 12 } : Room).cells ({ frames := 1, cells := 0, slots := 0, locals := 12 } : Room).slots) := by
  refine MetFree.of_bodySF (plainFor_of_name pn_2) hisR ?_
  intro p e s m args below meth c s₁ Bd hml0 hP hK
  obtain ⟨rfl, hZ, hh⟩ := hP
  have hx := Bd.exec
  have hby := Bd.bytes
  have hml : c.maxLocals = 1 := hml0
  have hown : s.vm.findClass "java/lang/Number" = some m.cls := findClass_of_methodNamed Bd.named
  have hnm := (name_of_methodNamed Bd.named Bd.method).1
  have X0 : Stand p l e ({ frames := 1, cells := 0, slots := 0, locals := 12 } : Room) s m #[(.ref oa)] below meth c s₁ [] 0 0 := Stand.of_body Bd
  have e0 : s₁.heap = h0 := by rw [← hh, Bd.state]; rfl
  have N0 := Fr.nil n0
  obtain ⟨G, hG, pre0⟩ : ∃ G : State → Prop, (∀ t, G t → Steps p.tables e below (s₁.setTop (entryFrame m #[(.ref oa)] 1)) t) ∧ ∀ t, own_K p e below m s₁ 0 #[rv oa] [] t → G t := ⟨fun t => Steps p.tables e below (s₁.setTop (entryFrame m #[(.ref oa)] 1)) t, fun _ k => k, fun t k => castTop (ef_11 m oa) k⟩
  obtain ⟨T1, X1, e1, st1⟩ := initO X0 hx hZ hown (hw _ (List.mem_of_getElem? (i := 71) rfl)) (hw _ (List.mem_of_getElem? (i := 17) rfl)) (hw _ (List.mem_of_getElem? (i := 18) rfl)) e0 (g := (mkF m 1 #[rv oa] [(.ref oa)])) rfl (by rw [hml]; rfl) rfl (hb hby d11_1) (by decide) (W := 0) (by show 2 * 0 + _ ≤ _; exact Nat.le_of_eq rfl) (by decide)
  have pre2 : ∀ t, own_K p e below m T1 4 #[rv oa] [] t → G t := by
    intro t k
    refine pre0 t ?_
    show own_K p e below m s₁ 0 #[rv oa] [] _
    refine XS.aloadN X0.here hx rfl (hb hby d11_0) rfl rfl ?_
    show own_K p e below m s₁ 1 #[rv oa] [(.ref oa)] _
    refine st1 _ ?_
    exact k
  obtain ⟨fs, hr, hrun, hended, hW, hsame⟩ := X1.leave (v := none) (fun _ => rfl)
  refine ⟨_, _, hG _ (pre2 _ ?_), hrun, hended, _, _, rfl, ?_, ⟨_, rfl⟩, hW, hsame.mono (by decide) (by decide)⟩
  · show own_K p e below m T1 4 #[rv oa] [] _
    exact X1.returnOut hx Bd.returns (hb hby d11_4) hr
  · show Q11 Z oa h0 n0 _ T1.heap _
    rw [e1]
    exact ⟨rfl, N0, rfl⟩

theorem d7_0 : decode jdk_37_method_2_code 0 = .ok (.aload_n 0, 1) := by decide +kernel
theorem d7_1 : decode jdk_37_method_2_code 1 = .ok (.getfield 7, 3) := by decide +kernel
theorem d7_4 : decode jdk_37_method_2_code 4 = .ok (.ireturn, 1) := by decide +kernel
theorem pn_3 : plainName "java/lang/Enum" = true := by first | (simp [plainName, overriddenIn]; done) | decide +kernel
theorem ef_7 (m : MethodId) (x0 : Addr) : entryFrame m #[(.ref x0)] 1 = mkF m 0 #[rv x0] [] := by first | (simp [entryFrame, mkF, argsToLocals, Value.category]; done) | rfl
def Q7 (Z : State) (oa : Addr) (xo : Int32) (h0 : Heap) (n0 : Nat) (rv_ : Option Value) (h_ : Heap) (L_ : List Loc) : Prop := rv_ = some (.int xo) ∧ Fr n0 L_ ∧ h_ = h0
set_option maxRecDepth 65536 in
set_option maxHeartbeats 40000000 in
theorem rm7 (l : Launch) (Z : State) (a0 : Array Value) (hw : ∀ d ∈ tables_1, d.before a0 Z = true) (ws : List Jvm.Cond) (oa : Addr) (xo : Int32) (h0 : Heap) (n0 : Nat) (Z0 : n0 ≤ h0.size) (Fo : Fld Z h0 oa "java/lang/Enum" "ordinal" "I" (.int xo)) :
    MetFree l (⟨"java/lang/Enum", "ordinal", "()I"⟩ : MethodName) (head1 (Jvm.Cond.code (⟨"java/lang/Enum", "ordinal", "()I"⟩ : MethodName) jdk_37_method_2_code 1 (some .int) :: ws) ({ frames := 0, cells := 0, slots := 0, locals := 0 } : Room)) (fun a U => a = #[(.ref oa)] ∧ Z.Warmed39 U.vm ∧ U.heap = h0) (fun _ _ _ _ _ => True) (fun _ U o U' => ∃ v L, o = .returned v ∧ Q7 Z oa xo h0 n0 v U'.heap L ∧ FrameEnd U o U' L ({ frames := 0, cells := 0, slots := 0, locals := 0 } : Room).cells ({ frames := 0, cells := 0, slots := 0, locals := 0 } : Room).slots) := by
  refine MetFree.of_bodySF (plainFor_of_name pn_3) hisR ?_
  intro p e s m args below meth c s₁ Bd hml0 hP hK
  obtain ⟨rfl, hZ, hh⟩ := hP
  have hx := Bd.exec
  have hby := Bd.bytes
  have hml : c.maxLocals = 1 := hml0
  have hown : s.vm.findClass "java/lang/Enum" = some m.cls := findClass_of_methodNamed Bd.named
  have hnm := (name_of_methodNamed Bd.named Bd.method).1
  have X0 : Stand p l e ({ frames := 0, cells := 0, slots := 0, locals := 0 } : Room) s m #[(.ref oa)] below meth c s₁ [] 0 0 := Stand.of_body Bd
  have e0 : s₁.heap = h0 := by rw [← hh, Bd.state]; rfl
  have N0 := Fr.nil n0
  obtain ⟨G, hG, pre0⟩ : ∃ G : State → Prop, (∀ t, G t → Steps p.tables e below (s₁.setTop (entryFrame m #[(.ref oa)] 1)) t) ∧ ∀ t, own_K p e below m s₁ 0 #[rv oa] [] t → G t := ⟨fun t => Steps p.tables e below (s₁.setTop (entryFrame m #[(.ref oa)] 1)) t, fun _ k => k, fun t k => castTop (ef_7 m oa) k⟩
  obtain ⟨T1, X1, e1, st1⟩ := getF X0 hx hZ hown (host := "") (Or.inl (hw _ (List.mem_of_getElem? (i := 36) rfl))) Via.refl e0 Fo (g := (mkF m 1 #[rv oa] [(.ref oa)])) rfl rfl (hb hby d7_1)
  have pre2 : ∀ t, own_K p e below m T1 4 #[rv oa] [(.int xo)] t → G t := by
    intro t k
    refine pre0 t ?_
    show own_K p e below m s₁ 0 #[rv oa] [] _
    refine XS.aloadN X0.here hx rfl (hb hby d7_0) rfl rfl ?_
    show own_K p e below m s₁ 1 #[rv oa] [(.ref oa)] _
    refine st1 _ ?_
    exact k
  obtain ⟨fs, hr, hrun, hended, hW, hsame⟩ := X1.leave (v := some (.int xo)) (fun h => by rw [Bd.returns] at h; cases h)
  refine ⟨_, _, hG _ (pre2 _ ?_), hrun, hended, _, _, rfl, ?_, ⟨_, rfl⟩, hW, hsame.mono (by decide) (by decide)⟩
  · show own_K p e below m T1 4 #[rv oa] [(.int xo)] _
    exact retI X1 hx Bd.returns (hb hby d7_4) hr
  · show Q7 Z oa xo h0 n0 _ T1.heap _
    rw [e1]
    exact ⟨rfl, N0, rfl⟩

theorem d6_0 : decode jdk_2329_method_16_code 0 = .ok (.aload_n 0, 1) := by decide +kernel
theorem d6_1 : decode jdk_2329_method_16_code 1 = .ok (.invokevirtual 141, 3) := by decide +kernel
theorem pd_0 : parseMethodDescriptor "()I" = some ⟨[], some .int⟩ := by decide +kernel
theorem d6_4 : decode jdk_2329_method_16_code 4 = .ok (.tableswitch 66 1 10 #[56, 66, 61, 66, 61, 66, 66, 61, 66, 61], 56) := by decide +kernel
theorem d6_60 : decode jdk_2329_method_16_code 60 = .ok (.bipush 29, 2) := by decide +kernel
theorem d6_62 : decode jdk_2329_method_16_code 62 = .ok (.goto 10, 3) := by decide +kernel
theorem d6_72 : decode jdk_2329_method_16_code 72 = .ok (.ireturn, 1) := by decide +kernel
theorem d6_70 : decode jdk_2329_method_16_code 70 = .ok (.bipush 31, 2) := by decide +kernel
theorem d6_65 : decode jdk_2329_method_16_code 65 = .ok (.bipush 30, 2) := by decide +kernel
theorem d6_67 : decode jdk_2329_method_16_code 67 = .ok (.goto 5, 3) := by decide +kernel
theorem pn_4 : plainName "java/time/Month" = true := by first | (simp [plainName, overriddenIn]; done) | decide +kernel
theorem ef_6 (m : MethodId) (x0 : Addr) : entryFrame m #[(.ref x0)] 1 = mkF m 0 #[rv x0] [] := by first | (simp [entryFrame, mkF, argsToLocals, Value.category]; done) | rfl
def Q6 (Z : State) (oa : Addr) (xo : Int32) (h0 : Heap) (n0 : Nat) (rv_ : Option Value) (h_ : Heap) (L_ : List Loc) : Prop := rv_ = some (.int (own_mlen xo)) ∧ Fr n0 L_ ∧ h_ = h0
set_option maxRecDepth 65536 in
set_option maxHeartbeats 40000000 in
theorem rm6 (l : Launch) (Z : State) (a0 : Array Value) (hw : ∀ d ∈ tables_1, d.before a0 Z = true) (ws : List Jvm.Cond) (oa : Addr) (xo : Int32) (h0 : Heap) (n0 : Nat) (Z0 : n0 ≤ h0.size) (Eo : Exa Z h0 oa "java/time/Month") (Fo : Fld Z h0 oa "java/lang/Enum" "ordinal" "I" (.int xo)) :
    MetFree l (⟨"java/time/Month", "maxLength", "()I"⟩ : MethodName) (head1 (Jvm.Cond.code (⟨"java/time/Month", "maxLength", "()I"⟩ : MethodName) jdk_2329_method_16_code 1 (some .int) :: ws) ({ frames := 1, cells := 0, slots := 0, locals := 12 } : Room)) (fun a U => a = #[(.ref oa)] ∧ Z.Warmed39 U.vm ∧ U.heap = h0) (fun _ _ _ _ _ => True) (fun _ U o U' => ∃ v L, o = .returned v ∧ Q6 Z oa xo h0 n0 v U'.heap L ∧ FrameEnd U o U' L ({ frames := 1, cells := 0, slots := 0, locals := 12 } : Room).cells ({ frames := 1, cells := 0, slots := 0, locals := 12 } : Room).slots) := by
  refine MetFree.of_bodySF (plainFor_of_name pn_4) hisR ?_
  intro p e s m args below meth c s₁ Bd hml0 hP hK
  obtain ⟨rfl, hZ, hh⟩ := hP
  have hx := Bd.exec
  have hby := Bd.bytes
  have hml : c.maxLocals = 1 := hml0
  have hown : s.vm.findClass "java/time/Month" = some m.cls := findClass_of_methodNamed Bd.named
  have hnm := (name_of_methodNamed Bd.named Bd.method).1
  have X0 : Stand p l e ({ frames := 1, cells := 0, slots := 0, locals := 12 } : Room) s m #[(.ref oa)] below meth c s₁ [] 0 0 := Stand.of_body Bd
  have e0 : s₁.heap = h0 := by rw [← hh, Bd.state]; rfl
  have N0 := Fr.nil n0
  obtain ⟨G, hG, pre0⟩ : ∃ G : State → Prop, (∀ t, G t → Steps p.tables e below (s₁.setTop (entryFrame m #[(.ref oa)] 1)) t) ∧ ∀ t, own_K p e below m s₁ 0 #[rv oa] [] t → G t := ⟨fun t => Steps p.tables e below (s₁.setTop (entryFrame m #[(.ref oa)] 1)) t, fun _ k => k, fun t k => castTop (ef_6 m oa) k⟩
  obtain ⟨cq1, kq1, q1a, q1b, q1c⟩ := isOf hZ e0 Eo
  obtain ⟨_, _, ⟨T1, L1, k1, n1⟩, -, X1, ⟨Lc1, hQ1, l1, y1, z1⟩, st1⟩ := X0.virtualBackUp hx (owner := "java/lang/Enum") (x := (⟨"java/time/Month", "ordinal", "()I"⟩ : MethodName)) (y := (⟨"java/lang/Enum", "ordinal", "()I"⟩ : MethodName)) hown (mvT hZ (hw _ (List.mem_of_getElem? (i := 29) rfl))) (mvT hZ (hw _ (List.mem_of_getElem? (i := 30) rfl))) (mvT hZ (hw _ (List.mem_of_getElem? (i := 31) rfl))) (by decide) (mvT hZ (hw _ (List.mem_of_getElem? (i := 33) rfl))) (mvT hZ (hw _ (List.mem_of_getElem? (i := 32) rfl))) (backOf (W := 0) (rm7 l Z a0 hw [] oa xo h0 n0 Z0 Fo) hZ (hw _ (List.mem_of_getElem? (i := 35) rfl)) (hw _ (List.mem_of_getElem? (i := 34) rfl)) (by decide) (by decide)) q1a q1c (g := (mkF m 1 #[rv oa] [(.ref oa)])) rfl (by rw [hml]; rfl) (Steps.refl _) (argsL := []) (rest := []) (lenOf pd_0 rfl) rfl (by show 2 * 0 + _ ≤ _; exact Nat.le_of_eq rfl) (hb hby d6_1) (fun _ _ => ⟨rfl, e0, (by decide : 0 + 0 ≤ _), (by decide : 0 + 0 ≤ _)⟩)
  dsimp only [Pt.U, Pt.locs, Pt.cells, Pt.slots] at X1 l1 y1 z1 st1 hQ1
  subst l1 y1 z1
  obtain ⟨rfl, Nq1, eh1⟩ := hQ1
  have N1 := Fr.app N0 Nq1
  have pre2 : ∀ t, own_K p e below m T1 4 #[rv oa] [(.int xo)] t → G t := by
    intro t k
    refine pre0 t ?_
    show own_K p e below m s₁ 0 #[rv oa] [] _
    refine XS.aloadN X0.here hx rfl (hb hby d6_0) rfl rfl ?_
    show own_K p e below m s₁ 1 #[rv oa] [(.ref oa)] _
    refine st1.trans ?_
    exact k
  by_cases hs1_3 : xo = (1 : Int32)
  · have pre4 : ∀ t, own_K p e below m T1 72 #[rv oa] [(.int (29 : Int32))] t → G t := by
      intro t k
      refine pre2 t ?_
      show own_K p e below m T1 4 #[rv oa] [(.int xo)] _
      refine XS.tswIn X1.here hx rfl (pc0 := 4) (pc' := 60) (o := 56) rfl (hb hby d6_4) rfl (by rw [hs1_3]; decide) (by rw [hs1_3]; rfl) (by decide) (by decide) ?_
      show own_K p e below m T1 60 #[rv oa] [] _
      refine XS.bipush X1.here hx rfl (hb hby d6_60) ?_
      show own_K p e below m T1 62 #[rv oa] [(.int (29 : Int32))] _
      refine XS.goto X1.here hx rfl (pc0 := 62) (pc' := 72) rfl (hb hby d6_62) (by decide) (by decide) ?_
      exact k
    obtain ⟨fs, hr, hrun, hended, hW, hsame⟩ := X1.leave (v := some (.int (29 : Int32))) (fun h => by rw [Bd.returns] at h; cases h)
    refine ⟨_, _, hG _ (pre4 _ ?_), hrun, hended, _, _, rfl, ?_, ⟨_, rfl⟩, hW, hsame.mono (by decide) (by decide)⟩
    · show own_K p e below m T1 72 #[rv oa] [(.int (29 : Int32))] _
      exact retI X1 hx Bd.returns (hb hby d6_72) hr
    · show Q6 Z oa xo h0 n0 _ T1.heap _
      rw [eh1]
      exact ⟨(by simp only [own_mlen, if_pos hs1_3]), N1, rfl⟩
  · by_cases hs2_5 : xo = (2 : Int32)
    · have pre6 : ∀ t, own_K p e below m T1 72 #[rv oa] [(.int (31 : Int32))] t → G t := by
        intro t k
        refine pre2 t ?_
        show own_K p e below m T1 4 #[rv oa] [(.int xo)] _
        refine XS.tswIn X1.here hx rfl (pc0 := 4) (pc' := 70) (o := 66) rfl (hb hby d6_4) rfl (by rw [hs2_5]; decide) (by rw [hs2_5]; rfl) (by decide) (by decide) ?_
        show own_K p e below m T1 70 #[rv oa] [] _
        refine XS.bipush X1.here hx rfl (hb hby d6_70) ?_
        exact k
      obtain ⟨fs, hr, hrun, hended, hW, hsame⟩ := X1.leave (v := some (.int (31 : Int32))) (fun h => by rw [Bd.returns] at h; cases h)
      refine ⟨_, _, hG _ (pre6 _ ?_), hrun, hended, _, _, rfl, ?_, ⟨_, rfl⟩, hW, hsame.mono (by decide) (by decide)⟩
      · show own_K p e below m T1 72 #[rv oa] [(.int (31 : Int32))] _
        exact retI X1 hx Bd.returns (hb hby d6_72) hr
      · show Q6 Z oa xo h0 n0 _ T1.heap _
        rw [eh1]
        exact ⟨(by simp only [own_mlen, if_neg hs1_3, if_pos hs2_5]), N1, rfl⟩
    · by_cases hs3_7 : xo = (3 : Int32)
      · have pre8 : ∀ t, own_K p e below m T1 72 #[rv oa] [(.int (30 : Int32))] t → G t := by
          intro t k
          refine pre2 t ?_
          show own_K p e below m T1 4 #[rv oa] [(.int xo)] _
          refine XS.tswIn X1.here hx rfl (pc0 := 4) (pc' := 65) (o := 61) rfl (hb hby d6_4) rfl (by rw [hs3_7]; decide) (by rw [hs3_7]; rfl) (by decide) (by decide) ?_
          show own_K p e below m T1 65 #[rv oa] [] _
          refine XS.bipush X1.here hx rfl (hb hby d6_65) ?_
          show own_K p e below m T1 67 #[rv oa] [(.int (30 : Int32))] _
          refine XS.goto X1.here hx rfl (pc0 := 67) (pc' := 72) rfl (hb hby d6_67) (by decide) (by decide) ?_
          exact k
        obtain ⟨fs, hr, hrun, hended, hW, hsame⟩ := X1.leave (v := some (.int (30 : Int32))) (fun h => by rw [Bd.returns] at h; cases h)
        refine ⟨_, _, hG _ (pre8 _ ?_), hrun, hended, _, _, rfl, ?_, ⟨_, rfl⟩, hW, hsame.mono (by decide) (by decide)⟩
        · show own_K p e below m T1 72 #[rv oa] [(.int (30 : Int32))] _
          exact retI X1 hx Bd.returns (hb hby d6_72) hr
        · show Q6 Z oa xo h0 n0 _ T1.heap _
          rw [eh1]
          exact ⟨(by simp only [own_mlen, if_neg hs1_3, if_neg hs2_5, if_pos hs3_7]), N1, rfl⟩
      · by_cases hs4_9 : xo = (4 : Int32)
        · have pre10 : ∀ t, own_K p e below m T1 72 #[rv oa] [(.int (31 : Int32))] t → G t := by
            intro t k
            refine pre2 t ?_
            show own_K p e below m T1 4 #[rv oa] [(.int xo)] _
            refine XS.tswIn X1.here hx rfl (pc0 := 4) (pc' := 70) (o := 66) rfl (hb hby d6_4) rfl (by rw [hs4_9]; decide) (by rw [hs4_9]; rfl) (by decide) (by decide) ?_
            show own_K p e below m T1 70 #[rv oa] [] _
            refine XS.bipush X1.here hx rfl (hb hby d6_70) ?_
            exact k
          obtain ⟨fs, hr, hrun, hended, hW, hsame⟩ := X1.leave (v := some (.int (31 : Int32))) (fun h => by rw [Bd.returns] at h; cases h)
          refine ⟨_, _, hG _ (pre10 _ ?_), hrun, hended, _, _, rfl, ?_, ⟨_, rfl⟩, hW, hsame.mono (by decide) (by decide)⟩
          · show own_K p e below m T1 72 #[rv oa] [(.int (31 : Int32))] _
            exact retI X1 hx Bd.returns (hb hby d6_72) hr
          · show Q6 Z oa xo h0 n0 _ T1.heap _
            rw [eh1]
            exact ⟨(by simp only [own_mlen, if_neg hs1_3, if_neg hs2_5, if_neg hs3_7, if_pos hs4_9]), N1, rfl⟩
        · by_cases hs5_11 : xo = (5 : Int32)
          · have pre12 : ∀ t, own_K p e below m T1 72 #[rv oa] [(.int (30 : Int32))] t → G t := by
              intro t k
              refine pre2 t ?_
              show own_K p e below m T1 4 #[rv oa] [(.int xo)] _
              refine XS.tswIn X1.here hx rfl (pc0 := 4) (pc' := 65) (o := 61) rfl (hb hby d6_4) rfl (by rw [hs5_11]; decide) (by rw [hs5_11]; rfl) (by decide) (by decide) ?_
              show own_K p e below m T1 65 #[rv oa] [] _
              refine XS.bipush X1.here hx rfl (hb hby d6_65) ?_
              show own_K p e below m T1 67 #[rv oa] [(.int (30 : Int32))] _
              refine XS.goto X1.here hx rfl (pc0 := 67) (pc' := 72) rfl (hb hby d6_67) (by decide) (by decide) ?_
              exact k
            obtain ⟨fs, hr, hrun, hended, hW, hsame⟩ := X1.leave (v := some (.int (30 : Int32))) (fun h => by rw [Bd.returns] at h; cases h)
            refine ⟨_, _, hG _ (pre12 _ ?_), hrun, hended, _, _, rfl, ?_, ⟨_, rfl⟩, hW, hsame.mono (by decide) (by decide)⟩
            · show own_K p e below m T1 72 #[rv oa] [(.int (30 : Int32))] _
              exact retI X1 hx Bd.returns (hb hby d6_72) hr
            · show Q6 Z oa xo h0 n0 _ T1.heap _
              rw [eh1]
              exact ⟨(by simp only [own_mlen, if_neg hs1_3, if_neg hs2_5, if_neg hs3_7, if_neg hs4_9, if_pos hs5_11]), N1, rfl⟩
          · by_cases hs6_13 : xo = (6 : Int32)
            · have pre14 : ∀ t, own_K p e below m T1 72 #[rv oa] [(.int (31 : Int32))] t → G t := by
                intro t k
                refine pre2 t ?_
                show own_K p e below m T1 4 #[rv oa] [(.int xo)] _
                refine XS.tswIn X1.here hx rfl (pc0 := 4) (pc' := 70) (o := 66) rfl (hb hby d6_4) rfl (by rw [hs6_13]; decide) (by rw [hs6_13]; rfl) (by decide) (by decide) ?_
                show own_K p e below m T1 70 #[rv oa] [] _
                refine XS.bipush X1.here hx rfl (hb hby d6_70) ?_
                exact k
              obtain ⟨fs, hr, hrun, hended, hW, hsame⟩ := X1.leave (v := some (.int (31 : Int32))) (fun h => by rw [Bd.returns] at h; cases h)
              refine ⟨_, _, hG _ (pre14 _ ?_), hrun, hended, _, _, rfl, ?_, ⟨_, rfl⟩, hW, hsame.mono (by decide) (by decide)⟩
              · show own_K p e below m T1 72 #[rv oa] [(.int (31 : Int32))] _
                exact retI X1 hx Bd.returns (hb hby d6_72) hr
              · show Q6 Z oa xo h0 n0 _ T1.heap _
                rw [eh1]
                exact ⟨(by simp only [own_mlen, if_neg hs1_3, if_neg hs2_5, if_neg hs3_7, if_neg hs4_9, if_neg hs5_11, if_pos hs6_13]), N1, rfl⟩
            · by_cases hs7_15 : xo = (7 : Int32)
              · have pre16 : ∀ t, own_K p e below m T1 72 #[rv oa] [(.int (31 : Int32))] t → G t := by
                  intro t k
                  refine pre2 t ?_
                  show own_K p e below m T1 4 #[rv oa] [(.int xo)] _
                  refine XS.tswIn X1.here hx rfl (pc0 := 4) (pc' := 70) (o := 66) rfl (hb hby d6_4) rfl (by rw [hs7_15]; decide) (by rw [hs7_15]; rfl) (by decide) (by decide) ?_
                  show own_K p e below m T1 70 #[rv oa] [] _
                  refine XS.bipush X1.here hx rfl (hb hby d6_70) ?_
                  exact k
                obtain ⟨fs, hr, hrun, hended, hW, hsame⟩ := X1.leave (v := some (.int (31 : Int32))) (fun h => by rw [Bd.returns] at h; cases h)
                refine ⟨_, _, hG _ (pre16 _ ?_), hrun, hended, _, _, rfl, ?_, ⟨_, rfl⟩, hW, hsame.mono (by decide) (by decide)⟩
                · show own_K p e below m T1 72 #[rv oa] [(.int (31 : Int32))] _
                  exact retI X1 hx Bd.returns (hb hby d6_72) hr
                · show Q6 Z oa xo h0 n0 _ T1.heap _
                  rw [eh1]
                  exact ⟨(by simp only [own_mlen, if_neg hs1_3, if_neg hs2_5, if_neg hs3_7, if_neg hs4_9, if_neg hs5_11, if_neg hs6_13, if_pos hs7_15]), N1, rfl⟩
              · by_cases hs8_17 : xo = (8 : Int32)
                · have pre18 : ∀ t, own_K p e below m T1 72 #[rv oa] [(.int (30 : Int32))] t → G t := by
                    intro t k
                    refine pre2 t ?_
                    show own_K p e below m T1 4 #[rv oa] [(.int xo)] _
                    refine XS.tswIn X1.here hx rfl (pc0 := 4) (pc' := 65) (o := 61) rfl (hb hby d6_4) rfl (by rw [hs8_17]; decide) (by rw [hs8_17]; rfl) (by decide) (by decide) ?_
                    show own_K p e below m T1 65 #[rv oa] [] _
                    refine XS.bipush X1.here hx rfl (hb hby d6_65) ?_
                    show own_K p e below m T1 67 #[rv oa] [(.int (30 : Int32))] _
                    refine XS.goto X1.here hx rfl (pc0 := 67) (pc' := 72) rfl (hb hby d6_67) (by decide) (by decide) ?_
                    exact k
                  obtain ⟨fs, hr, hrun, hended, hW, hsame⟩ := X1.leave (v := some (.int (30 : Int32))) (fun h => by rw [Bd.returns] at h; cases h)
                  refine ⟨_, _, hG _ (pre18 _ ?_), hrun, hended, _, _, rfl, ?_, ⟨_, rfl⟩, hW, hsame.mono (by decide) (by decide)⟩
                  · show own_K p e below m T1 72 #[rv oa] [(.int (30 : Int32))] _
                    exact retI X1 hx Bd.returns (hb hby d6_72) hr
                  · show Q6 Z oa xo h0 n0 _ T1.heap _
                    rw [eh1]
                    exact ⟨(by simp only [own_mlen, if_neg hs1_3, if_neg hs2_5, if_neg hs3_7, if_neg hs4_9, if_neg hs5_11, if_neg hs6_13, if_neg hs7_15, if_pos hs8_17]), N1, rfl⟩
                · by_cases hs9_19 : xo = (9 : Int32)
                  · have pre20 : ∀ t, own_K p e below m T1 72 #[rv oa] [(.int (31 : Int32))] t → G t := by
                      intro t k
                      refine pre2 t ?_
                      show own_K p e below m T1 4 #[rv oa] [(.int xo)] _
                      refine XS.tswIn X1.here hx rfl (pc0 := 4) (pc' := 70) (o := 66) rfl (hb hby d6_4) rfl (by rw [hs9_19]; decide) (by rw [hs9_19]; rfl) (by decide) (by decide) ?_
                      show own_K p e below m T1 70 #[rv oa] [] _
                      refine XS.bipush X1.here hx rfl (hb hby d6_70) ?_
                      exact k
                    obtain ⟨fs, hr, hrun, hended, hW, hsame⟩ := X1.leave (v := some (.int (31 : Int32))) (fun h => by rw [Bd.returns] at h; cases h)
                    refine ⟨_, _, hG _ (pre20 _ ?_), hrun, hended, _, _, rfl, ?_, ⟨_, rfl⟩, hW, hsame.mono (by decide) (by decide)⟩
                    · show own_K p e below m T1 72 #[rv oa] [(.int (31 : Int32))] _
                      exact retI X1 hx Bd.returns (hb hby d6_72) hr
                    · show Q6 Z oa xo h0 n0 _ T1.heap _
                      rw [eh1]
                      exact ⟨(by simp only [own_mlen, if_neg hs1_3, if_neg hs2_5, if_neg hs3_7, if_neg hs4_9, if_neg hs5_11, if_neg hs6_13, if_neg hs7_15, if_neg hs8_17, if_pos hs9_19]), N1, rfl⟩
                  · by_cases hs10_21 : xo = (10 : Int32)
                    · have pre22 : ∀ t, own_K p e below m T1 72 #[rv oa] [(.int (30 : Int32))] t → G t := by
                        intro t k
                        refine pre2 t ?_
                        show own_K p e below m T1 4 #[rv oa] [(.int xo)] _
                        refine XS.tswIn X1.here hx rfl (pc0 := 4) (pc' := 65) (o := 61) rfl (hb hby d6_4) rfl (by rw [hs10_21]; decide) (by rw [hs10_21]; rfl) (by decide) (by decide) ?_
                        show own_K p e below m T1 65 #[rv oa] [] _
                        refine XS.bipush X1.here hx rfl (hb hby d6_65) ?_
                        show own_K p e below m T1 67 #[rv oa] [(.int (30 : Int32))] _
                        refine XS.goto X1.here hx rfl (pc0 := 67) (pc' := 72) rfl (hb hby d6_67) (by decide) (by decide) ?_
                        exact k
                      obtain ⟨fs, hr, hrun, hended, hW, hsame⟩ := X1.leave (v := some (.int (30 : Int32))) (fun h => by rw [Bd.returns] at h; cases h)
                      refine ⟨_, _, hG _ (pre22 _ ?_), hrun, hended, _, _, rfl, ?_, ⟨_, rfl⟩, hW, hsame.mono (by decide) (by decide)⟩
                      · show own_K p e below m T1 72 #[rv oa] [(.int (30 : Int32))] _
                        exact retI X1 hx Bd.returns (hb hby d6_72) hr
                      · show Q6 Z oa xo h0 n0 _ T1.heap _
                        rw [eh1]
                        exact ⟨(by simp only [own_mlen, if_neg hs1_3, if_neg hs2_5, if_neg hs3_7, if_neg hs4_9, if_neg hs5_11, if_neg hs6_13, if_neg hs7_15, if_neg hs8_17, if_neg hs9_19, if_pos hs10_21]), N1, rfl⟩
                    · have pre23 : ∀ t, own_K p e below m T1 72 #[rv oa] [(.int (31 : Int32))] t → G t := by
                        intro t k
                        refine pre2 t ?_
                        show own_K p e below m T1 4 #[rv oa] [(.int xo)] _
                        refine XS.tswOut X1.here hx rfl (pc0 := 4) (pc' := 70) rfl (hb hby d6_4) rfl (by have z0 : xo.toInt ≠ 1 := fun q => hs1_3 (Int32.toInt_inj.mp (q.trans (by decide))); have z1 : xo.toInt ≠ 2 := fun q => hs2_5 (Int32.toInt_inj.mp (q.trans (by decide))); have z2 : xo.toInt ≠ 3 := fun q => hs3_7 (Int32.toInt_inj.mp (q.trans (by decide))); have z3 : xo.toInt ≠ 4 := fun q => hs4_9 (Int32.toInt_inj.mp (q.trans (by decide))); have z4 : xo.toInt ≠ 5 := fun q => hs5_11 (Int32.toInt_inj.mp (q.trans (by decide))); have z5 : xo.toInt ≠ 6 := fun q => hs6_13 (Int32.toInt_inj.mp (q.trans (by decide))); have z6 : xo.toInt ≠ 7 := fun q => hs7_15 (Int32.toInt_inj.mp (q.trans (by decide))); have z7 : xo.toInt ≠ 8 := fun q => hs8_17 (Int32.toInt_inj.mp (q.trans (by decide))); have z8 : xo.toInt ≠ 9 := fun q => hs9_19 (Int32.toInt_inj.mp (q.trans (by decide))); have z9 : xo.toInt ≠ 10 := fun q => hs10_21 (Int32.toInt_inj.mp (q.trans (by decide))); omega) (by decide) (by decide) ?_
                        show own_K p e below m T1 70 #[rv oa] [] _
                        refine XS.bipush X1.here hx rfl (hb hby d6_70) ?_
                        exact k
                      obtain ⟨fs, hr, hrun, hended, hW, hsame⟩ := X1.leave (v := some (.int (31 : Int32))) (fun h => by rw [Bd.returns] at h; cases h)
                      refine ⟨_, _, hG _ (pre23 _ ?_), hrun, hended, _, _, rfl, ?_, ⟨_, rfl⟩, hW, hsame.mono (by decide) (by decide)⟩
                      · show own_K p e below m T1 72 #[rv oa] [(.int (31 : Int32))] _
                        exact retI X1 hx Bd.returns (hb hby d6_72) hr
                      · show Q6 Z oa xo h0 n0 _ T1.heap _
                        rw [eh1]
                        exact ⟨(by simp only [own_mlen, if_neg hs1_3, if_neg hs2_5, if_neg hs3_7, if_neg hs4_9, if_neg hs5_11, if_neg hs6_13, if_neg hs7_15, if_neg hs8_17, if_neg hs9_19, if_neg hs10_21]), N1, rfl⟩

theorem d5_0 : decode jdk_2329_method_4_code 0 = .ok (.iload_n 0, 1) := by decide +kernel
theorem d5_1 : decode jdk_2329_method_4_code 1 = .ok (.iconst 1, 1) := by decide +kernel
theorem d5_2 : decode jdk_2329_method_4_code 2 = .ok (.if_icmp .lt 9, 3) := by decide +kernel
theorem d5_5 : decode jdk_2329_method_4_code 5 = .ok (.iload_n 0, 1) := by decide +kernel
theorem d5_6 : decode jdk_2329_method_4_code 6 = .ok (.bipush 12, 2) := by decide +kernel
theorem d5_8 : decode jdk_2329_method_4_code 8 = .ok (.if_icmp .le 30, 3) := by decide +kernel
theorem d5_38 : decode jdk_2329_method_4_code 38 = .ok (.getstatic 82, 3) := by decide +kernel
theorem d5_41 : decode jdk_2329_method_4_code 41 = .ok (.iload_n 0, 1) := by decide +kernel
theorem d5_42 : decode jdk_2329_method_4_code 42 = .ok (.iconst 1, 1) := by decide +kernel
theorem d5_43 : decode jdk_2329_method_4_code 43 = .ok (.isub, 1) := by decide +kernel
theorem d5_44 : decode jdk_2329_method_4_code 44 = .ok (.aaload, 1) := by decide +kernel
theorem d5_45 : decode jdk_2329_method_4_code 45 = .ok (.areturn, 1) := by decide +kernel
theorem ef_5 (m : MethodId) (x0 : Int32) : entryFrame m #[(.int x0)] 1 = mkF m 0 #[iv x0] [] := by first | (simp [entryFrame, mkF, argsToLocals, Value.category]; done) | rfl
def Q5 (Z : State) (xm : Int32) (mm : Nat → Addr) (ea : Addr) (kE : ClassId) (mN : Nat) (h0 : Heap) (n0 : Nat) (rv_ : Option Value) (h_ : Heap) (L_ : List Loc) : Prop := rv_ = some (.ref (mm mN)) ∧ Fr n0 L_ ∧ h_ = h0
set_option maxRecDepth 65536 in
set_option maxHeartbeats 40000000 in
theorem rm5 (l : Launch) (Z : State) (a0 : Array Value) (hw : ∀ d ∈ tables_1, d.before a0 Z = true) (ws : List Jvm.Cond) (xm : Int32) (mm : Nat → Addr) (ea : Addr) (kE : ClassId) (mN : Nat) (h0 : Heap) (n0 : Nat) (Z0 : n0 ≤ h0.size) (O_ : Old Z n0 h0) (SE : Sta Z Z.heap "java/time/Month" "ENUMS" "[Ljava/time/Month;" (.ref ea)) (VE : Arv Z Z.heap ea kE (.object "java/time/Month") (12 : Int32) (own_refs 12 mm) .null) (hm : mN < 12) (hxm : xm = Int32.ofNat (mN + 1)) :
    MetFree l (⟨"java/time/Month", "of", "(I)Ljava/time/Month;"⟩ : MethodName) (head1 (Jvm.Cond.code (⟨"java/time/Month", "of", "(I)Ljava/time/Month;"⟩ : MethodName) jdk_2329_method_4_code 1 (some (.object "java/time/Month")) :: ws) ({ frames := 0, cells := 0, slots := 0, locals := 0 } : Room)) (fun a U => a = #[(.int xm)] ∧ Z.Warmed39 U.vm ∧ U.heap = h0) (fun _ _ _ _ _ => True) (fun _ U o U' => ∃ v L, o = .returned v ∧ Q5 Z xm mm ea kE mN h0 n0 v U'.heap L ∧ FrameEnd U o U' L ({ frames := 0, cells := 0, slots := 0, locals := 0 } : Room).cells ({ frames := 0, cells := 0, slots := 0, locals := 0 } : Room).slots) := by
  refine MetFree.of_bodySF (plainFor_of_name pn_4) hisR ?_
  intro p e s m args below meth c s₁ Bd hml0 hP hK
  obtain ⟨rfl, hZ, hh⟩ := hP
  have hx := Bd.exec
  have hby := Bd.bytes
  have hml : c.maxLocals = 1 := hml0
  have hown : s.vm.findClass "java/time/Month" = some m.cls := findClass_of_methodNamed Bd.named
  have hnm := (name_of_methodNamed Bd.named Bd.method).1
  have X0 : Stand p l e ({ frames := 0, cells := 0, slots := 0, locals := 0 } : Room) s m #[(.int xm)] below meth c s₁ [] 0 0 := Stand.of_body Bd
  have e0 : s₁.heap = h0 := by rw [← hh, Bd.state]; rfl
  have N0 := Fr.nil n0
  obtain ⟨G, hG, pre0⟩ : ∃ G : State → Prop, (∀ t, G t → Steps p.tables e below (s₁.setTop (entryFrame m #[(.int xm)] 1)) t) ∧ ∀ t, own_K p e below m s₁ 0 #[iv xm] [] t → G t := ⟨fun t => Steps p.tables e below (s₁.setTop (entryFrame m #[(.int xm)] 1)) t, fun _ k => k, fun t k => castTop (ef_5 m xm) k⟩
  obtain ⟨T1, X1, e1, st1⟩ := getS2 X0 hx hZ hown (host := "") (Or.inl (hw _ (List.mem_of_getElem? (i := 23) rfl))) Via.refl e0 (Sta.ext O_.2 SE) (g := (mkF m 38 #[iv xm] [])) rfl (hb hby d5_38)
  have pre2 : ∀ t, own_K p e below m T1 44 #[iv xm] [(.int (xm - (1 : Int32))), (.ref ea)] t → G t := by
    intro t k
    refine pre0 t ?_
    show own_K p e below m s₁ 0 #[iv xm] [] _
    refine XS.iloadN X0.here hx rfl (hb hby d5_0) rfl ?_
    show own_K p e below m s₁ 1 #[iv xm] [(.int xm)] _
    refine XS.iconst X0.here hx rfl (hb hby d5_1) ?_
    show own_K p e below m s₁ 2 #[iv xm] [(.int (1 : Int32)), (.int xm)] _
    refine XS.icmpNo X0.here hx rfl (hb hby d5_2) rfl (flt (own_m1 hxm hm)).1 ?_
    show own_K p e below m s₁ 5 #[iv xm] [] _
    refine XS.iloadN X0.here hx rfl (hb hby d5_5) rfl ?_
    show own_K p e below m s₁ 6 #[iv xm] [(.int xm)] _
    refine XS.bipush X0.here hx rfl (hb hby d5_6) ?_
    show own_K p e below m s₁ 8 #[iv xm] [(.int (12 : Int32)), (.int xm)] _
    refine XS.icmpYes X0.here hx rfl (pc0 := 8) (pc' := 38) rfl (hb hby d5_8) rfl (flt (own_m12 hxm hm)).2.2.2 (by decide) (by decide) ?_
    show own_K p e below m s₁ 38 #[iv xm] [] _
    refine st1 _ ?_
    show own_K p e below m T1 41 #[iv xm] [(.ref ea)] _
    refine XS.iloadN X1.here hx rfl (hb hby d5_41) rfl ?_
    show own_K p e below m T1 42 #[iv xm] [(.int xm), (.ref ea)] _
    refine XS.iconst X1.here hx rfl (hb hby d5_42) ?_
    show own_K p e below m T1 43 #[iv xm] [(.int (1 : Int32)), (.int xm), (.ref ea)] _
    refine XS.isub X1.here hx rfl (hb hby d5_43) rfl ?_
    exact k
  have pre4 : ∀ t, own_K p e below m T1 45 #[iv xm] [(.ref (mm mN))] t → G t := by
    intro t k
    refine pre2 t ?_
    show own_K p e below m T1 44 #[iv xm] [(.int (xm - (1 : Int32))), (.ref ea)] _
    refine own_aal X1 hx hZ e1 (VE.ext O_.2) rfl (v := (.ref (mm mN))) (own_mi hxm hm) (own_mg hxm hm) (g := (mkF m 44 #[iv xm] [(.int (xm - (1 : Int32))), (.ref ea)])) rfl rfl (hb hby d5_44) _ ?_
    exact k
  obtain ⟨fs, hr, hrun, hended, hW, hsame⟩ := X1.leave (v := some (.ref (mm mN))) (fun h => by rw [Bd.returns] at h; cases h)
  refine ⟨_, _, hG _ (pre4 _ ?_), hrun, hended, _, _, rfl, ?_, ⟨_, rfl⟩, hW, hsame.mono (by decide) (by decide)⟩
  · show own_K p e below m T1 45 #[iv xm] [(.ref (mm mN))] _
    exact retOut X1 hx Bd.returns rfl (Or.inr (Or.inr (Or.inr (Or.inr ⟨rfl, rfl, rfl⟩)))) (hb hby d5_45) hr
  · show Q5 Z xm mm ea kE mN h0 n0 _ T1.heap _
    rw [e1]
    exact ⟨rfl, N0, rfl⟩

theorem d2_0 : decode prog_7_method_1_code 0 = .ok (.aload_n 0, 1) := by decide +kernel
theorem d2_1 : decode prog_7_method_1_code 1 = .ok (.invokespecial 1, 3) := by decide +kernel
theorem pd_1 : parseMethodDescriptor "()V" = some ⟨[], none⟩ := by decide +kernel
theorem d2_4 : decode prog_7_method_1_code 4 = .ok (.iload_n 1, 1) := by decide +kernel
theorem d2_5 : decode prog_7_method_1_code 5 = .ok (.iconst 1, 1) := by decide +kernel
theorem d2_6 : decode prog_7_method_1_code 6 = .ok (.if_icmp .lt 25, 3) := by decide +kernel
theorem d2_9 : decode prog_7_method_1_code 9 = .ok (.iload_n 1, 1) := by decide +kernel
theorem d2_10 : decode prog_7_method_1_code 10 = .ok (.bipush 12, 2) := by decide +kernel
theorem d2_12 : decode prog_7_method_1_code 12 = .ok (.if_icmp .gt 19, 3) := by decide +kernel
theorem d2_15 : decode prog_7_method_1_code 15 = .ok (.iload_n 2, 1) := by decide +kernel
theorem d2_16 : decode prog_7_method_1_code 16 = .ok (.iconst 1, 1) := by decide +kernel
theorem d2_17 : decode prog_7_method_1_code 17 = .ok (.if_icmp .lt 14, 3) := by decide +kernel
theorem d2_20 : decode prog_7_method_1_code 20 = .ok (.iload_n 2, 1) := by decide +kernel
theorem d2_21 : decode prog_7_method_1_code 21 = .ok (.iload_n 1, 1) := by decide +kernel
theorem d2_22 : decode prog_7_method_1_code 22 = .ok (.invokestatic 7, 3) := by decide +kernel
theorem pd_2 : parseMethodDescriptor "(I)Ljava/time/Month;" = some ⟨[.int], some (.object "java/time/Month")⟩ := by decide +kernel
theorem d2_25 : decode prog_7_method_1_code 25 = .ok (.invokevirtual 13, 3) := by decide +kernel
theorem d2_28 : decode prog_7_method_1_code 28 = .ok (.if_icmp .le 18, 3) := by decide +kernel
theorem d2_46 : decode prog_7_method_1_code 46 = .ok (.aload_n 0, 1) := by decide +kernel
theorem d2_47 : decode prog_7_method_1_code 47 = .ok (.iload_n 1, 1) := by decide +kernel
theorem d2_48 : decode prog_7_method_1_code 48 = .ok (.putfield 26, 3) := by decide +kernel
theorem d2_51 : decode prog_7_method_1_code 51 = .ok (.aload_n 0, 1) := by decide +kernel
theorem d2_52 : decode prog_7_method_1_code 52 = .ok (.iload_n 2, 1) := by decide +kernel
theorem d2_53 : decode prog_7_method_1_code 53 = .ok (.putfield 32, 3) := by decide +kernel
theorem d2_56 : decode prog_7_method_1_code 56 = .ok (.return_, 1) := by decide +kernel
theorem pn_5 : plainName "com/example/notewright/notewright/AnnualDay" = true := by first | (simp [plainName, overriddenIn]; done) | decide +kernel
theorem ef_2 (m : MethodId) (x0 : Addr) (x1 : Int32) (x2 : Int32) : entryFrame m #[(.ref x0), (.int x1), (.int x2)] 3 = mkF m 0 #[rv x0, iv x1, iv x2] [] := by first | (simp [entryFrame, mkF, argsToLocals, Value.category]; done) | rfl
def Q2 (Z : State) (oa : Addr) (xm : Int32) (xd : Int32) (u1 : Value) (u2 : Value) (mm : Nat → Addr) (ea : Addr) (kE : ClassId) (mN : Nat) (h0 : Heap) (n0 : Nat) (rv_ : Option Value) (h_ : Heap) (L_ : List Loc) : Prop := rv_ = none ∧ Fr n0 L_ ∧ Keep h0 h_ [oa] ∧ Fld Z h_ oa "com/example/notewright/notewright/AnnualDay" "month" "I" (.int xm) ∧ Fld Z h_ oa "com/example/notewright/notewright/AnnualDay" "day" "I" (.int xd)
set_option maxRecDepth 65536 in
set_option maxHeartbeats 40000000 in
theorem rm2 (l : Launch) (Z : State) (a0 : Array Value) (hw : ∀ d ∈ tables_1, d.before a0 Z = true) (ws : List Jvm.Cond) (oa : Addr) (xm : Int32) (xd : Int32) (u1 : Value) (u2 : Value) (mm : Nat → Addr) (ea : Addr) (kE : ClassId) (mN : Nat) (h0 : Heap) (n0 : Nat) (Z0 : n0 ≤ h0.size) (E_ : Exa Z h0 oa "com/example/notewright/notewright/AnnualDay") (F1 : Fld Z h0 oa "com/example/notewright/notewright/AnnualDay" "month" "I" u1) (F2 : Fld Z h0 oa "com/example/notewright/notewright/AnnualDay" "day" "I" u2) (g_ : n0 ≤ oa) (O_ : Old Z n0 h0) (SE : Sta Z Z.heap "java/time/Month" "ENUMS" "[Ljava/time/Month;" (.ref ea)) (VE : Arv Z Z.heap ea kE (.object "java/time/Month") (12 : Int32) (own_refs 12 mm) .null) (EM : ∀ i, i < 12 → Exa Z Z.heap (mm i) "java/time/Month") (FM : ∀ i, i < 12 → Fld Z Z.heap (mm i) "java/lang/Enum" "ordinal" "I" (.int (Int32.ofNat i))) (hm : mN < 12) (hxm : xm = Int32.ofNat (mN + 1)) (hd1 : ¬ xd < (1 : Int32)) (hd2 : ¬ (own_mlen (Int32.ofNat mN)) < xd) :
    MetFree l (⟨"com/example/notewright/notewright/AnnualDay", "<init>", "(II)V"⟩ : MethodName) (head1 (Jvm.Cond.code (⟨"com/example/notewright/notewright/AnnualDay", "<init>", "(II)V"⟩ : MethodName) prog_7_method_1_code 3 none :: ws) ({ frames := 2, cells := 0, slots := 0, locals := 25 } : Room)) (fun a U => a = #[(.ref oa), (.int xm), (.int xd)] ∧ Z.Warmed39 U.vm ∧ U.heap = h0) (fun _ _ _ _ _ => True) (fun _ U o U' => ∃ v L, o = .returned v ∧ Q2 Z oa xm xd u1 u2 mm ea kE mN h0 n0 v U'.heap L ∧ FrameEnd U o U' L ({ frames := 2, cells := 0, slots := 0, locals := 25 } : Room).cells ({ frames := 2, cells := 0, slots := 0, locals := 25 } : Room).slots) := by
  refine MetFree.of_bodySF (plainFor_of_name pn_5) hisR ?_
  intro p e s m args below meth c s₁ Bd hml0 hP hK
  obtain ⟨rfl, hZ, hh⟩ := hP
  have hx := Bd.exec
  have hby := Bd.bytes
  have hml : c.maxLocals = 3 := hml0
  have hown : s.vm.findClass "com/example/notewright/notewright/AnnualDay" = some m.cls := findClass_of_methodNamed Bd.named
  have hnm := (name_of_methodNamed Bd.named Bd.method).1
  have X0 : Stand p l e ({ frames := 2, cells := 0, slots := 0, locals := 25 } : Room) s m #[(.ref oa), (.int xm), (.int xd)] below meth c s₁ [] 0 0 := Stand.of_body Bd
  have e0 : s₁.heap = h0 := by rw [← hh, Bd.state]; rfl
  have N0 := Fr.nil n0
  obtain ⟨G, hG, pre0⟩ : ∃ G : State → Prop, (∀ t, G t → Steps p.tables e below (s₁.setTop (entryFrame m #[(.ref oa), (.int xm), (.int xd)] 3)) t) ∧ ∀ t, own_K p e below m s₁ 0 #[rv oa, iv xm, iv xd] [] t → G t := ⟨fun t => Steps p.tables e below (s₁.setTop (entryFrame m #[(.ref oa), (.int xm), (.int xd)] 3)) t, fun _ k => k, fun t k => castTop (ef_2 m oa xm xd) k⟩
  obtain ⟨_, _, ⟨T1, L1, k1, n1⟩, -, X1, ⟨Lc1, hQ1, l1, y1, z1⟩, st1⟩ := X0.specialBack hx (y := (⟨"java/lang/Record", "<init>", "()V"⟩ : MethodName)) rfl hown (mvT hZ (hw _ (List.mem_of_getElem? (i := 11) rfl))) (mvT hZ (hw _ (List.mem_of_getElem? (i := 12) rfl))) (mvT hZ (hw _ (List.mem_of_getElem? (i := 15) rfl))) (by decide) (backOf (W := 0) (rm3 l Z a0 hw [] oa h0 n0 Z0 ) hZ (hw _ (List.mem_of_getElem? (i := 15) rfl)) (hw _ (List.mem_of_getElem? (i := 14) rfl)) (by decide) (by decide)) (g := (mkF m 1 #[rv oa, iv xm, iv xd] [(.ref oa)])) rfl (by rw [hml]; rfl) (Steps.refl _) (a := oa) (argsL := []) (rest := []) (lenOf pd_1 rfl) rfl (by show 2 * 0 + _ ≤ _; exact Nat.le_of_eq rfl) (hb hby d2_1) (fun _ _ => ⟨rfl, e0, (by decide : 0 + 0 ≤ _), (by decide : 0 + 0 ≤ _)⟩)
  dsimp only [Pt.U, Pt.locs, Pt.cells, Pt.slots] at X1 l1 y1 z1 st1 hQ1
  subst l1 y1 z1
  obtain ⟨rfl, Nq1, eh1⟩ := hQ1
  have N1 := Fr.app N0 Nq1
  obtain ⟨_, _, ⟨T2, L2, k2, n2⟩, -, X2, ⟨Lc2, hQ2, l2, y2, z2⟩, st2⟩ := Jvm.LawKit.callS X1 hx (y := (⟨"java/time/Month", "of", "(I)Ljava/time/Month;"⟩ : MethodName)) hown (mvT hZ (hw _ (List.mem_of_getElem? (i := 19) rfl))) (mvT hZ (hw _ (List.mem_of_getElem? (i := 20) rfl))) (mvT hZ (hw _ (List.mem_of_getElem? (i := 21) rfl))) (mvT hZ (hw _ (List.mem_of_getElem? (i := 22) rfl))) (by decide) (backOf (W := 1) (rm5 l Z a0 hw [] xm mm ea kE mN h0 n0 Z0 O_ SE VE hm hxm) hZ (hw _ (List.mem_of_getElem? (i := 22) rfl)) (hw _ (List.mem_of_getElem? (i := 21) rfl)) (by decide) (by decide)) (g := (mkF m 22 #[rv oa, iv xm, iv xd] [(.int xm), (.int xd)])) rfl (by rw [hml]; rfl) (argsL := [(.int xm)]) (rest := [(.int xd)]) (lenOf pd_2 rfl) rfl (by show 2 * 0 + _ ≤ _; exact Nat.le_of_eq rfl) (hb hby d2_22) (fun _ _ => ⟨rfl, eh1, (by decide : 0 + 0 ≤ _), (by decide : 0 + 0 ≤ _)⟩)
  dsimp only [Pt.U, Pt.locs, Pt.cells, Pt.slots] at X2 l2 y2 z2 st2 hQ2
  subst l2 y2 z2
  obtain ⟨rfl, Nq2, eh2⟩ := hQ2
  have N2 := Fr.app N1 Nq2
  have pre3 : ∀ t, own_K p e below m T2 25 #[rv oa, iv xm, iv xd] [(.ref (mm mN)), (.int xd)] t → G t := by
    intro t k
    refine pre0 t ?_
    show own_K p e below m s₁ 0 #[rv oa, iv xm, iv xd] [] _
    refine XS.aloadN X0.here hx rfl (hb hby d2_0) rfl rfl ?_
    show own_K p e below m s₁ 1 #[rv oa, iv xm, iv xd] [(.ref oa)] _
    refine st1.trans ?_
    show own_K p e below m T1 4 #[rv oa, iv xm, iv xd] [] _
    refine XS.iloadN X1.here hx rfl (hb hby d2_4) rfl ?_
    show own_K p e below m T1 5 #[rv oa, iv xm, iv xd] [(.int xm)] _
    refine XS.iconst X1.here hx rfl (hb hby d2_5) ?_
    show own_K p e below m T1 6 #[rv oa, iv xm, iv xd] [(.int (1 : Int32)), (.int xm)] _
    refine XS.icmpNo X1.here hx rfl (hb hby d2_6) rfl (flt (own_m1 hxm hm)).1 ?_
    show own_K p e below m T1 9 #[rv oa, iv xm, iv xd] [] _
    refine XS.iloadN X1.here hx rfl (hb hby d2_9) rfl ?_
    show own_K p e below m T1 10 #[rv oa, iv xm, iv xd] [(.int xm)] _
    refine XS.bipush X1.here hx rfl (hb hby d2_10) ?_
    show own_K p e below m T1 12 #[rv oa, iv xm, iv xd] [(.int (12 : Int32)), (.int xm)] _
    refine XS.icmpNo X1.here hx rfl (hb hby d2_12) rfl (flt (own_m12 hxm hm)).2.2.1 ?_
    show own_K p e below m T1 15 #[rv oa, iv xm, iv xd] [] _
    refine XS.iloadN X1.here hx rfl (hb hby d2_15) rfl ?_
    show own_K p e below m T1 16 #[rv oa, iv xm, iv xd] [(.int xd)] _
    refine XS.iconst X1.here hx rfl (hb hby d2_16) ?_
    show own_K p e below m T1 17 #[rv oa, iv xm, iv xd] [(.int (1 : Int32)), (.int xd)] _
    refine XS.icmpNo X1.here hx rfl (hb hby d2_17) rfl (flt hd1).1 ?_
    show own_K p e below m T1 20 #[rv oa, iv xm, iv xd] [] _
    refine XS.iloadN X1.here hx rfl (hb hby d2_20) rfl ?_
    show own_K p e below m T1 21 #[rv oa, iv xm, iv xd] [(.int xd)] _
    refine XS.iloadN X1.here hx rfl (hb hby d2_21) rfl ?_
    show own_K p e below m T1 22 #[rv oa, iv xm, iv xd] [(.int xm), (.int xd)] _
    refine st2 _ ?_
    exact k
  obtain ⟨cq4, kq4, q4a, q4b, q4c⟩ := isOf hZ eh2 (Exa.ext O_.2 (EM mN hm))
  obtain ⟨_, _, ⟨T4, L4, k4, n4⟩, -, X4, ⟨Lc4, hQ4, l4, y4, z4⟩, st4⟩ := X2.virtualBack hx (y := (⟨"java/time/Month", "maxLength", "()I"⟩ : MethodName)) (z := (⟨"java/time/Month", "maxLength", "()I"⟩ : MethodName)) hown (mvT hZ (hw _ (List.mem_of_getElem? (i := 24) rfl))) (mvT hZ (hw _ (List.mem_of_getElem? (i := 25) rfl))) (notFace_of_selects (args := #[]) (mvT hZ (hw _ (List.mem_of_getElem? (i := 27) rfl)))) (mvT hZ (hw _ (List.mem_of_getElem? (i := 27) rfl))) (mvT hZ (hw _ (List.mem_of_getElem? (i := 26) rfl))) (by decide) (backOf (W := 1) (rm6 l Z a0 hw [] (mm mN) (Int32.ofNat mN) h0 n0 Z0 (Exa.ext O_.2 (EM mN hm)) (Fld.ext O_.2 (FM mN hm))) hZ (hw _ (List.mem_of_getElem? (i := 28) rfl)) (hw _ (List.mem_of_getElem? (i := 21) rfl)) (by decide) (by decide)) q4a q4c (g := (mkF m 25 #[rv oa, iv xm, iv xd] [(.ref (mm mN)), (.int xd)])) rfl (by rw [hml]; rfl) (Steps.refl _) (argsL := []) (rest := [(.int xd)]) (lenOf pd_0 rfl) rfl (by show 2 * 0 + _ ≤ _; exact Nat.le_of_eq rfl) (hb hby d2_25) (fun _ _ => ⟨rfl, eh2, (by decide : 0 + 0 ≤ _), (by decide : 0 + 0 ≤ _)⟩)
  dsimp only [Pt.U, Pt.locs, Pt.cells, Pt.slots] at X4 l4 y4 z4 st4 hQ4
  subst l4 y4 z4
  obtain ⟨rfl, Nq4, eh4⟩ := hQ4
  have N4 := Fr.app N2 Nq4
  obtain ⟨T5, h5, X5, e5, W5, st5⟩ := putF X4 hx hZ hown (host := "") (Or.inl (hw _ (List.mem_of_getElem? (i := 38) rfl))) Via.refl eh4 F1 E_ (Or.inr ⟨(hw _ (List.mem_of_getElem? (i := 39) rfl)), rfl, hnm⟩) (hw _ (List.mem_of_getElem? (i := 6) rfl)) (ty := .int) (by decide) rfl rfl (g := (mkF m 48 #[rv oa, iv xm, iv xd] [(.int xm), (.ref oa)])) rfl rfl (hb hby d2_48)
  have f5w := F1.same W5
  have K5 : Keep h0 h5 [oa] := (Keep.refl h0 [oa]).wr W5 (Or.inl (List.mem_of_getElem? (i := 0) rfl))
  have N5 := Fr.snoc X5 N4 g_
  have sz5 : n0 ≤ h5.size := Nat.le_trans Z0 (Keep.of_wr W5).1
  have f7 : Fld Z h5 oa "com/example/notewright/notewright/AnnualDay" "day" "I" u2 := (F2.other W5 (Or.inr (slot_ne (Or.inr (hw _ (List.mem_of_getElem? (i := 41) rfl))) (Or.inr (hw _ (List.mem_of_getElem? (i := 39) rfl))) (by decide) (t := .int) (t' := .int) (by decide) (by decide))))
  have f8 : Exa Z h5 oa "com/example/notewright/notewright/AnnualDay" := (E_.wr W5)
  obtain ⟨T6, h6, X6, e6, W6, st6⟩ := putF X5 hx hZ hown (host := "") (Or.inl (hw _ (List.mem_of_getElem? (i := 40) rfl))) Via.refl e5 f7 f8 (Or.inr ⟨(hw _ (List.mem_of_getElem? (i := 41) rfl)), rfl, hnm⟩) (hw _ (List.mem_of_getElem? (i := 6) rfl)) (ty := .int) (by decide) rfl rfl (g := (mkF m 53 #[rv oa, iv xm, iv xd] [(.int xd), (.ref oa)])) rfl rfl (hb hby d2_53)
  have f6w := f7.same W6
  have K6 : Keep h0 h6 [oa] := K5.wr W6 (Or.inl (List.mem_of_getElem? (i := 0) rfl))
  have N6 := Fr.snoc X6 N5 g_
  have sz6 : n0 ≤ h6.size := Nat.le_trans sz5 (Keep.of_wr W6).1
  have pre9 : ∀ t, own_K p e below m T6 56 #[rv oa, iv xm, iv xd] [] t → G t := by
    intro t k
    refine pre3 t ?_
    show own_K p e below m T2 25 #[rv oa, iv xm, iv xd] [(.ref (mm mN)), (.int xd)] _
    refine st4.trans ?_
    show own_K p e below m T4 28 #[rv oa, iv xm, iv xd] [(.int (own_mlen (Int32.ofNat mN))), (.int xd)] _
    refine XS.icmpYes X4.here hx rfl (pc0 := 28) (pc' := 46) rfl (hb hby d2_28) rfl (flt hd2).2.2.2 (by decide) (by decide) ?_
    show own_K p e below m T4 46 #[rv oa, iv xm, iv xd] [] _
    refine XS.aloadN X4.here hx rfl (hb hby d2_46) rfl rfl ?_
    show own_K p e below m T4 47 #[rv oa, iv xm, iv xd] [(.ref oa)] _
    refine XS.iloadN X4.here hx rfl (hb hby d2_47) rfl ?_
    show own_K p e below m T4 48 #[rv oa, iv xm, iv xd] [(.int xm), (.ref oa)] _
    refine st5 _ ?_
    show own_K p e below m T5 51 #[rv oa, iv xm, iv xd] [] _
    refine XS.aloadN X5.here hx rfl (hb hby d2_51) rfl rfl ?_
    show own_K p e below m T5 52 #[rv oa, iv xm, iv xd] [(.ref oa)] _
    refine XS.iloadN X5.here hx rfl (hb hby d2_52) rfl ?_
    show own_K p e below m T5 53 #[rv oa, iv xm, iv xd] [(.int xd), (.ref oa)] _
    refine st6 _ ?_
    exact k
  have f10 : Fld Z h6 oa "com/example/notewright/notewright/AnnualDay" "month" "I" (.int xm) := (f5w.other W6 (Or.inr (slot_ne (Or.inr (hw _ (List.mem_of_getElem? (i := 39) rfl))) (Or.inr (hw _ (List.mem_of_getElem? (i := 41) rfl))) (by decide) (t := .int) (t' := .int) (by decide) (by decide))))
  obtain ⟨fs, hr, hrun, hended, hW, hsame⟩ := X6.leave (v := none) (fun _ => rfl)
  refine ⟨_, _, hG _ (pre9 _ ?_), hrun, hended, _, _, rfl, ?_, ⟨_, rfl⟩, hW, hsame.mono (by decide) (by decide)⟩
  · show own_K p e below m T6 56 #[rv oa, iv xm, iv xd] [] _
    exact X6.returnOut hx Bd.returns (hb hby d2_56) hr
  · show Q2 Z oa xm xd u1 u2 mm ea kE mN h0 n0 _ T6.heap _
    rw [e6]
    exact ⟨rfl, N6, K6, f10, f6w⟩

theorem d8_0 : decode prog_7_method_3_code 0 = .ok (.aload_n 1, 1) := by decide +kernel
theorem d8_1 : decode prog_7_method_3_code 1 = .ok (.instanceof 27, 3) := by decide +kernel
theorem d8_4 : decode prog_7_method_3_code 4 = .ok (.ifCond .eq 34, 3) := by decide +kernel
theorem d8_7 : decode prog_7_method_3_code 7 = .ok (.aload_n 1, 1) := by decide +kernel
theorem d8_8 : decode prog_7_method_3_code 8 = .ok (.checkcast 27, 3) := by decide +kernel
theorem d8_11 : decode prog_7_method_3_code 11 = .ok (.astore_n 2, 1) := by decide +kernel
theorem d8_12 : decode prog_7_method_3_code 12 = .ok (.aload_n 0, 1) := by decide +kernel
theorem d8_13 : decode prog_7_method_3_code 13 = .ok (.getfield 26, 3) := by decide +kernel
theorem d8_16 : decode prog_7_method_3_code 16 = .ok (.aload_n 2, 1) := by decide +kernel
theorem d8_17 : decode prog_7_method_3_code 17 = .ok (.getfield 26, 3) := by decide +kernel
theorem d8_20 : decode prog_7_method_3_code 20 = .ok (.if_icmp .ne 18, 3) := by decide +kernel
theorem d8_23 : decode prog_7_method_3_code 23 = .ok (.aload_n 0, 1) := by decide +kernel
theorem d8_24 : decode prog_7_method_3_code 24 = .ok (.getfield 32, 3) := by decide +kernel
theorem d8_27 : decode prog_7_method_3_code 27 = .ok (.aload_n 2, 1) := by decide +kernel
theorem d8_28 : decode prog_7_method_3_code 28 = .ok (.getfield 32, 3) := by decide +kernel
theorem d8_31 : decode prog_7_method_3_code 31 = .ok (.if_icmp .ne 7, 3) := by decide +kernel
theorem d8_34 : decode prog_7_method_3_code 34 = .ok (.iconst 1, 1) := by decide +kernel
theorem d8_35 : decode prog_7_method_3_code 35 = .ok (.goto 4, 3) := by decide +kernel
theorem d8_39 : decode prog_7_method_3_code 39 = .ok (.ireturn, 1) := by decide +kernel
theorem d8_38 : decode prog_7_method_3_code 38 = .ok (.iconst 0, 1) := by decide +kernel
theorem ef_8 (m : MethodId) (x0 : Addr) (x1 : Addr) : entryFrame m #[(.ref x0), (.ref x1)] 3 = mkF m 0 #[rv x0, rv x1, .unset] [] := by first | (simp [entryFrame, mkF, argsToLocals, Value.category]; done) | rfl
def Q8 (Z : State) (oa : Addr) (ob : Addr) (xm1 : Int32) (xd1 : Int32) (xm2 : Int32) (xd2 : Int32) (h0 : Heap) (n0 : Nat) (rv_ : Option Value) (h_ : Heap) (L_ : List Loc) : Prop := rv_ = some (.int (if xm1 = xm2 then (if xd1 = xd2 then (1 : Int32) else (0 : Int32)) else (0 : Int32))) ∧ Fr n0 L_ ∧ h_ = h0
set_option maxRecDepth 65536 in
set_option maxHeartbeats 40000000 in
theorem rm8 (l : Launch) (Z : State) (a0 : Array Value) (hw : ∀ d ∈ tables_1, d.before a0 Z = true) (ws : List Jvm.Cond) (oa : Addr) (ob : Addr) (xm1 : Int32) (xd1 : Int32) (xm2 : Int32) (xd2 : Int32) (h0 : Heap) (n0 : Nat) (Z0 : n0 ≤ h0.size) (F1 : Fld Z h0 oa "com/example/notewright/notewright/AnnualDay" "month" "I" (.int xm1)) (F2 : Fld Z h0 oa "com/example/notewright/notewright/AnnualDay" "day" "I" (.int xd1)) (Eb : Exa Z h0 ob "com/example/notewright/notewright/AnnualDay") (F3 : Fld Z h0 ob "com/example/notewright/notewright/AnnualDay" "month" "I" (.int xm2)) (F4 : Fld Z h0 ob "com/example/notewright/notewright/AnnualDay" "day" "I" (.int xd2)) :
    MetFree l (⟨"com/example/notewright/notewright/AnnualDay", "equals", "(Ljava/lang/Object;)Z"⟩ : MethodName) (head1 (Jvm.Cond.code (⟨"com/example/notewright/notewright/AnnualDay", "equals", "(Ljava/lang/Object;)Z"⟩ : MethodName) prog_7_method_3_code 3 (some .boolean) :: ws) ({ frames := 0, cells := 0, slots := 0, locals := 0 } : Room)) (fun a U => a = #[(.ref oa), (.ref ob)] ∧ Z.Warmed39 U.vm ∧ U.heap = h0) (fun _ _ _ _ _ => True) (fun _ U o U' => ∃ v L, o = .returned v ∧ Q8 Z oa ob xm1 xd1 xm2 xd2 h0 n0 v U'.heap L ∧ FrameEnd U o U' L ({ frames := 0, cells := 0, slots := 0, locals := 0 } : Room).cells ({ frames := 0, cells := 0, slots := 0, locals := 0 } : Room).slots) := by
  refine MetFree.of_bodySF (plainFor_of_name pn_5) hisR ?_
  intro p e s m args below meth c s₁ Bd hml0 hP hK
  obtain ⟨rfl, hZ, hh⟩ := hP
  have hx := Bd.exec
  have hby := Bd.bytes
  have hml : c.maxLocals = 3 := hml0
  have hown : s.vm.findClass "com/example/notewright/notewright/AnnualDay" = some m.cls := findClass_of_methodNamed Bd.named
  have hnm := (name_of_methodNamed Bd.named Bd.method).1
  have X0 : Stand p l e ({ frames := 0, cells := 0, slots := 0, locals := 0 } : Room) s m #[(.ref oa), (.ref ob)] below meth c s₁ [] 0 0 := Stand.of_body Bd
  have e0 : s₁.heap = h0 := by rw [← hh, Bd.state]; rfl
  have N0 := Fr.nil n0
  obtain ⟨G, hG, pre0⟩ : ∃ G : State → Prop, (∀ t, G t → Steps p.tables e below (s₁.setTop (entryFrame m #[(.ref oa), (.ref ob)] 3)) t) ∧ ∀ t, own_K p e below m s₁ 0 #[rv oa, rv ob, .unset] [] t → G t := ⟨fun t => Steps p.tables e below (s₁.setTop (entryFrame m #[(.ref oa), (.ref ob)] 3)) t, fun _ k => k, fun t k => castTop (ef_8 m oa ob) k⟩
  obtain ⟨T1, X1, e1, st1⟩ := instY X0 hx hZ hown (hw _ (List.mem_of_getElem? (i := 47) rfl)) e0 (Ins.self Eb) (g := (mkF m 1 #[rv oa, rv ob, .unset] [(.ref ob)])) rfl rfl (hb hby d8_1)
  obtain ⟨T2, X2, e2, st2⟩ := castY X1 hx hZ hown (hw _ (List.mem_of_getElem? (i := 47) rfl)) e1 (Ins.self Eb) (g := (mkF m 8 #[rv oa, rv ob, .unset] [(.ref ob)])) rfl rfl (hb hby d8_8)
  obtain ⟨T3, X3, e3, st3⟩ := getF X2 hx hZ hown (host := "") (Or.inl (hw _ (List.mem_of_getElem? (i := 38) rfl))) Via.refl e2 F1 (g := (mkF m 13 #[rv oa, rv ob, rv ob] [(.ref oa)])) rfl rfl (hb hby d8_13)
  obtain ⟨T4, X4, e4, st4⟩ := getF X3 hx hZ hown (host := "") (Or.inl (hw _ (List.mem_of_getElem? (i := 38) rfl))) Via.refl e3 F3 (g := (mkF m 17 #[rv oa, rv ob, rv ob] [(.ref ob), (.int xm1)])) rfl rfl (hb hby d8_17)
  have pre5 : ∀ t, own_K p e below m T4 20 #[rv oa, rv ob, rv ob] [(.int xm2), (.int xm1)] t → G t := by
    intro t k
    refine pre0 t ?_
    show own_K p e below m s₁ 0 #[rv oa, rv ob, .unset] [] _
    refine XS.aloadN X0.here hx rfl (hb hby d8_0) rfl rfl ?_
    show own_K p e below m s₁ 1 #[rv oa, rv ob, .unset] [(.ref ob)] _
    refine st1 _ ?_
    show own_K p e below m T1 4 #[rv oa, rv ob, .unset] [(.int (1 : Int32))] _
    refine XS.ifNo X1.here hx rfl (hb hby d8_4) rfl ((if0 _ _).trans (feq (by decide : ¬ ((1 : Int32) = (0 : Int32)))).1) ?_
    show own_K p e below m T1 7 #[rv oa, rv ob, .unset] [] _
    refine XS.aloadN X1.here hx rfl (hb hby d8_7) rfl rfl ?_
    show own_K p e below m T1 8 #[rv oa, rv ob, .unset] [(.ref ob)] _
    refine st2 _ ?_
    show own_K p e below m T2 11 #[rv oa, rv ob, .unset] [(.ref ob)] _
    refine XS.astoreN X2.here hx rfl (hb hby d8_11) rfl rfl (l' := #[rv oa, rv ob, rv ob]) rfl ?_
    show own_K p e below m T2 12 #[rv oa, rv ob, rv ob] [] _
    refine XS.aloadN X2.here hx rfl (hb hby d8_12) rfl rfl ?_
    show own_K p e below m T2 13 #[rv oa, rv ob, rv ob] [(.ref oa)] _
    refine st3 _ ?_
    show own_K p e below m T3 16 #[rv oa, rv ob, rv ob] [(.int xm1)] _
    refine XS.aloadN X3.here hx rfl (hb hby d8_16) rfl rfl ?_
    show own_K p e below m T3 17 #[rv oa, rv ob, rv ob] [(.ref ob), (.int xm1)] _
    refine st4 _ ?_
    exact k
  by_cases hc20_6 : xm1 = xm2
  · obtain ⟨T7, X7, e7, st7⟩ := getF X4 hx hZ hown (host := "") (Or.inl (hw _ (List.mem_of_getElem? (i := 40) rfl))) Via.refl e4 F2 (g := (mkF m 24 #[rv oa, rv ob, rv ob] [(.ref oa)])) rfl rfl (hb hby d8_24)
    obtain ⟨T8, X8, e8, st8⟩ := getF X7 hx hZ hown (host := "") (Or.inl (hw _ (List.mem_of_getElem? (i := 40) rfl))) Via.refl e7 F4 (g := (mkF m 28 #[rv oa, rv ob, rv ob] [(.ref ob), (.int xd1)])) rfl rfl (hb hby d8_28)
    have pre9 : ∀ t, own_K p e below m T8 31 #[rv oa, rv ob, rv ob] [(.int xd2), (.int xd1)] t → G t := by
      intro t k
      refine pre5 t ?_
      show own_K p e below m T4 20 #[rv oa, rv ob, rv ob] [(.int xm2), (.int xm1)] _
      refine XS.icmpNo X4.here hx rfl (hb hby d8_20) rfl (teq hc20_6).2 ?_
      show own_K p e below m T4 23 #[rv oa, rv ob, rv ob] [] _
      refine XS.aloadN X4.here hx rfl (hb hby d8_23) rfl rfl ?_
      show own_K p e below m T4 24 #[rv oa, rv ob, rv ob] [(.ref oa)] _
      refine st7 _ ?_
      show own_K p e below m T7 27 #[rv oa, rv ob, rv ob] [(.int xd1)] _
      refine XS.aloadN X7.here hx rfl (hb hby d8_27) rfl rfl ?_
      show own_K p e below m T7 28 #[rv oa, rv ob, rv ob] [(.ref ob), (.int xd1)] _
      refine st8 _ ?_
      exact k
    by_cases hc31_10 : xd1 = xd2
    · have pre11 : ∀ t, own_K p e below m T8 39 #[rv oa, rv ob, rv ob] [(.int (1 : Int32))] t → G t := by
        intro t k
        refine pre9 t ?_
        show own_K p e below m T8 31 #[rv oa, rv ob, rv ob] [(.int xd2), (.int xd1)] _
        refine XS.icmpNo X8.here hx rfl (hb hby d8_31) rfl (teq hc31_10).2 ?_
        show own_K p e below m T8 34 #[rv oa, rv ob, rv ob] [] _
        refine XS.iconst X8.here hx rfl (hb hby d8_34) ?_
        show own_K p e below m T8 35 #[rv oa, rv ob, rv ob] [(.int (1 : Int32))] _
        refine XS.goto X8.here hx rfl (pc0 := 35) (pc' := 39) rfl (hb hby d8_35) (by decide) (by decide) ?_
        exact k
      obtain ⟨fs, hr, hrun, hended, hW, hsame⟩ := X8.leave (v := some (.int (1 : Int32))) (fun h => by rw [Bd.returns] at h; cases h)
      refine ⟨_, _, hG _ (pre11 _ ?_), hrun, hended, _, _, rfl, ?_, ⟨_, rfl⟩, hW, hsame.mono (by decide) (by decide)⟩
      · show own_K p e below m T8 39 #[rv oa, rv ob, rv ob] [(.int (1 : Int32))] _
        exact retN X8 hx (t := .boolean) Bd.returns (by simp) (hb hby d8_39) hr
      · show Q8 Z oa ob xm1 xd1 xm2 xd2 h0 n0 _ T8.heap _
        rw [e8]
        exact ⟨(by simp only [if_pos hc20_6, if_pos hc31_10]), N0, rfl⟩
    · have pre12 : ∀ t, own_K p e below m T8 39 #[rv oa, rv ob, rv ob] [(.int (0 : Int32))] t → G t := by
        intro t k
        refine pre9 t ?_
        show own_K p e below m T8 31 #[rv oa, rv ob, rv ob] [(.int xd2), (.int xd1)] _
        refine XS.icmpYes X8.here hx rfl (pc0 := 31) (pc' := 38) rfl (hb hby d8_31) rfl (feq hc31_10).2 (by decide) (by decide) ?_
        show own_K p e below m T8 38 #[rv oa, rv ob, rv ob] [] _
        refine XS.iconst X8.here hx rfl (hb hby d8_38) ?_
        exact k
      obtain ⟨fs, hr, hrun, hended, hW, hsame⟩ := X8.leave (v := some (.int (0 : Int32))) (fun h => by rw [Bd.returns] at h; cases h)
      refine ⟨_, _, hG _ (pre12 _ ?_), hrun, hended, _, _, rfl, ?_, ⟨_, rfl⟩, hW, hsame.mono (by decide) (by decide)⟩
      · show own_K p e below m T8 39 #[rv oa, rv ob, rv ob] [(.int (0 : Int32))] _
        exact retN X8 hx (t := .boolean) Bd.returns (by simp) (hb hby d8_39) hr
      · show Q8 Z oa ob xm1 xd1 xm2 xd2 h0 n0 _ T8.heap _
        rw [e8]
        exact ⟨(by simp only [if_pos hc20_6, if_neg hc31_10]), N0, rfl⟩
  · have pre13 : ∀ t, own_K p e below m T4 39 #[rv oa, rv ob, rv ob] [(.int (0 : Int32))] t → G t := by
      intro t k
      refine pre5 t ?_
      show own_K p e below m T4 20 #[rv oa, rv ob, rv ob] [(.int xm2), (.int xm1)] _
      refine XS.icmpYes X4.here hx rfl (pc0 := 20) (pc' := 38) rfl (hb hby d8_20) rfl (feq hc20_6).2 (by decide) (by decide) ?_
      show own_K p e below m T4 38 #[rv oa, rv ob, rv ob] [] _
      refine XS.iconst X4.here hx rfl (hb hby d8_38) ?_
      exact k
    obtain ⟨fs, hr, hrun, hended, hW, hsame⟩ := X4.leave (v := some (.int (0 : Int32))) (fun h => by rw [Bd.returns] at h; cases h)
    refine ⟨_, _, hG _ (pre13 _ ?_), hrun, hended, _, _, rfl, ?_, ⟨_, rfl⟩, hW, hsame.mono (by decide) (by decide)⟩
    · show own_K p e below m T4 39 #[rv oa, rv ob, rv ob] [(.int (0 : Int32))] _
      exact retN X4 hx (t := .boolean) Bd.returns (by simp) (hb hby d8_39) hr
    · show Q8 Z oa ob xm1 xd1 xm2 xd2 h0 n0 _ T4.heap _
      rw [e4]
      exact ⟨(by simp only [if_neg hc20_6]), N0, rfl⟩

theorem ef_8n (m : MethodId) (x0 : Addr) : entryFrame m #[(.ref x0), .null] 3 = mkF m 0 #[rv x0, .val .null, .unset] [] := by first | (simp [entryFrame, mkF, argsToLocals, Value.category]; done) | rfl
def Q8n (Z : State) (oa : Addr) (h0 : Heap) (n0 : Nat) (rv_ : Option Value) (h_ : Heap) (L_ : List Loc) : Prop := rv_ = some (.int (0 : Int32)) ∧ Fr n0 L_ ∧ h_ = h0
set_option maxRecDepth 65536 in
set_option maxHeartbeats 40000000 in
theorem rm8n (l : Launch) (Z : State) (a0 : Array Value) (hw : ∀ d ∈ tables_1, d.before a0 Z = true) (ws : List Jvm.Cond) (oa : Addr) (h0 : Heap) (n0 : Nat) (Z0 : n0 ≤ h0.size) :
    MetFree l (⟨"com/example/notewright/notewright/AnnualDay", "equals", "(Ljava/lang/Object;)Z"⟩ : MethodName) (head1 (Jvm.Cond.code (⟨"com/example/notewright/notewright/AnnualDay", "equals", "(Ljava/lang/Object;)Z"⟩ : MethodName) prog_7_method_3_code 3 (some .boolean) :: ws) ({ frames := 0, cells := 0, slots := 0, locals := 0 } : Room)) (fun a U => a = #[(.ref oa), .null] ∧ Z.Warmed39 U.vm ∧ U.heap = h0) (fun _ _ _ _ _ => True) (fun _ U o U' => ∃ v L, o = .returned v ∧ Q8n Z oa h0 n0 v U'.heap L ∧ FrameEnd U o U' L ({ frames := 0, cells := 0, slots := 0, locals := 0 } : Room).cells ({ frames := 0, cells := 0, slots := 0, locals := 0 } : Room).slots) := by
  refine MetFree.of_bodySF (plainFor_of_name pn_5) hisR ?_
  intro p e s m args below meth c s₁ Bd hml0 hP hK
  obtain ⟨rfl, hZ, hh⟩ := hP
  have hx := Bd.exec
  have hby := Bd.bytes
  have hml : c.maxLocals = 3 := hml0
  have hown : s.vm.findClass "com/example/notewright/notewright/AnnualDay" = some m.cls := findClass_of_methodNamed Bd.named
  have hnm := (name_of_methodNamed Bd.named Bd.method).1
  have X0 : Stand p l e ({ frames := 0, cells := 0, slots := 0, locals := 0 } : Room) s m #[(.ref oa), .null] below meth c s₁ [] 0 0 := Stand.of_body Bd
  have e0 : s₁.heap = h0 := by rw [← hh, Bd.state]; rfl
  have N0 := Fr.nil n0
  obtain ⟨G, hG, pre0⟩ : ∃ G : State → Prop, (∀ t, G t → Steps p.tables e below (s₁.setTop (entryFrame m #[(.ref oa), .null] 3)) t) ∧ ∀ t, own_K p e below m s₁ 0 #[rv oa, .val .null, .unset] [] t → G t := ⟨fun t => Steps p.tables e below (s₁.setTop (entryFrame m #[(.ref oa), .null] 3)) t, fun _ k => k, fun t k => castTop (ef_8n m oa) k⟩
  have pre2 : ∀ t, own_K p e below m s₁ 39 #[rv oa, .val .null, .unset] [(.int (0 : Int32))] t → G t := by
    intro t k
    refine pre0 t ?_
    show own_K p e below m s₁ 0 #[rv oa, .val .null, .unset] [] _
    refine XS.aloadN X0.here hx rfl (hb hby d8_0) rfl rfl ?_
    show own_K p e below m s₁ 1 #[rv oa, .val .null, .unset] [.null] _
    refine X0.instanceofNull hx (g := (mkF m 1 #[rv oa, .val .null, .unset] [.null])) rfl rfl (hb hby d8_1) _ ?_
    show own_K p e below m s₁ 4 #[rv oa, .val .null, .unset] [(.int (0 : Int32))] _
    refine XS.ifYes X0.here hx rfl (pc0 := 4) (pc' := 38) rfl (hb hby d8_4) rfl ((if0 _ _).trans (teq (by decide : (0 : Int32) = (0 : Int32))).1) (by decide) (by decide) ?_
    show own_K p e below m s₁ 38 #[rv oa, .val .null, .unset] [] _
    refine XS.iconst X0.here hx rfl (hb hby d8_38) ?_
    exact k
  obtain ⟨fs, hr, hrun, hended, hW, hsame⟩ := X0.leave (v := some (.int (0 : Int32))) (fun h => by rw [Bd.returns] at h; cases h)
  refine ⟨_, _, hG _ (pre2 _ ?_), hrun, hended, _, _, rfl, ?_, ⟨_, rfl⟩, hW, hsame.mono (by decide) (by decide)⟩
  · show own_K p e below m s₁ 39 #[rv oa, .val .null, .unset] [(.int (0 : Int32))] _
    exact retN X0 hx (t := .boolean) Bd.returns (by simp) (hb hby d8_39) hr
  · show Q8n Z oa h0 n0 _ s₁.heap _
    rw [e0]
    exact ⟨rfl, N0, rfl⟩

def Q8i (Z : State) (oa : Addr) (ob : Addr) (h0 : Heap) (n0 : Nat) (rv_ : Option Value) (h_ : Heap) (L_ : List Loc) : Prop := rv_ = some (.int (0 : Int32)) ∧ Fr n0 L_ ∧ h_ = h0
set_option maxRecDepth 65536 in
set_option maxHeartbeats 40000000 in
theorem rm8i (l : Launch) (Z : State) (a0 : Array Value) (hw : ∀ d ∈ tables_1, d.before a0 Z = true) (ws : List Jvm.Cond) (oa : Addr) (ob : Addr) (h0 : Heap) (n0 : Nat) (Z0 : n0 ≤ h0.size) (Eb : Exa Z h0 ob "java/lang/Integer") (hno : ∃ c t, Z.vm.findClass "java/lang/Integer" = some c ∧ Z.vm.findClass "com/example/notewright/notewright/AnnualDay" = some t ∧ Z.vm.assignable c t = false) :
    MetFree l (⟨"com/example/notewright/notewright/AnnualDay", "equals", "(Ljava/lang/Object;)Z"⟩ : MethodName) (head1 (Jvm.Cond.code (⟨"com/example/notewright/notewright/AnnualDay", "equals", "(Ljava/lang/Object;)Z"⟩ : MethodName) prog_7_method_3_code 3 (some .boolean) :: ws) ({ frames := 0, cells := 0, slots := 0, locals := 0 } : Room)) (fun a U => a = #[(.ref oa), (.ref ob)] ∧ Z.Warmed39 U.vm ∧ U.heap = h0) (fun _ _ _ _ _ => True) (fun _ U o U' => ∃ v L, o = .returned v ∧ Q8i Z oa ob h0 n0 v U'.heap L ∧ FrameEnd U o U' L ({ frames := 0, cells := 0, slots := 0, locals := 0 } : Room).cells ({ frames := 0, cells := 0, slots := 0, locals := 0 } : Room).slots) := by
  refine MetFree.of_bodySF (plainFor_of_name pn_5) hisR ?_
  intro p e s m args below meth c s₁ Bd hml0 hP hK
  obtain ⟨rfl, hZ, hh⟩ := hP
  have hx := Bd.exec
  have hby := Bd.bytes
  have hml : c.maxLocals = 3 := hml0
  have hown : s.vm.findClass "com/example/notewright/notewright/AnnualDay" = some m.cls := findClass_of_methodNamed Bd.named
  have hnm := (name_of_methodNamed Bd.named Bd.method).1
  have X0 : Stand p l e ({ frames := 0, cells := 0, slots := 0, locals := 0 } : Room) s m #[(.ref oa), (.ref ob)] below meth c s₁ [] 0 0 := Stand.of_body Bd
  have e0 : s₁.heap = h0 := by rw [← hh, Bd.state]; rfl
  have N0 := Fr.nil n0
  obtain ⟨G, hG, pre0⟩ : ∃ G : State → Prop, (∀ t, G t → Steps p.tables e below (s₁.setTop (entryFrame m #[(.ref oa), (.ref ob)] 3)) t) ∧ ∀ t, own_K p e below m s₁ 0 #[rv oa, rv ob, .unset] [] t → G t := ⟨fun t => Steps p.tables e below (s₁.setTop (entryFrame m #[(.ref oa), (.ref ob)] 3)) t, fun _ k => k, fun t k => castTop (ef_8 m oa ob) k⟩
  obtain ⟨T1, X1, e1, st1⟩ := instNo X0 hx hZ hown (hw _ (List.mem_of_getElem? (i := 47) rfl)) e0 Eb hno (g := (mkF m 1 #[rv oa, rv ob, .unset] [(.ref ob)])) rfl rfl (hb hby d8_1)
  have pre2 : ∀ t, own_K p e below m T1 39 #[rv oa, rv ob, .unset] [(.int (0 : Int32))] t → G t := by
    intro t k
    refine pre0 t ?_
    show own_K p e below m s₁ 0 #[rv oa, rv ob, .unset] [] _
    refine XS.aloadN X0.here hx rfl (hb hby d8_0) rfl rfl ?_
    show own_K p e below m s₁ 1 #[rv oa, rv ob, .unset] [(.ref ob)] _
    refine st1 _ ?_
    show own_K p e below m T1 4 #[rv oa, rv ob, .unset] [(.int (0 : Int32))] _
    refine XS.ifYes X1.here hx rfl (pc0 := 4) (pc' := 38) rfl (hb hby d8_4) rfl ((if0 _ _).trans (teq (by decide : (0 : Int32) = (0 : Int32))).1) (by decide) (by decide) ?_
    show own_K p e below m T1 38 #[rv oa, rv ob, .unset] [] _
    refine XS.iconst X1.here hx rfl (hb hby d8_38) ?_
    exact k
  obtain ⟨fs, hr, hrun, hended, hW, hsame⟩ := X1.leave (v := some (.int (0 : Int32))) (fun h => by rw [Bd.returns] at h; cases h)
  refine ⟨_, _, hG _ (pre2 _ ?_), hrun, hended, _, _, rfl, ?_, ⟨_, rfl⟩, hW, hsame.mono (by decide) (by decide)⟩
  · show own_K p e below m T1 39 #[rv oa, rv ob, .unset] [(.int (0 : Int32))] _
    exact retN X1 hx (t := .boolean) Bd.returns (by simp) (hb hby d8_39) hr
  · show Q8i Z oa ob h0 n0 _ T1.heap _
    rw [e1]
    exact ⟨rfl, N0, rfl⟩

theorem d10_0 : decode jdk_33_method_23_code 0 = .ok (.aload_n 0, 1) := by decide +kernel
theorem d10_1 : decode jdk_33_method_23_code 1 = .ok (.invokespecial 202, 3) := by decide +kernel
theorem d10_4 : decode jdk_33_method_23_code 4 = .ok (.aload_n 0, 1) := by decide +kernel
theorem d10_5 : decode jdk_33_method_23_code 5 = .ok (.iload_n 1, 1) := by decide +kernel
theorem d10_6 : decode jdk_33_method_23_code 6 = .ok (.putfield 205, 3) := by decide +kernel
theorem d10_9 : decode jdk_33_method_23_code 9 = .ok (.return_, 1) := by decide +kernel
theorem pn_6 : plainName "java/lang/Integer" = true := by first | (simp [plainName, overriddenIn]; done) | decide +kernel
theorem ef_10 (m : MethodId) (x0 : Addr) (x1 : Int32) : entryFrame m #[(.ref x0), (.int x1)] 2 = mkF m 0 #[rv x0, iv x1] [] := by first | (simp [entryFrame, mkF, argsToLocals, Value.category]; done) | rfl
def Q10 (Z : State) (oa : Addr) (xv : Int32) (u1 : Value) (h0 : Heap) (n0 : Nat) (rv_ : Option Value) (h_ : Heap) (L_ : List Loc) : Prop := rv_ = none ∧ Fr n0 L_ ∧ Keep h0 h_ [oa]
set_option maxRecDepth 65536 in
set_option maxHeartbeats 40000000 in
theorem rm10 (l : Launch) (Z : State) (a0 : Array Value) (hw : ∀ d ∈ tables_1, d.before a0 Z = true) (ws : List Jvm.Cond) (oa : Addr) (xv : Int32) (u1 : Value) (h0 : Heap) (n0 : Nat) (Z0 : n0 ≤ h0.size) (E_ : Exa Z h0 oa "java/lang/Integer") (F1 : Fld Z h0 oa "java/lang/Integer" "value" "I" u1) (g_ : n0 ≤ oa) :
    MetFree l (⟨"java/lang/Integer", "<init>", "(I)V"⟩ : MethodName) (head1 (Jvm.Cond.code (⟨"java/lang/Integer", "<init>", "(I)V"⟩ : MethodName) jdk_33_method_23_code 2 none :: ws) ({ frames := 2, cells := 0, slots := 0, locals := 24 } : Room)) (fun a U => a = #[(.ref oa), (.int xv)] ∧ Z.Warmed39 U.vm ∧ U.heap = h0) (fun _ _ _ _ _ => True) (fun _ U o U' => ∃ v L, o = .returned v ∧ Q10 Z oa xv u1 h0 n0 v U'.heap L ∧ FrameEnd U o U' L ({ frames := 2, cells := 0, slots := 0, locals := 24 } : Room).cells ({ frames := 2, cells := 0, slots := 0, locals := 24 } : Room).slots) := by
  refine MetFree.of_bodySF (plainFor_of_name pn_6) hisR ?_
  intro p e s m args below meth c s₁ Bd hml0 hP hK
  obtain ⟨rfl, hZ, hh⟩ := hP
  have hx := Bd.exec
  have hby := Bd.bytes
  have hml : c.maxLocals = 2 := hml0
  have hown : s.vm.findClass "java/lang/Integer" = some m.cls := findClass_of_methodNamed Bd.named
  have hnm := (name_of_methodNamed Bd.named Bd.method).1
  have X0 : Stand p l e ({ frames := 2, cells := 0, slots := 0, locals := 24 } : Room) s m #[(.ref oa), (.int xv)] below meth c s₁ [] 0 0 := Stand.of_body Bd
  have e0 : s₁.heap = h0 := by rw [← hh, Bd.state]; rfl
  have N0 := Fr.nil n0
  obtain ⟨G, hG, pre0⟩ : ∃ G : State → Prop, (∀ t, G t → Steps p.tables e below (s₁.setTop (entryFrame m #[(.ref oa), (.int xv)] 2)) t) ∧ ∀ t, own_K p e below m s₁ 0 #[rv oa, iv xv] [] t → G t := ⟨fun t => Steps p.tables e below (s₁.setTop (entryFrame m #[(.ref oa), (.int xv)] 2)) t, fun _ k => k, fun t k => castTop (ef_10 m oa xv) k⟩
  obtain ⟨_, _, ⟨T1, L1, k1, n1⟩, -, X1, ⟨Lc1, hQ1, l1, y1, z1⟩, st1⟩ := X0.specialBack hx (y := (⟨"java/lang/Number", "<init>", "()V"⟩ : MethodName)) rfl hown (mvT hZ (hw _ (List.mem_of_getElem? (i := 65) rfl))) (mvT hZ (hw _ (List.mem_of_getElem? (i := 66) rfl))) (mvT hZ (hw _ (List.mem_of_getElem? (i := 70) rfl))) (by decide) (backOf (W := 0) (rm11 l Z a0 hw [] oa h0 n0 Z0 ) hZ (hw _ (List.mem_of_getElem? (i := 70) rfl)) (hw _ (List.mem_of_getElem? (i := 69) rfl)) (by decide) (by decide)) (g := (mkF m 1 #[rv oa, iv xv] [(.ref oa)])) rfl (by rw [hml]; rfl) (Steps.refl _) (a := oa) (argsL := []) (rest := []) (lenOf pd_1 rfl) rfl (by show 2 * 0 + _ ≤ _; exact Nat.le_of_eq rfl) (hb hby d10_1) (fun _ _ => ⟨rfl, e0, (by decide : 0 + 0 ≤ _), (by decide : 0 + 0 ≤ _)⟩)
  dsimp only [Pt.U, Pt.locs, Pt.cells, Pt.slots] at X1 l1 y1 z1 st1 hQ1
  subst l1 y1 z1
  obtain ⟨rfl, Nq1, eh1⟩ := hQ1
  have N1 := Fr.app N0 Nq1
  obtain ⟨T2, h2, X2, e2, W2, st2⟩ := putF X1 hx hZ hown (host := "") (Or.inl (hw _ (List.mem_of_getElem? (i := 72) rfl))) Via.refl eh1 F1 E_ (Or.inr ⟨(hw _ (List.mem_of_getElem? (i := 73) rfl)), rfl, hnm⟩) (hw _ (List.mem_of_getElem? (i := 60) rfl)) (ty := .int) (by decide) rfl rfl (g := (mkF m 6 #[rv oa, iv xv] [(.int xv), (.ref oa)])) rfl rfl (hb hby d10_6)
  have f2w := F1.same W2
  have K2 : Keep h0 h2 [oa] := (Keep.refl h0 [oa]).wr W2 (Or.inl (List.mem_of_getElem? (i := 0) rfl))
  have N2 := Fr.snoc X2 N1 g_
  have sz2 : n0 ≤ h2.size := Nat.le_trans Z0 (Keep.of_wr W2).1
  have pre3 : ∀ t, own_K p e below m T2 9 #[rv oa, iv xv] [] t → G t := by
    intro t k
    refine pre0 t ?_
    show own_K p e below m s₁ 0 #[rv oa, iv xv] [] _
    refine XS.aloadN X0.here hx rfl (hb hby d10_0) rfl rfl ?_
    show own_K p e below m s₁ 1 #[rv oa, iv xv] [(.ref oa)] _
    refine st1.trans ?_
    show own_K p e below m T1 4 #[rv oa, iv xv] [] _
    refine XS.aloadN X1.here hx rfl (hb hby d10_4) rfl rfl ?_
    show own_K p e below m T1 5 #[rv oa, iv xv] [(.ref oa)] _
    refine XS.iloadN X1.here hx rfl (hb hby d10_5) rfl ?_
    show own_K p e below m T1 6 #[rv oa, iv xv] [(.int xv), (.ref oa)] _
    refine st2 _ ?_
    exact k
  obtain ⟨fs, hr, hrun, hended, hW, hsame⟩ := X2.leave (v := none) (fun _ => rfl)
  refine ⟨_, _, hG _ (pre3 _ ?_), hrun, hended, _, _, rfl, ?_, ⟨_, rfl⟩, hW, hsame.mono (by decide) (by decide)⟩
  · show own_K p e below m T2 9 #[rv oa, iv xv] [] _
    exact X2.returnOut hx Bd.returns (hb hby d10_9) hr
  · show Q10 Z oa xv u1 h0 n0 _ T2.heap _
    rw [e2]
    exact ⟨rfl, N2, K2⟩

theorem d9_0 : decode jdk_33_method_22_code 0 = .ok (.iload_n 0, 1) := by decide +kernel
theorem d9_1 : decode jdk_33_method_22_code 1 = .ok (.bipush (-128), 2) := by decide +kernel
theorem d9_3 : decode jdk_33_method_22_code 3 = .ok (.if_icmp .lt 20, 3) := by decide +kernel
theorem d9_23 : decode jdk_33_method_22_code 23 = .ok (.new 1, 3) := by decide +kernel
theorem d9_26 : decode jdk_33_method_22_code 26 = .ok (.dup, 1) := by decide +kernel
theorem d9_27 : decode jdk_33_method_22_code 27 = .ok (.iload_n 0, 1) := by decide +kernel
theorem d9_28 : decode jdk_33_method_22_code 28 = .ok (.invokespecial 199, 3) := by decide +kernel
theorem pd_3 : parseMethodDescriptor "(I)V" = some ⟨[.int], none⟩ := by decide +kernel
theorem d9_31 : decode jdk_33_method_22_code 31 = .ok (.areturn, 1) := by decide +kernel
theorem d9_6 : decode jdk_33_method_22_code 6 = .ok (.iload_n 0, 1) := by decide +kernel
theorem d9_7 : decode jdk_33_method_22_code 7 = .ok (.getstatic 191, 3) := by decide +kernel
theorem d9_10 : decode jdk_33_method_22_code 10 = .ok (.if_icmp .gt 13, 3) := by decide +kernel
theorem d9_13 : decode jdk_33_method_22_code 13 = .ok (.getstatic 195, 3) := by decide +kernel
theorem d9_16 : decode jdk_33_method_22_code 16 = .ok (.iload_n 0, 1) := by decide +kernel
theorem d9_17 : decode jdk_33_method_22_code 17 = .ok (.sipush 128, 3) := by decide +kernel
theorem d9_20 : decode jdk_33_method_22_code 20 = .ok (.iadd, 1) := by decide +kernel
theorem d9_21 : decode jdk_33_method_22_code 21 = .ok (.aaload, 1) := by decide +kernel
theorem d9_22 : decode jdk_33_method_22_code 22 = .ok (.areturn, 1) := by decide +kernel
theorem ef_9 (m : MethodId) (x0 : Int32) : entryFrame m #[(.int x0)] 1 = mkF m 0 #[iv x0] [] := by first | (simp [entryFrame, mkF, argsToLocals, Value.category]; done) | rfl
def Q9 (Z : State) (xv : Int32) (cc : Nat → Addr) (ca : Addr) (kC : ClassId) (h0 : Heap) (n0 : Nat) (rv_ : Option Value) (h_ : Heap) (L_ : List Loc) : Prop := ∃ (ry : Addr), rv_ = some (.ref ry) ∧ Fr n0 L_ ∧ Keep h0 h_ [] ∧ Exa Z h_ ry "java/lang/Integer"
set_option maxRecDepth 65536 in
set_option maxHeartbeats 40000000 in
theorem rm9 (l : Launch) (Z : State) (a0 : Array Value) (hw : ∀ d ∈ tables_1, d.before a0 Z = true) (ws : List Jvm.Cond) (xv : Int32) (cc : Nat → Addr) (ca : Addr) (kC : ClassId) (h0 : Heap) (n0 : Nat) (Z0 : n0 ≤ h0.size) (O_ : Old Z n0 h0) (SH : Sta Z Z.heap "java/lang/Integer$IntegerCache" "high" "I" (.int (127 : Int32))) (SC : Sta Z Z.heap "java/lang/Integer$IntegerCache" "cache" "[Ljava/lang/Integer;" (.ref ca)) (VC : Arv Z Z.heap ca kC (.object "java/lang/Integer") (256 : Int32) (own_refs 256 cc) .null) (EC : ∀ i, i < 256 → Exa Z Z.heap (cc i) "java/lang/Integer") :
    MetFree l (⟨"java/lang/Integer", "valueOf", "(I)Ljava/lang/Integer;"⟩ : MethodName) (head1 (Jvm.Cond.code (⟨"java/lang/Integer", "valueOf", "(I)Ljava/lang/Integer;"⟩ : MethodName) jdk_33_method_22_code 1 (some (.object "java/lang/Integer")) :: ws) ({ frames := 3, cells := 1, slots := 1, locals := 38 } : Room)) (fun a U => a = #[(.int xv)] ∧ Z.Warmed39 U.vm ∧ U.heap = h0) (fun _ _ _ _ _ => True) (fun _ U o U' => ∃ v L, o = .returned v ∧ Q9 Z xv cc ca kC h0 n0 v U'.heap L ∧ FrameEnd U o U' L ({ frames := 3, cells := 1, slots := 1, locals := 38 } : Room).cells ({ frames := 3, cells := 1, slots := 1, locals := 38 } : Room).slots) := by
  refine MetFree.of_bodySF (plainFor_of_name pn_6) hisR ?_
  intro p e s m args below meth c s₁ Bd hml0 hP hK
  obtain ⟨rfl, hZ, hh⟩ := hP
  have hx := Bd.exec
  have hby := Bd.bytes
  have hml : c.maxLocals = 1 := hml0
  have hown : s.vm.findClass "java/lang/Integer" = some m.cls := findClass_of_methodNamed Bd.named
  have hnm := (name_of_methodNamed Bd.named Bd.method).1
  have X0 : Stand p l e ({ frames := 3, cells := 1, slots := 1, locals := 38 } : Room) s m #[(.int xv)] below meth c s₁ [] 0 0 := Stand.of_body Bd
  have e0 : s₁.heap = h0 := by rw [← hh, Bd.state]; rfl
  have N0 := Fr.nil n0
  obtain ⟨G, hG, pre0⟩ : ∃ G : State → Prop, (∀ t, G t → Steps p.tables e below (s₁.setTop (entryFrame m #[(.int xv)] 1)) t) ∧ ∀ t, own_K p e below m s₁ 0 #[iv xv] [] t → G t := ⟨fun t => Steps p.tables e below (s₁.setTop (entryFrame m #[(.int xv)] 1)) t, fun _ k => k, fun t k => castTop (ef_9 m xv) k⟩
  have pre1 : ∀ t, own_K p e below m s₁ 3 #[iv xv] [(.int (-128 : Int32)), (.int xv)] t → G t := by
    intro t k
    refine pre0 t ?_
    show own_K p e below m s₁ 0 #[iv xv] [] _
    refine XS.iloadN X0.here hx rfl (hb hby d9_0) rfl ?_
    show own_K p e below m s₁ 1 #[iv xv] [(.int xv)] _
    refine XS.bipush X0.here hx rfl (hb hby d9_1) ?_
    exact k
  by_cases hc3_2 : xv < (-128 : Int32)
  · obtain ⟨T3, h3, X3, e3, E3, A3, D3, -, st3⟩ := newO X0 hx hZ hown (hw _ (List.mem_of_getElem? (i := 59) rfl)) (hw _ (List.mem_of_getElem? (i := 60) rfl)) (hw _ (List.mem_of_getElem? (i := 51) rfl)) e0 (g := (mkF m 23 #[iv xv] [])) rfl (hb hby d9_23) (by decide) (by decide)
    obtain ⟨b3, g3⟩ : ∃ z, z = h0.size := ⟨_, rfl⟩
    rw [← g3] at A3 D3 st3
    have ge_b3 : n0 ≤ b3 := Nat.le_trans Z0 (Nat.le_of_eq g3.symm)
    have sz_b3 : h0.size ≤ b3 := Nat.le_trans (Keep.refl h0 []).1 (Nat.le_of_eq g3.symm)
    have K3 : Keep h0 h3 [] := (Keep.refl h0 []).ext E3
    have sz3 : n0 ≤ h3.size := Nat.le_trans Z0 E3.1
    have f4 : Fld Z h3 b3 "java/lang/Integer" "value" "I" (.int (0 : Int32)) := D3 (Or.inr (hw _ (List.mem_of_getElem? (i := 73) rfl))) (ty := .int) (by decide)
    obtain ⟨_, _, ⟨T5, L5, k5, n5⟩, -, X5, ⟨Lc5, hQ5, l5, y5, z5⟩, st5⟩ := X3.specialBack hx (y := (⟨"java/lang/Integer", "<init>", "(I)V"⟩ : MethodName)) rfl hown (mvT hZ (hw _ (List.mem_of_getElem? (i := 61) rfl))) (mvT hZ (hw _ (List.mem_of_getElem? (i := 62) rfl))) (mvT hZ (hw _ (List.mem_of_getElem? (i := 64) rfl))) (by decide) (backOf (W := 1) (rm10 l Z a0 hw [] b3 xv (.int (0 : Int32)) h3 n0 sz3 A3 f4 ge_b3) hZ (hw _ (List.mem_of_getElem? (i := 64) rfl)) (hw _ (List.mem_of_getElem? (i := 51) rfl)) (by decide) (by decide)) (g := (mkF m 28 #[iv xv] [(.int xv), (.ref b3), (.ref b3)])) rfl (by rw [hml]; rfl) (Steps.refl _) (a := b3) (argsL := [(.int xv)]) (rest := [(.ref b3)]) (lenOf pd_3 rfl) rfl (by show 2 * 0 + _ ≤ _; exact Nat.le_of_eq rfl) (hb hby d9_28) (fun _ _ => ⟨rfl, e3, (by decide : 1 + 0 ≤ _), (by decide : 1 + 0 ≤ _)⟩)
    dsimp only [Pt.U, Pt.locs, Pt.cells, Pt.slots] at X5 l5 y5 z5 st5 hQ5
    subst l5 y5 z5
    obtain ⟨rfl, Nq5, Kc5⟩ := hQ5
    have N5 := Fr.app N0 Nq5
    have K5 : Keep h0 T5.heap [] := K3.trans Kc5 (allS (Or.inr sz_b3) all0)
    have sz5 : n0 ≤ T5.heap.size := Nat.le_trans sz3 Kc5.1
    have pre6 : ∀ t, own_K p e below m T5 31 #[iv xv] [(.ref b3)] t → G t := by
      intro t k
      refine pre1 t ?_
      show own_K p e below m s₁ 3 #[iv xv] [(.int (-128 : Int32)), (.int xv)] _
      refine XS.icmpYes X0.here hx rfl (pc0 := 3) (pc' := 23) rfl (hb hby d9_3) rfl (tlt hc3_2).1 (by decide) (by decide) ?_
      show own_K p e below m s₁ 23 #[iv xv] [] _
      refine st3 _ ?_
      show own_K p e below m T3 26 #[iv xv] [(.ref b3)] _
      refine XS.dup X3.here hx rfl (hb hby d9_26) rfl rfl ?_
      show own_K p e below m T3 27 #[iv xv] [(.ref b3), (.ref b3)] _
      refine XS.iloadN X3.here hx rfl (hb hby d9_27) rfl ?_
      show own_K p e below m T3 28 #[iv xv] [(.int xv), (.ref b3), (.ref b3)] _
      refine st5.trans ?_
      exact k
    have f7 : Exa Z T5.heap b3 "java/lang/Integer" := (A3.keep Kc5)
    obtain ⟨fs, hr, hrun, hended, hW, hsame⟩ := X5.leave (v := some (.ref b3)) (fun h => by rw [Bd.returns] at h; cases h)
    refine ⟨_, _, hG _ (pre6 _ ?_), hrun, hended, _, _, rfl, ?_, ⟨_, rfl⟩, hW, hsame.mono (by decide) (by decide)⟩
    · show own_K p e below m T5 31 #[iv xv] [(.ref b3)] _
      exact retOut X5 hx Bd.returns rfl (Or.inr (Or.inr (Or.inr (Or.inr ⟨rfl, rfl, rfl⟩)))) (hb hby d9_31) hr
    · show Q9 Z xv cc ca kC h0 n0 _ T5.heap _
      exact ⟨b3, rfl, N5, K5, f7⟩
  · obtain ⟨T8, X8, e8, st8⟩ := getS2 X0 hx hZ hown (host := "") (Or.inl (hw _ (List.mem_of_getElem? (i := 53) rfl))) Via.refl e0 (Sta.ext O_.2 SH) (g := (mkF m 7 #[iv xv] [(.int xv)])) rfl (hb hby d9_7)
    have pre9 : ∀ t, own_K p e below m T8 10 #[iv xv] [(.int (127 : Int32)), (.int xv)] t → G t := by
      intro t k
      refine pre1 t ?_
      show own_K p e below m s₁ 3 #[iv xv] [(.int (-128 : Int32)), (.int xv)] _
      refine XS.icmpNo X0.here hx rfl (hb hby d9_3) rfl (flt hc3_2).1 ?_
      show own_K p e below m s₁ 6 #[iv xv] [] _
      refine XS.iloadN X0.here hx rfl (hb hby d9_6) rfl ?_
      show own_K p e below m s₁ 7 #[iv xv] [(.int xv)] _
      refine st8 _ ?_
      exact k
    by_cases hc10_10 : (127 : Int32) < xv
    · obtain ⟨T11, h11, X11, e11, E11, A11, D11, -, st11⟩ := newO X8 hx hZ hown (hw _ (List.mem_of_getElem? (i := 59) rfl)) (hw _ (List.mem_of_getElem? (i := 60) rfl)) (hw _ (List.mem_of_getElem? (i := 51) rfl)) e8 (g := (mkF m 23 #[iv xv] [])) rfl (hb hby d9_23) (by decide) (by decide)
      obtain ⟨b11, g11⟩ : ∃ z, z = h0.size := ⟨_, rfl⟩
      rw [← g11] at A11 D11 st11
      have ge_b11 : n0 ≤ b11 := Nat.le_trans Z0 (Nat.le_of_eq g11.symm)
      have sz_b11 : h0.size ≤ b11 := Nat.le_trans (Keep.refl h0 []).1 (Nat.le_of_eq g11.symm)
      have K11 : Keep h0 h11 [] := (Keep.refl h0 []).ext E11
      have sz11 : n0 ≤ h11.size := Nat.le_trans Z0 E11.1
      have f12 : Fld Z h11 b11 "java/lang/Integer" "value" "I" (.int (0 : Int32)) := D11 (Or.inr (hw _ (List.mem_of_getElem? (i := 73) rfl))) (ty := .int) (by decide)
      obtain ⟨_, _, ⟨T13, L13, k13, n13⟩, -, X13, ⟨Lc13, hQ13, l13, y13, z13⟩, st13⟩ := X11.specialBack hx (y := (⟨"java/lang/Integer", "<init>", "(I)V"⟩ : MethodName)) rfl hown (mvT hZ (hw _ (List.mem_of_getElem? (i := 61) rfl))) (mvT hZ (hw _ (List.mem_of_getElem? (i := 62) rfl))) (mvT hZ (hw _ (List.mem_of_getElem? (i := 64) rfl))) (by decide) (backOf (W := 1) (rm10 l Z a0 hw [] b11 xv (.int (0 : Int32)) h11 n0 sz11 A11 f12 ge_b11) hZ (hw _ (List.mem_of_getElem? (i := 64) rfl)) (hw _ (List.mem_of_getElem? (i := 51) rfl)) (by decide) (by decide)) (g := (mkF m 28 #[iv xv] [(.int xv), (.ref b11), (.ref b11)])) rfl (by rw [hml]; rfl) (Steps.refl _) (a := b11) (argsL := [(.int xv)]) (rest := [(.ref b11)]) (lenOf pd_3 rfl) rfl (by show 2 * 0 + _ ≤ _; exact Nat.le_of_eq rfl) (hb hby d9_28) (fun _ _ => ⟨rfl, e11, (by decide : 1 + 0 ≤ _), (by decide : 1 + 0 ≤ _)⟩)
      dsimp only [Pt.U, Pt.locs, Pt.cells, Pt.slots] at X13 l13 y13 z13 st13 hQ13
      subst l13 y13 z13
      obtain ⟨rfl, Nq13, Kc13⟩ := hQ13
      have N13 := Fr.app N0 Nq13
      have K13 : Keep h0 T13.heap [] := K11.trans Kc13 (allS (Or.inr sz_b11) all0)
      have sz13 : n0 ≤ T13.heap.size := Nat.le_trans sz11 Kc13.1
      have pre14 : ∀ t, own_K p e below m T13 31 #[iv xv] [(.ref b11)] t → G t := by
        intro t k
        refine pre9 t ?_
        show own_K p e below m T8 10 #[iv xv] [(.int (127 : Int32)), (.int xv)] _
        refine XS.icmpYes X8.here hx rfl (pc0 := 10) (pc' := 23) rfl (hb hby d9_10) rfl (tlt hc10_10).2.2.1 (by decide) (by decide) ?_
        show own_K p e below m T8 23 #[iv xv] [] _
        refine st11 _ ?_
        show own_K p e below m T11 26 #[iv xv] [(.ref b11)] _
        refine XS.dup X11.here hx rfl (hb hby d9_26) rfl rfl ?_
        show own_K p e below m T11 27 #[iv xv] [(.ref b11), (.ref b11)] _
        refine XS.iloadN X11.here hx rfl (hb hby d9_27) rfl ?_
        show own_K p e below m T11 28 #[iv xv] [(.int xv), (.ref b11), (.ref b11)] _
        refine st13.trans ?_
        exact k
      have f15 : Exa Z T13.heap b11 "java/lang/Integer" := (A11.keep Kc13)
      obtain ⟨fs, hr, hrun, hended, hW, hsame⟩ := X13.leave (v := some (.ref b11)) (fun h => by rw [Bd.returns] at h; cases h)
      refine ⟨_, _, hG _ (pre14 _ ?_), hrun, hended, _, _, rfl, ?_, ⟨_, rfl⟩, hW, hsame.mono (by decide) (by decide)⟩
      · show own_K p e below m T13 31 #[iv xv] [(.ref b11)] _
        exact retOut X13 hx Bd.returns rfl (Or.inr (Or.inr (Or.inr (Or.inr ⟨rfl, rfl, rfl⟩)))) (hb hby d9_31) hr
      · show Q9 Z xv cc ca kC h0 n0 _ T13.heap _
        exact ⟨b11, rfl, N13, K13, f15⟩
    · obtain ⟨T16, X16, e16, st16⟩ := getS2 X8 hx hZ hown (host := "") (Or.inl (hw _ (List.mem_of_getElem? (i := 55) rfl))) Via.refl e8 (Sta.ext O_.2 SC) (g := (mkF m 13 #[iv xv] [])) rfl (hb hby d9_13)
      have pre17 : ∀ t, own_K p e below m T16 21 #[iv xv] [(.int (xv + (128 : Int32))), (.ref ca)] t → G t := by
        intro t k
        refine pre9 t ?_
        show own_K p e below m T8 10 #[iv xv] [(.int (127 : Int32)), (.int xv)] _
        refine XS.icmpNo X8.here hx rfl (hb hby d9_10) rfl (flt hc10_10).2.2.1 ?_
        show own_K p e below m T8 13 #[iv xv] [] _
        refine st16 _ ?_
        show own_K p e below m T16 16 #[iv xv] [(.ref ca)] _
        refine XS.iloadN X16.here hx rfl (hb hby d9_16) rfl ?_
        show own_K p e below m T16 17 #[iv xv] [(.int xv), (.ref ca)] _
        refine XS.sipush X16.here hx rfl (hb hby d9_17) ?_
        show own_K p e below m T16 20 #[iv xv] [(.int (128 : Int32)), (.int xv), (.ref ca)] _
        refine XS.iadd X16.here hx rfl (hb hby d9_20) rfl ?_
        exact k
      obtain ⟨jN, hjN, hjx⟩ := own_c256 xv hc3_2 hc10_10
      have pre19 : ∀ t, own_K p e below m T16 22 #[iv xv] [(.ref (cc jN))] t → G t := by
        intro t k
        refine pre17 t ?_
        show own_K p e below m T16 21 #[iv xv] [(.int (xv + (128 : Int32))), (.ref ca)] _
        refine own_aal X16 hx hZ e16 (VC.ext O_.2) rfl (v := (.ref (cc jN))) (own_ci hjx hjN) (own_cg hjx hjN) (g := (mkF m 21 #[iv xv] [(.int (xv + (128 : Int32))), (.ref ca)])) rfl rfl (hb hby d9_21) _ ?_
        exact k
      obtain ⟨fs, hr, hrun, hended, hW, hsame⟩ := X16.leave (v := some (.ref (cc jN))) (fun h => by rw [Bd.returns] at h; cases h)
      refine ⟨_, _, hG _ (pre19 _ ?_), hrun, hended, _, _, rfl, ?_, ⟨_, rfl⟩, hW, hsame.mono (by decide) (by decide)⟩
      · show own_K p e below m T16 22 #[iv xv] [(.ref (cc jN))] _
        exact retOut X16 hx Bd.returns rfl (Or.inr (Or.inr (Or.inr (Or.inr ⟨rfl, rfl, rfl⟩)))) (hb hby d9_22) hr
      · show Q9 Z xv cc ca kC h0 n0 _ T16.heap _
        rw [e16]
        exact ⟨(cc jN), rfl, N0, (Keep.refl h0 []), (Exa.ext O_.2 (EC jN hjN))⟩

theorem pd_4 : parseMethodDescriptor "(I)I" = some ⟨[.int], some .int⟩ := by decide +kernel
theorem pd_5 : parseMethodDescriptor "(II)V" = some ⟨[.int, .int], none⟩ := by decide +kernel
theorem pd_6 : parseMethodDescriptor "(Ljava/lang/Object;)Z" = some ⟨[(.object "java/lang/Object")], some .boolean⟩ := by decide +kernel
theorem pd_7 : parseMethodDescriptor "(I)Ljava/lang/Integer;" = some ⟨[.int], some (.object "java/lang/Integer")⟩ := by decide +kernel
theorem ef_0 (m : MethodId) (x0 : Int32) (x1 : Int32) (x2 : Int32) (x3 : Int32) (x4 : Int32) : entryFrame m #[(.int x0), (.int x1), (.int x2), (.int x3), (.int x4)] maxLocals = mkF m 0 #[iv x0, iv x1, iv x2, iv x3, iv x4, .unset, .unset, .unset, .unset, .unset, .unset, .unset, .unset, .unset, .unset, .unset, .unset, .unset, .unset] [] := by first | (simp [entryFrame, mkF, argsToLocals, Value.category, maxLocals]; done) | rfl
def Q0 (Z : State) (p1 : Int32) (p2 : Int32) (p3 : Int32) (p4 : Int32) (p5 : Int32) (mm : Nat → Addr) (ea : Addr) (kE : ClassId) (cc : Nat → Addr) (ca : Addr) (kC : ClassId) (h0 : Heap) (n0 : Nat) (rv_ : Option Value) (h_ : Heap) (L_ : List Loc) : Prop := rv_ = some (.int (1 : Int32)) ∧ Fr n0 L_ ∧ Keep h0 h_ []
set_option maxRecDepth 65536 in
set_option maxHeartbeats 40000000 in
theorem rm0 (l : Launch) (Z : State) (a0 : Array Value) (hw : ∀ d ∈ tables_1, d.before a0 Z = true) (ws : List Jvm.Cond) (p1 : Int32) (p2 : Int32) (p3 : Int32) (p4 : Int32) (p5 : Int32) (mm : Nat → Addr) (ea : Addr) (kE : ClassId) (cc : Nat → Addr) (ca : Addr) (kC : ClassId) (h0 : Heap) (n0 : Nat) (Z0 : n0 ≤ h0.size) (O_ : Old Z n0 h0) (SE : Sta Z Z.heap "java/time/Month" "ENUMS" "[Ljava/time/Month;" (.ref ea)) (VE : Arv Z Z.heap ea kE (.object "java/time/Month") (12 : Int32) (own_refs 12 mm) .null) (EM : ∀ i, i < 12 → Exa Z Z.heap (mm i) "java/time/Month") (FM : ∀ i, i < 12 → Fld Z Z.heap (mm i) "java/lang/Enum" "ordinal" "I" (.int (Int32.ofNat i))) (SH : Sta Z Z.heap "java/lang/Integer$IntegerCache" "high" "I" (.int (127 : Int32))) (SC : Sta Z Z.heap "java/lang/Integer$IntegerCache" "cache" "[Ljava/lang/Integer;" (.ref ca)) (VC : Arv Z Z.heap ca kC (.object "java/lang/Integer") (256 : Int32) (own_refs 256 cc) .null) (EC : ∀ i, i < 256 → Exa Z Z.heap (cc i) "java/lang/Integer") (hno : ∃ c t, Z.vm.findClass "java/lang/Integer" = some c ∧ Z.vm.findClass "com/example/notewright/notewright/AnnualDay" = some t ∧ Z.vm.assignable c t = false) :
    MetFree l x (head1 (Jvm.Cond.code x code maxLocals ret :: ws) room_1) (fun a U => a = #[(.int p1), (.int p2), (.int p3), (.int p4), (.int p5)] ∧ Z.Warmed39 U.vm ∧ U.heap = h0) (fun _ _ _ _ _ => True) (fun _ U o U' => ∃ v L, o = .returned v ∧ Q0 Z p1 p2 p3 p4 p5 mm ea kE cc ca kC h0 n0 v U'.heap L ∧ FrameEnd U o U' L 3 5) := by
  refine MetFree.of_bodySF (plainFor_of_name pn_0) hisR ?_
  intro p e s m args below meth c s₁ Bd hml0 hP hK
  obtain ⟨rfl, hZ, hh⟩ := hP
  have hx := Bd.exec
  have hby := Bd.bytes
  have hml : c.maxLocals = 19 := hml0
  have hown : s.vm.findClass "com/example/notewright/notewright/AnnualDayEqualsPinLaw" = some m.cls := findClass_of_methodNamed Bd.named
  have hnm := (name_of_methodNamed Bd.named Bd.method).1
  have X0 : Stand p l e room_1 s m #[(.int p1), (.int p2), (.int p3), (.int p4), (.int p5)] below meth c s₁ [] 0 0 := Stand.of_body Bd
  have e0 : s₁.heap = h0 := by rw [← hh, Bd.state]; rfl
  have N0 := Fr.nil n0
  obtain ⟨G, hG, pre0⟩ : ∃ G : State → Prop, (∀ t, G t → Steps p.tables e below (s₁.setTop (entryFrame m #[(.int p1), (.int p2), (.int p3), (.int p4), (.int p5)] maxLocals)) t) ∧ ∀ t, own_K p e below m s₁ 0 #[iv p1, iv p2, iv p3, iv p4, iv p5, .unset, .unset, .unset, .unset, .unset, .unset, .unset, .unset, .unset, .unset, .unset, .unset, .unset, .unset] [] t → G t := ⟨fun t => Steps p.tables e below (s₁.setTop (entryFrame m #[(.int p1), (.int p2), (.int p3), (.int p4), (.int p5)] maxLocals)) t, fun _ k => k, fun t k => castTop (ef_0 m p1 p2 p3 p4 p5) k⟩
  have pre1 : ∀ t, own_K p e below m s₁ 9 #[iv p1, iv p2, iv p3, iv p4, iv p5, .unset, .unset, .unset, .unset, .unset, .unset, .unset, .unset, .unset, .unset, .unset, .unset, .unset, .unset] [(.int (((p1 &&& (2147483647 : Int32)) % (12 : Int32)) + (1 : Int32)))] t → G t := by
    intro t k
    refine pre0 t ?_
    show own_K p e below m s₁ 0 #[iv p1, iv p2, iv p3, iv p4, iv p5, .unset, .unset, .unset, .unset, .unset, .unset, .unset, .unset, .unset, .unset, .unset, .unset, .unset, .unset] [] _
    refine XS.iloadN X0.here hx rfl (hb hby at_0) rfl ?_
    show own_K p e below m s₁ 1 #[iv p1, iv p2, iv p3, iv p4, iv p5, .unset, .unset, .unset, .unset, .unset, .unset, .unset, .unset, .unset, .unset, .unset, .unset, .unset, .unset] [(.int p1)] _
    refine X0.ldcInt hx hown (mvT hZ (hw _ (List.mem_of_getElem? (i := 0) rfl))) (g := (mkF m 1 #[iv p1, iv p2, iv p3, iv p4, iv p5, .unset, .unset, .unset, .unset, .unset, .unset, .unset, .unset, .unset, .unset, .unset, .unset, .unset, .unset] [(.int p1)])) rfl (hb hby at_1) _ ?_
    show own_K p e below m s₁ 3 #[iv p1, iv p2, iv p3, iv p4, iv p5, .unset, .unset, .unset, .unset, .unset, .unset, .unset, .unset, .unset, .unset, .unset, .unset, .unset, .unset] [(.int (2147483647 : Int32)), (.int p1)] _
    refine XS.iand X0.here hx rfl (hb hby at_3) rfl ?_
    show own_K p e below m s₁ 4 #[iv p1, iv p2, iv p3, iv p4, iv p5, .unset, .unset, .unset, .unset, .unset, .unset, .unset, .unset, .unset, .unset, .unset, .unset, .unset, .unset] [(.int (p1 &&& (2147483647 : Int32)))] _
    refine XS.bipush X0.here hx rfl (hb hby at_4) ?_
    show own_K p e below m s₁ 6 #[iv p1, iv p2, iv p3, iv p4, iv p5, .unset, .unset, .unset, .unset, .unset, .unset, .unset, .unset, .unset, .unset, .unset, .unset, .unset, .unset] [(.int (12 : Int32)), (.int (p1 &&& (2147483647 : Int32)))] _
    refine iremM X0 hx rfl (hb hby at_6) rfl (by decide) ?_
    show own_K p e below m s₁ 7 #[iv p1, iv p2, iv p3, iv p4, iv p5, .unset, .unset, .unset, .unset, .unset, .unset, .unset, .unset, .unset, .unset, .unset, .unset, .unset, .unset] [(.int ((p1 &&& (2147483647 : Int32)) % (12 : Int32)))] _
    refine XS.iconst X0.here hx rfl (hb hby at_7) ?_
    show own_K p e below m s₁ 8 #[iv p1, iv p2, iv p3, iv p4, iv p5, .unset, .unset, .unset, .unset, .unset, .unset, .unset, .unset, .unset, .unset, .unset, .unset, .unset, .unset] [(.int (1 : Int32)), (.int ((p1 &&& (2147483647 : Int32)) % (12 : Int32)))] _
    refine XS.iadd X0.here hx rfl (hb hby at_8) rfl ?_
    exact k
  obtain ⟨xm1, hxm1⟩ : ∃ z : Int32, z = (((p1 &&& (2147483647 : Int32)) % (12 : Int32)) + (1 : Int32)) := ⟨_, rfl⟩
  have pre2 : ∀ t, own_K p e below m s₁ 9 #[iv p1, iv p2, iv p3, iv p4, iv p5, .unset, .unset, .unset, .unset, .unset, .unset, .unset, .unset, .unset, .unset, .unset, .unset, .unset, .unset] [(.int xm1)] t → G t := fun t k => pre1 t (by rw [hxm1] at k; exact k)
  obtain ⟨mN1, hmN1, hxmN1⟩ := own_month _ _ hxm1
  obtain ⟨_, _, ⟨T3, L3, k3, n3⟩, -, X3, ⟨Lc3, hQ3, l3, y3, z3⟩, st3⟩ := Jvm.LawKit.callS X0 hx (y := (⟨"com/example/notewright/notewright/AnnualDayEqualsPinLaw", "maxLen", "(I)I"⟩ : MethodName)) hown (mvT hZ (hw _ (List.mem_of_getElem? (i := 1) rfl))) (mvT hZ (hw _ (List.mem_of_getElem? (i := 2) rfl))) (mvT hZ (hw _ (List.mem_of_getElem? (i := 3) rfl))) (mvT hZ (hw _ (List.mem_of_getElem? (i := 4) rfl))) (by decide) (backOf (W := 1) (rm1 l Z a0 hw [] xm1 h0 n0 Z0 ) hZ (hw _ (List.mem_of_getElem? (i := 4) rfl)) (hw _ (List.mem_of_getElem? (i := 3) rfl)) (by decide) (by decide)) (g := (mkF m 17 #[iv p1, iv p2, iv p3, iv p4, iv p5, iv xm1, .unset, .unset, .unset, .unset, .unset, .unset, .unset, .unset, .unset, .unset, .unset, .unset, .unset] [(.int xm1), (.int (p2 &&& (2147483647 : Int32)))])) rfl (by rw [hml]; rfl) (argsL := [(.int xm1)]) (rest := [(.int (p2 &&& (2147483647 : Int32)))]) (lenOf pd_4 rfl) rfl (by show 2 * 0 + _ ≤ _; exact Nat.le_of_eq rfl) (hb hby at_17) (fun _ _ => ⟨rfl, e0, (by decide : 0 + 0 ≤ _), (by decide : 0 + 0 ≤ _)⟩)
  dsimp only [Pt.U, Pt.locs, Pt.cells, Pt.slots] at X3 l3 y3 z3 st3 hQ3
  subst l3 y3 z3
  obtain ⟨rfl, Nq3, eh3⟩ := hQ3
  have N3 := Fr.app N0 Nq3
  have pre4 : ∀ t, own_K p e below m T3 23 #[iv p1, iv p2, iv p3, iv p4, iv p5, iv xm1, .unset, .unset, .unset, .unset, .unset, .unset, .unset, .unset, .unset, .unset, .unset, .unset, .unset] [(.int (((p2 &&& (2147483647 : Int32)) % (own_ml xm1)) + (1 : Int32)))] t → G t := by
    intro t k
    refine pre2 t ?_
    show own_K p e below m s₁ 9 #[iv p1, iv p2, iv p3, iv p4, iv p5, .unset, .unset, .unset, .unset, .unset, .unset, .unset, .unset, .unset, .unset, .unset, .unset, .unset, .unset] [(.int xm1)] _
    refine XS.istore X0.here hx rfl (hb hby at_9) rfl (l' := #[iv p1, iv p2, iv p3, iv p4, iv p5, iv xm1, .unset, .unset, .unset, .unset, .unset, .unset, .unset, .unset, .unset, .unset, .unset, .unset, .unset]) rfl ?_
    show own_K p e below m s₁ 11 #[iv p1, iv p2, iv p3, iv p4, iv p5, iv xm1, .unset, .unset, .unset, .unset, .unset, .unset, .unset, .unset, .unset, .unset, .unset, .unset, .unset] [] _
    refine XS.iloadN X0.here hx rfl (hb hby at_11) rfl ?_
    show own_K p e below m s₁ 12 #[iv p1, iv p2, iv p3, iv p4, iv p5, iv xm1, .unset, .unset, .unset, .unset, .unset, .unset, .unset, .unset, .unset, .unset, .unset, .unset, .unset] [(.int p2)] _
    refine X0.ldcInt hx hown (mvT hZ (hw _ (List.mem_of_getElem? (i := 0) rfl))) (g := (mkF m 12 #[iv p1, iv p2, iv p3, iv p4, iv p5, iv xm1, .unset, .unset, .unset, .unset, .unset, .unset, .unset, .unset, .unset, .unset, .unset, .unset, .unset] [(.int p2)])) rfl (hb hby at_12) _ ?_
    show own_K p e below m s₁ 14 #[iv p1, iv p2, iv p3, iv p4, iv p5, iv xm1, .unset, .unset, .unset, .unset, .unset, .unset, .unset, .unset, .unset, .unset, .unset, .unset, .unset] [(.int (2147483647 : Int32)), (.int p2)] _
    refine XS.iand X0.here hx rfl (hb hby at_14) rfl ?_
    show own_K p e below m s₁ 15 #[iv p1, iv p2, iv p3, iv p4, iv p5, iv xm1, .unset, .unset, .unset, .unset, .unset, .unset, .unset, .unset, .unset, .unset, .unset, .unset, .unset] [(.int (p2 &&& (2147483647 : Int32)))] _
    refine XS.iload X0.here hx rfl (hb hby at_15) rfl ?_
    show own_K p e below m s₁ 17 #[iv p1, iv p2, iv p3, iv p4, iv p5, iv xm1, .unset, .unset, .unset, .unset, .unset, .unset, .unset, .unset, .unset, .unset, .unset, .unset, .unset] [(.int xm1), (.int (p2 &&& (2147483647 : Int32)))] _
    refine st3 _ ?_
    show own_K p e below m T3 20 #[iv p1, iv p2, iv p3, iv p4, iv p5, iv xm1, .unset, .unset, .unset, .unset, .unset, .unset, .unset, .unset, .unset, .unset, .unset, .unset, .unset] [(.int (own_ml xm1)), (.int (p2 &&& (2147483647 : Int32)))] _
    refine iremM X3 hx rfl (hb hby at_20) rfl (own_mlnz hxmN1 hmN1) ?_
    show own_K p e below m T3 21 #[iv p1, iv p2, iv p3, iv p4, iv p5, iv xm1, .unset, .unset, .unset, .unset, .unset, .unset, .unset, .unset, .unset, .unset, .unset, .unset, .unset] [(.int ((p2 &&& (2147483647 : Int32)) % (own_ml xm1)))] _
    refine XS.iconst X3.here hx rfl (hb hby at_21) ?_
    show own_K p e below m T3 22 #[iv p1, iv p2, iv p3, iv p4, iv p5, iv xm1, .unset, .unset, .unset, .unset, .unset, .unset, .unset, .unset, .unset, .unset, .unset, .unset, .unset] [(.int (1 : Int32)), (.int ((p2 &&& (2147483647 : Int32)) % (own_ml xm1)))] _
    refine XS.iadd X3.here hx rfl (hb hby at_22) rfl ?_
    exact k
  obtain ⟨xd1, hxd1⟩ : ∃ z : Int32, z = (((p2 &&& (2147483647 : Int32)) % (own_ml xm1)) + (1 : Int32)) := ⟨_, rfl⟩
  have pre5 : ∀ t, own_K p e below m T3 23 #[iv p1, iv p2, iv p3, iv p4, iv p5, iv xm1, .unset, .unset, .unset, .unset, .unset, .unset, .unset, .unset, .unset, .unset, .unset, .unset, .unset] [(.int xd1)] t → G t := fun t k => pre4 t (by rw [hxd1] at k; exact k)
  obtain ⟨hd1a, hd1b⟩ := own_day (own_mask _) hxmN1 hmN1 hxd1
  have pre6 : ∀ t, own_K p e below m T3 29 #[iv p1, iv p2, iv p3, iv p4, iv p5, iv xm1, iv xd1, .unset, .unset, .unset, .unset, .unset, .unset, .unset, .unset, .unset, .unset, .unset, .unset] [(.int (p5 &&& (1 : Int32)))] t → G t := by
    intro t k
    refine pre5 t ?_
    show own_K p e below m T3 23 #[iv p1, iv p2, iv p3, iv p4, iv p5, iv xm1, .unset, .unset, .unset, .unset, .unset, .unset, .unset, .unset, .unset, .unset, .unset, .unset, .unset] [(.int xd1)] _
    refine XS.istore X3.here hx rfl (hb hby at_23) rfl (l' := #[iv p1, iv p2, iv p3, iv p4, iv p5, iv xm1, iv xd1, .unset, .unset, .unset, .unset, .unset, .unset, .unset, .unset, .unset, .unset, .unset, .unset]) rfl ?_
    show own_K p e below m T3 25 #[iv p1, iv p2, iv p3, iv p4, iv p5, iv xm1, iv xd1, .unset, .unset, .unset, .unset, .unset, .unset, .unset, .unset, .unset, .unset, .unset, .unset] [] _
    refine XS.iload X3.here hx rfl (hb hby at_25) rfl ?_
    show own_K p e below m T3 27 #[iv p1, iv p2, iv p3, iv p4, iv p5, iv xm1, iv xd1, .unset, .unset, .unset, .unset, .unset, .unset, .unset, .unset, .unset, .unset, .unset, .unset] [(.int p5)] _
    refine XS.iconst X3.here hx rfl (hb hby at_27) ?_
    show own_K p e below m T3 28 #[iv p1, iv p2, iv p3, iv p4, iv p5, iv xm1, iv xd1, .unset, .unset, .unset, .unset, .unset, .unset, .unset, .unset, .unset, .unset, .unset, .unset] [(.int (1 : Int32)), (.int p5)] _
    refine XS.iand X3.here hx rfl (hb hby at_28) rfl ?_
    exact k
  obtain ⟨v10, hv10⟩ : ∃ z : Int32, z = (if (p5 &&& (1 : Int32)) = (0 : Int32) then (0 : Int32) else (1 : Int32)) := ⟨_, rfl⟩
  have pre11 : ∀ t, own_K p e below m T3 37 #[iv p1, iv p2, iv p3, iv p4, iv p5, iv xm1, iv xd1, .unset, .unset, .unset, .unset, .unset, .unset, .unset, .unset, .unset, .unset, .unset, .unset] [(.int v10)] t → G t := by
    by_cases hc29_7 : (p5 &&& (1 : Int32)) = (0 : Int32)
    · have pre8 : ∀ t, own_K p e below m T3 37 #[iv p1, iv p2, iv p3, iv p4, iv p5, iv xm1, iv xd1, .unset, .unset, .unset, .unset, .unset, .unset, .unset, .unset, .unset, .unset, .unset, .unset] [(.int (0 : Int32))] t → G t := by
        intro t k
        refine pre6 t ?_
        show own_K p e below m T3 29 #[iv p1, iv p2, iv p3, iv p4, iv p5, iv xm1, iv xd1, .unset, .unset, .unset, .unset, .unset, .unset, .unset, .unset, .unset, .unset, .unset, .unset] [(.int (p5 &&& (1 : Int32)))] _
        refine XS.ifYes X3.here hx rfl (pc0 := 29) (pc' := 36) rfl (hb hby at_29) rfl ((if0 _ _).trans (teq hc29_7).1) (by decide) (by decide) ?_
        show own_K p e below m T3 36 #[iv p1, iv p2, iv p3, iv p4, iv p5, iv xm1, iv xd1, .unset, .unset, .unset, .unset, .unset, .unset, .unset, .unset, .unset, .unset, .unset, .unset] [] _
        refine XS.iconst X3.here hx rfl (hb hby at_36) ?_
        exact k
      have hq := True.intro
      obtain rfl : v10 = (0 : Int32) := by simp only [hv10, if_pos hc29_7]
      exact fun t k => pre8 t k
    · have pre9 : ∀ t, own_K p e below m T3 37 #[iv p1, iv p2, iv p3, iv p4, iv p5, iv xm1, iv xd1, .unset, .unset, .unset, .unset, .unset, .unset, .unset, .unset, .unset, .unset, .unset, .unset] [(.int (1 : Int32))] t → G t := by
        intro t k
        refine pre6 t ?_
        show own_K p e below m T3 29 #[iv p1, iv p2, iv p3, iv p4, iv p5, iv xm1, iv xd1, .unset, .unset, .unset, .unset, .unset, .unset, .unset, .unset, .unset, .unset, .unset, .unset] [(.int (p5 &&& (1 : Int32)))] _
        refine XS.ifNo X3.here hx rfl (hb hby at_29) rfl ((if0 _ _).trans (feq hc29_7).1) ?_
        show own_K p e below m T3 32 #[iv p1, iv p2, iv p3, iv p4, iv p5, iv xm1, iv xd1, .unset, .unset, .unset, .unset, .unset, .unset, .unset, .unset, .unset, .unset, .unset, .unset] [] _
        refine XS.iconst X3.here hx rfl (hb hby at_32) ?_
        show own_K p e below m T3 33 #[iv p1, iv p2, iv p3, iv p4, iv p5, iv xm1, iv xd1, .unset, .unset, .unset, .unset, .unset, .unset, .unset, .unset, .unset, .unset, .unset, .unset] [(.int (1 : Int32))] _
        refine XS.goto X3.here hx rfl (pc0 := 33) (pc' := 37) rfl (hb hby at_33) (by decide) (by decide) ?_
        exact k
      have hq := True.intro
      obtain rfl : v10 = (1 : Int32) := by simp only [hv10, if_neg hc29_7]
      exact fun t k => pre9 t k
  have pre12 : ∀ t, own_K p e below m T3 43 #[iv p1, iv p2, iv p3, iv p4, iv p5, iv xm1, iv xd1, iv v10, .unset, .unset, .unset, .unset, .unset, .unset, .unset, .unset, .unset, .unset, .unset] [(.int (p5 &&& (2 : Int32)))] t → G t := by
    intro t k
    refine pre11 t ?_
    show own_K p e below m T3 37 #[iv p1, iv p2, iv p3, iv p4, iv p5, iv xm1, iv xd1, .unset, .unset, .unset, .unset, .unset, .unset, .unset, .unset, .unset, .unset, .unset, .unset] [(.int v10)] _
    refine XS.istore X3.here hx rfl (hb hby at_37) rfl (l' := #[iv p1, iv p2, iv p3, iv p4, iv p5, iv xm1, iv xd1, iv v10, .unset, .unset, .unset, .unset, .unset, .unset, .unset, .unset, .unset, .unset, .unset]) rfl ?_
    show own_K p e below m T3 39 #[iv p1, iv p2, iv p3, iv p4, iv p5, iv xm1, iv xd1, iv v10, .unset, .unset, .unset, .unset, .unset, .unset, .unset, .unset, .unset, .unset, .unset] [] _
    refine XS.iload X3.here hx rfl (hb hby at_39) rfl ?_
    show own_K p e below m T3 41 #[iv p1, iv p2, iv p3, iv p4, iv p5, iv xm1, iv xd1, iv v10, .unset, .unset, .unset, .unset, .unset, .unset, .unset, .unset, .unset, .unset, .unset] [(.int p5)] _
    refine XS.iconst X3.here hx rfl (hb hby at_41) ?_
    show own_K p e below m T3 42 #[iv p1, iv p2, iv p3, iv p4, iv p5, iv xm1, iv xd1, iv v10, .unset, .unset, .unset, .unset, .unset, .unset, .unset, .unset, .unset, .unset, .unset] [(.int (2 : Int32)), (.int p5)] _
    refine XS.iand X3.here hx rfl (hb hby at_42) rfl ?_
    exact k
  obtain ⟨v16, hv16⟩ : ∃ z : Int32, z = (if (p5 &&& (2 : Int32)) = (0 : Int32) then (0 : Int32) else (1 : Int32)) := ⟨_, rfl⟩
  have pre17 : ∀ t, own_K p e below m T3 51 #[iv p1, iv p2, iv p3, iv p4, iv p5, iv xm1, iv xd1, iv v10, .unset, .unset, .unset, .unset, .unset, .unset, .unset, .unset, .unset, .unset, .unset] [(.int v16)] t → G t := by
    by_cases hc43_13 : (p5 &&& (2 : Int32)) = (0 : Int32)
    · have pre14 : ∀ t, own_K p e below m T3 51 #[iv p1, iv p2, iv p3, iv p4, iv p5, iv xm1, iv xd1, iv v10, .unset, .unset, .unset, .unset, .unset, .unset, .unset, .unset, .unset, .unset, .unset] [(.int (0 : Int32))] t → G t := by
        intro t k
        refine pre12 t ?_
        show own_K p e below m T3 43 #[iv p1, iv p2, iv p3, iv p4, iv p5, iv xm1, iv xd1, iv v10, .unset, .unset, .unset, .unset, .unset, .unset, .unset, .unset, .unset, .unset, .unset] [(.int (p5 &&& (2 : Int32)))] _
        refine XS.ifYes X3.here hx rfl (pc0 := 43) (pc' := 50) rfl (hb hby at_43) rfl ((if0 _ _).trans (teq hc43_13).1) (by decide) (by decide) ?_
        show own_K p e below m T3 50 #[iv p1, iv p2, iv p3, iv p4, iv p5, iv xm1, iv xd1, iv v10, .unset, .unset, .unset, .unset, .unset, .unset, .unset, .unset, .unset, .unset, .unset] [] _
        refine XS.iconst X3.here hx rfl (hb hby at_50) ?_
        exact k
      have hq := True.intro
      obtain rfl : v16 = (0 : Int32) := by simp only [hv16, if_pos hc43_13]
      exact fun t k => pre14 t k
    · have pre15 : ∀ t, own_K p e below m T3 51 #[iv p1, iv p2, iv p3, iv p4, iv p5, iv xm1, iv xd1, iv v10, .unset, .unset, .unset, .unset, .unset, .unset, .unset, .unset, .unset, .unset, .unset] [(.int (1 : Int32))] t → G t := by
        intro t k
        refine pre12 t ?_
        show own_K p e below m T3 43 #[iv p1, iv p2, iv p3, iv p4, iv p5, iv xm1, iv xd1, iv v10, .unset, .unset, .unset, .unset, .unset, .unset, .unset, .unset, .unset, .unset, .unset] [(.int (p5 &&& (2 : Int32)))] _
        refine XS.ifNo X3.here hx rfl (hb hby at_43) rfl ((if0 _ _).trans (feq hc43_13).1) ?_
        show own_K p e below m T3 46 #[iv p1, iv p2, iv p3, iv p4, iv p5, iv xm1, iv xd1, iv v10, .unset, .unset, .unset, .unset, .unset, .unset, .unset, .unset, .unset, .unset, .unset] [] _
        refine XS.iconst X3.here hx rfl (hb hby at_46) ?_
        show own_K p e below m T3 47 #[iv p1, iv p2, iv p3, iv p4, iv p5, iv xm1, iv xd1, iv v10, .unset, .unset, .unset, .unset, .unset, .unset, .unset, .unset, .unset, .unset, .unset] [(.int (1 : Int32))] _
        refine XS.goto X3.here hx rfl (pc0 := 47) (pc' := 51) rfl (hb hby at_47) (by decide) (by decide) ?_
        exact k
      have hq := True.intro
      obtain rfl : v16 = (1 : Int32) := by simp only [hv16, if_neg hc43_13]
      exact fun t k => pre15 t k
  have pre18 : ∀ t, own_K p e below m T3 55 #[iv p1, iv p2, iv p3, iv p4, iv p5, iv xm1, iv xd1, iv v10, iv v16, .unset, .unset, .unset, .unset, .unset, .unset, .unset, .unset, .unset, .unset] [(.int v10)] t → G t := by
    intro t k
    refine pre17 t ?_
    show own_K p e below m T3 51 #[iv p1, iv p2, iv p3, iv p4, iv p5, iv xm1, iv xd1, iv v10, .unset, .unset, .unset, .unset, .unset, .unset, .unset, .unset, .unset, .unset, .unset] [(.int v16)] _
    refine XS.istore X3.here hx rfl (hb hby at_51) rfl (l' := #[iv p1, iv p2, iv p3, iv p4, iv p5, iv xm1, iv xd1, iv v10, iv v16, .unset, .unset, .unset, .unset, .unset, .unset, .unset, .unset, .unset, .unset]) rfl ?_
    show own_K p e below m T3 53 #[iv p1, iv p2, iv p3, iv p4, iv p5, iv xm1, iv xd1, iv v10, iv v16, .unset, .unset, .unset, .unset, .unset, .unset, .unset, .unset, .unset, .unset] [] _
    refine XS.iload X3.here hx rfl (hb hby at_53) rfl ?_
    exact k
  obtain ⟨v22, hv22⟩ : ∃ z : Int32, z = (if v10 = (0 : Int32) then (((p3 &&& (2147483647 : Int32)) % (12 : Int32)) + (1 : Int32)) else xm1) := ⟨_, rfl⟩
  have pre23 : ∀ t, own_K p e below m T3 72 #[iv p1, iv p2, iv p3, iv p4, iv p5, iv xm1, iv xd1, iv v10, iv v16, .unset, .unset, .unset, .unset, .unset, .unset, .unset, .unset, .unset, .unset] [(.int v22)] t → G t := by
    by_cases hc55_19 : v10 = (0 : Int32)
    · have pre20 : ∀ t, own_K p e below m T3 72 #[iv p1, iv p2, iv p3, iv p4, iv p5, iv xm1, iv xd1, iv v10, iv v16, .unset, .unset, .unset, .unset, .unset, .unset, .unset, .unset, .unset, .unset] [(.int (((p3 &&& (2147483647 : Int32)) % (12 : Int32)) + (1 : Int32)))] t → G t := by
        intro t k
        refine pre18 t ?_
        show own_K p e below m T3 55 #[iv p1, iv p2, iv p3, iv p4, iv p5, iv xm1, iv xd1, iv v10, iv v16, .unset, .unset, .unset, .unset, .unset, .unset, .unset, .unset, .unset, .unset] [(.int v10)] _
        refine XS.ifYes X3.here hx rfl (pc0 := 55) (pc' := 63) rfl (hb hby at_55) rfl ((if0 _ _).trans (teq hc55_19).1) (by decide) (by decide) ?_
        show own_K p e below m T3 63 #[iv p1, iv p2, iv p3, iv p4, iv p5, iv xm1, iv xd1, iv v10, iv v16, .unset, .unset, .unset, .unset, .unset, .unset, .unset, .unset, .unset, .unset] [] _
        refine XS.iloadN X3.here hx rfl (hb hby at_63) rfl ?_
        show own_K p e below m T3 64 #[iv p1, iv p2, iv p3, iv p4, iv p5, iv xm1, iv xd1, iv v10, iv v16, .unset, .unset, .unset, .unset, .unset, .unset, .unset, .unset, .unset, .unset] [(.int p3)] _
        refine X3.ldcInt hx hown (mvT hZ (hw _ (List.mem_of_getElem? (i := 0) rfl))) (g := (mkF m 64 #[iv p1, iv p2, iv p3, iv p4, iv p5, iv xm1, iv xd1, iv v10, iv v16, .unset, .unset, .unset, .unset, .unset, .unset, .unset, .unset, .unset, .unset] [(.int p3)])) rfl (hb hby at_64) _ ?_
        show own_K p e below m T3 66 #[iv p1, iv p2, iv p3, iv p4, iv p5, iv xm1, iv xd1, iv v10, iv v16, .unset, .unset, .unset, .unset, .unset, .unset, .unset, .unset, .unset, .unset] [(.int (2147483647 : Int32)), (.int p3)] _
        refine XS.iand X3.here hx rfl (hb hby at_66) rfl ?_
        show own_K p e below m T3 67 #[iv p1, iv p2, iv p3, iv p4, iv p5, iv xm1, iv xd1, iv v10, iv v16, .unset, .unset, .unset, .unset, .unset, .unset, .unset, .unset, .unset, .unset] [(.int (p3 &&& (2147483647 : Int32)))] _
        refine XS.bipush X3.here hx rfl (hb hby at_67) ?_
        show own_K p e below m T3 69 #[iv p1, iv p2, iv p3, iv p4, iv p5, iv xm1, iv xd1, iv v10, iv v16, .unset, .unset, .unset, .unset, .unset, .unset, .unset, .unset, .unset, .unset] [(.int (12 : Int32)), (.int (p3 &&& (2147483647 : Int32)))] _
        refine iremM X3 hx rfl (hb hby at_69) rfl (by decide) ?_
        show own_K p e below m T3 70 #[iv p1, iv p2, iv p3, iv p4, iv p5, iv xm1, iv xd1, iv v10, iv v16, .unset, .unset, .unset, .unset, .unset, .unset, .unset, .unset, .unset, .unset] [(.int ((p3 &&& (2147483647 : Int32)) % (12 : Int32)))] _
        refine XS.iconst X3.here hx rfl (hb hby at_70) ?_
        show own_K p e below m T3 71 #[iv p1, iv p2, iv p3, iv p4, iv p5, iv xm1, iv xd1, iv v10, iv v16, .unset, .unset, .unset, .unset, .unset, .unset, .unset, .unset, .unset, .unset] [(.int (1 : Int32)), (.int ((p3 &&& (2147483647 : Int32)) % (12 : Int32)))] _
        refine XS.iadd X3.here hx rfl (hb hby at_71) rfl ?_
        exact k
      have hq := True.intro
      obtain rfl : v22 = (((p3 &&& (2147483647 : Int32)) % (12 : Int32)) + (1 : Int32)) := by simp only [hv22, if_pos hc55_19]
      exact fun t k => pre20 t k
    · have pre21 : ∀ t, own_K p e below m T3 72 #[iv p1, iv p2, iv p3, iv p4, iv p5, iv xm1, iv xd1, iv v10, iv v16, .unset, .unset, .unset, .unset, .unset, .unset, .unset, .unset, .unset, .unset] [(.int xm1)] t → G t := by
        intro t k
        refine pre18 t ?_
        show own_K p e below m T3 55 #[iv p1, iv p2, iv p3, iv p4, iv p5, iv xm1, iv xd1, iv v10, iv v16, .unset, .unset, .unset, .unset, .unset, .unset, .unset, .unset, .unset, .unset] [(.int v10)] _
        refine XS.ifNo X3.here hx rfl (hb hby at_55) rfl ((if0 _ _).trans (feq hc55_19).1) ?_
        show own_K p e below m T3 58 #[iv p1, iv p2, iv p3, iv p4, iv p5, iv xm1, iv xd1, iv v10, iv v16, .unset, .unset, .unset, .unset, .unset, .unset, .unset, .unset, .unset, .unset] [] _
        refine XS.iload X3.here hx rfl (hb hby at_58) rfl ?_
        show own_K p e below m T3 60 #[iv p1, iv p2, iv p3, iv p4, iv p5, iv xm1, iv xd1, iv v10, iv v16, .unset, .unset, .unset, .unset, .unset, .unset, .unset, .unset, .unset, .unset] [(.int xm1)] _
        refine XS.goto X3.here hx rfl (pc0 := 60) (pc' := 72) rfl (hb hby at_60) (by decide) (by decide) ?_
        exact k
      have hq := True.intro
      obtain rfl : v22 = xm1 := by simp only [hv22, if_neg hc55_19]
      exact fun t k => pre21 t k
  have pre24 : ∀ t, own_K p e below m T3 74 #[iv p1, iv p2, iv p3, iv p4, iv p5, iv xm1, iv xd1, iv v10, iv v16, iv v22, .unset, .unset, .unset, .unset, .unset, .unset, .unset, .unset, .unset] [] t → G t := by
    intro t k
    refine pre23 t ?_
    show own_K p e below m T3 72 #[iv p1, iv p2, iv p3, iv p4, iv p5, iv xm1, iv xd1, iv v10, iv v16, .unset, .unset, .unset, .unset, .unset, .unset, .unset, .unset, .unset, .unset] [(.int v22)] _
    refine XS.istore X3.here hx rfl (hb hby at_72) rfl (l' := #[iv p1, iv p2, iv p3, iv p4, iv p5, iv xm1, iv xd1, iv v10, iv v16, iv v22, .unset, .unset, .unset, .unset, .unset, .unset, .unset, .unset, .unset]) rfl ?_
    exact k
  obtain ⟨mN2, hmN2, hxmN2⟩ : ∃ n : Nat, n < 12 ∧ v22 = Int32.ofNat (n + 1) := by
    rw [hv22]
    split
    · exact own_month' _
    · exact ⟨mN1, hmN1, hxmN1⟩
  have pre25 : ∀ t, own_K p e below m T3 76 #[iv p1, iv p2, iv p3, iv p4, iv p5, iv xm1, iv xd1, iv v10, iv v16, iv v22, .unset, .unset, .unset, .unset, .unset, .unset, .unset, .unset, .unset] [(.int v16)] t → G t := by
    intro t k
    refine pre24 t ?_
    show own_K p e below m T3 74 #[iv p1, iv p2, iv p3, iv p4, iv p5, iv xm1, iv xd1, iv v10, iv v16, iv v22, .unset, .unset, .unset, .unset, .unset, .unset, .unset, .unset, .unset] [] _
    refine XS.iload X3.here hx rfl (hb hby at_74) rfl ?_
    exact k
  obtain ⟨v31, hv31⟩ : ∃ z : Int32, z = (if v16 = (0 : Int32) then (((p4 &&& (2147483647 : Int32)) % (own_ml v22)) + (1 : Int32)) else (((xd1 - (1 : Int32)) % (own_ml v22)) + (1 : Int32))) := ⟨_, rfl⟩
  obtain ⟨T32, lo32, X32, N32, e32, pre32⟩ : ∃ (T' : State) (l' : List Loc), Stand p l e room_1 s m #[(.int p1), (.int p2), (.int p3), (.int p4), (.int p5)] below meth c T' l' 0 0 ∧ Fr n0 l' ∧ T'.heap = h0 ∧ ∀ t, own_K p e below m T' 106 #[iv p1, iv p2, iv p3, iv p4, iv p5, iv xm1, iv xd1, iv v10, iv v16, iv v22, .unset, .unset, .unset, .unset, .unset, .unset, .unset, .unset, .unset] [(.int v31)] t → G t := by
    by_cases hc76_26 : v16 = (0 : Int32)
    · obtain ⟨_, _, ⟨T27, L27, k27, n27⟩, -, X27, ⟨Lc27, hQ27, l27, y27, z27⟩, st27⟩ := Jvm.LawKit.callS X3 hx (y := (⟨"com/example/notewright/notewright/AnnualDayEqualsPinLaw", "maxLen", "(I)I"⟩ : MethodName)) hown (mvT hZ (hw _ (List.mem_of_getElem? (i := 1) rfl))) (mvT hZ (hw _ (List.mem_of_getElem? (i := 2) rfl))) (mvT hZ (hw _ (List.mem_of_getElem? (i := 3) rfl))) (mvT hZ (hw _ (List.mem_of_getElem? (i := 4) rfl))) (by decide) (backOf (W := 1) (rm1 l Z a0 hw [] v22 h0 n0 Z0 ) hZ (hw _ (List.mem_of_getElem? (i := 4) rfl)) (hw _ (List.mem_of_getElem? (i := 3) rfl)) (by decide) (by decide)) (g := (mkF m 100 #[iv p1, iv p2, iv p3, iv p4, iv p5, iv xm1, iv xd1, iv v10, iv v16, iv v22, .unset, .unset, .unset, .unset, .unset, .unset, .unset, .unset, .unset] [(.int v22), (.int (p4 &&& (2147483647 : Int32)))])) rfl (by rw [hml]; rfl) (argsL := [(.int v22)]) (rest := [(.int (p4 &&& (2147483647 : Int32)))]) (lenOf pd_4 rfl) rfl (by show 2 * 0 + _ ≤ _; exact Nat.le_of_eq rfl) (hb hby at_100) (fun _ _ => ⟨rfl, eh3, (by decide : 0 + 0 ≤ _), (by decide : 0 + 0 ≤ _)⟩)
      dsimp only [Pt.U, Pt.locs, Pt.cells, Pt.slots] at X27 l27 y27 z27 st27 hQ27
      subst l27 y27 z27
      obtain ⟨rfl, Nq27, eh27⟩ := hQ27
      have N27 := Fr.app N3 Nq27
      have pre28 : ∀ t, own_K p e below m T27 106 #[iv p1, iv p2, iv p3, iv p4, iv p5, iv xm1, iv xd1, iv v10, iv v16, iv v22, .unset, .unset, .unset, .unset, .unset, .unset, .unset, .unset, .unset] [(.int (((p4 &&& (2147483647 : Int32)) % (own_ml v22)) + (1 : Int32)))] t → G t := by
        intro t k
        refine pre25 t ?_
        show own_K p e below m T3 76 #[iv p1, iv p2, iv p3, iv p4, iv p5, iv xm1, iv xd1, iv v10, iv v16, iv v22, .unset, .unset, .unset, .unset, .unset, .unset, .unset, .unset, .unset] [(.int v16)] _
        refine XS.ifYes X3.here hx rfl (pc0 := 76) (pc' := 94) rfl (hb hby at_76) rfl ((if0 _ _).trans (teq hc76_26).1) (by decide) (by decide) ?_
        show own_K p e below m T3 94 #[iv p1, iv p2, iv p3, iv p4, iv p5, iv xm1, iv xd1, iv v10, iv v16, iv v22, .unset, .unset, .unset, .unset, .unset, .unset, .unset, .unset, .unset] [] _
        refine XS.iloadN X3.here hx rfl (hb hby at_94) rfl ?_
        show own_K p e below m T3 95 #[iv p1, iv p2, iv p3, iv p4, iv p5, iv xm1, iv xd1, iv v10, iv v16, iv v22, .unset, .unset, .unset, .unset, .unset, .unset, .unset, .unset, .unset] [(.int p4)] _
        refine X3.ldcInt hx hown (mvT hZ (hw _ (List.mem_of_getElem? (i := 0) rfl))) (g := (mkF m 95 #[iv p1, iv p2, iv p3, iv p4, iv p5, iv xm1, iv xd1, iv v10, iv v16, iv v22, .unset, .unset, .unset, .unset, .unset, .unset, .unset, .unset, .unset] [(.int p4)])) rfl (hb hby at_95) _ ?_
        show own_K p e below m T3 97 #[iv p1, iv p2, iv p3, iv p4, iv p5, iv xm1, iv xd1, iv v10, iv v16, iv v22, .unset, .unset, .unset, .unset, .unset, .unset, .unset, .unset, .unset] [(.int (2147483647 : Int32)), (.int p4)] _
        refine XS.iand X3.here hx rfl (hb hby at_97) rfl ?_
        show own_K p e below m T3 98 #[iv p1, iv p2, iv p3, iv p4, iv p5, iv xm1, iv xd1, iv v10, iv v16, iv v22, .unset, .unset, .unset, .unset, .unset, .unset, .unset, .unset, .unset] [(.int (p4 &&& (2147483647 : Int32)))] _
        refine XS.iload X3.here hx rfl (hb hby at_98) rfl ?_
        show own_K p e below m T3 100 #[iv p1, iv p2, iv p3, iv p4, iv p5, iv xm1, iv xd1, iv v10, iv v16, iv v22, .unset, .unset, .unset, .unset, .unset, .unset, .unset, .unset, .unset] [(.int v22), (.int (p4 &&& (2147483647 : Int32)))] _
        refine st27 _ ?_
        show own_K p e below m T27 103 #[iv p1, iv p2, iv p3, iv p4, iv p5, iv xm1, iv xd1, iv v10, iv v16, iv v22, .unset, .unset, .unset, .unset, .unset, .unset, .unset, .unset, .unset] [(.int (own_ml v22)), (.int (p4 &&& (2147483647 : Int32)))] _
        refine iremM X27 hx rfl (hb hby at_103) rfl (own_mlnz hxmN2 hmN2) ?_
        show own_K p e below m T27 104 #[iv p1, iv p2, iv p3, iv p4, iv p5, iv xm1, iv xd1, iv v10, iv v16, iv v22, .unset, .unset, .unset, .unset, .unset, .unset, .unset, .unset, .unset] [(.int ((p4 &&& (2147483647 : Int32)) % (own_ml v22)))] _
        refine XS.iconst X27.here hx rfl (hb hby at_104) ?_
        show own_K p e below m T27 105 #[iv p1, iv p2, iv p3, iv p4, iv p5, iv xm1, iv xd1, iv v10, iv v16, iv v22, .unset, .unset, .unset, .unset, .unset, .unset, .unset, .unset, .unset] [(.int (1 : Int32)), (.int ((p4 &&& (2147483647 : Int32)) % (own_ml v22)))] _
        refine XS.iadd X27.here hx rfl (hb hby at_105) rfl ?_
        exact k
      have hq := True.intro
      obtain rfl : v31 = (((p4 &&& (2147483647 : Int32)) % (own_ml v22)) + (1 : Int32)) := by simp only [hv31, if_pos hc76_26]
      exact ⟨_, _, X27, N27, eh27, fun t k => pre28 t k⟩
    · obtain ⟨_, _, ⟨T29, L29, k29, n29⟩, -, X29, ⟨Lc29, hQ29, l29, y29, z29⟩, st29⟩ := Jvm.LawKit.callS X3 hx (y := (⟨"com/example/notewright/notewright/AnnualDayEqualsPinLaw", "maxLen", "(I)I"⟩ : MethodName)) hown (mvT hZ (hw _ (List.mem_of_getElem? (i := 1) rfl))) (mvT hZ (hw _ (List.mem_of_getElem? (i := 2) rfl))) (mvT hZ (hw _ (List.mem_of_getElem? (i := 3) rfl))) (mvT hZ (hw _ (List.mem_of_getElem? (i := 4) rfl))) (by decide) (backOf (W := 1) (rm1 l Z a0 hw [] v22 h0 n0 Z0 ) hZ (hw _ (List.mem_of_getElem? (i := 4) rfl)) (hw _ (List.mem_of_getElem? (i := 3) rfl)) (by decide) (by decide)) (g := (mkF m 85 #[iv p1, iv p2, iv p3, iv p4, iv p5, iv xm1, iv xd1, iv v10, iv v16, iv v22, .unset, .unset, .unset, .unset, .unset, .unset, .unset, .unset, .unset] [(.int v22), (.int (xd1 - (1 : Int32)))])) rfl (by rw [hml]; rfl) (argsL := [(.int v22)]) (rest := [(.int (xd1 - (1 : Int32)))]) (lenOf pd_4 rfl) rfl (by show 2 * 0 + _ ≤ _; exact Nat.le_of_eq rfl) (hb hby at_85) (fun _ _ => ⟨rfl, eh3, (by decide : 0 + 0 ≤ _), (by decide : 0 + 0 ≤ _)⟩)
      dsimp only [Pt.U, Pt.locs, Pt.cells, Pt.slots] at X29 l29 y29 z29 st29 hQ29
      subst l29 y29 z29
      obtain ⟨rfl, Nq29, eh29⟩ := hQ29
      have N29 := Fr.app N3 Nq29
      have pre30 : ∀ t, own_K p e below m T29 106 #[iv p1, iv p2, iv p3, iv p4, iv p5, iv xm1, iv xd1, iv v10, iv v16, iv v22, .unset, .unset, .unset, .unset, .unset, .unset, .unset, .unset, .unset] [(.int (((xd1 - (1 : Int32)) % (own_ml v22)) + (1 : Int32)))] t → G t := by
        intro t k
        refine pre25 t ?_
        show own_K p e below m T3 76 #[iv p1, iv p2, iv p3, iv p4, iv p5, iv xm1, iv xd1, iv v10, iv v16, iv v22, .unset, .unset, .unset, .unset, .unset, .unset, .unset, .unset, .unset] [(.int v16)] _
        refine XS.ifNo X3.here hx rfl (hb hby at_76) rfl ((if0 _ _).trans (feq hc76_26).1) ?_
        show own_K p e below m T3 79 #[iv p1, iv p2, iv p3, iv p4, iv p5, iv xm1, iv xd1, iv v10, iv v16, iv v22, .unset, .unset, .unset, .unset, .unset, .unset, .unset, .unset, .unset] [] _
        refine XS.iload X3.here hx rfl (hb hby at_79) rfl ?_
        show own_K p e below m T3 81 #[iv p1, iv p2, iv p3, iv p4, iv p5, iv xm1, iv xd1, iv v10, iv v16, iv v22, .unset, .unset, .unset, .unset, .unset, .unset, .unset, .unset, .unset] [(.int xd1)] _
        refine XS.iconst X3.here hx rfl (hb hby at_81) ?_
        show own_K p e below m T3 82 #[iv p1, iv p2, iv p3, iv p4, iv p5, iv xm1, iv xd1, iv v10, iv v16, iv v22, .unset, .unset, .unset, .unset, .unset, .unset, .unset, .unset, .unset] [(.int (1 : Int32)), (.int xd1)] _
        refine XS.isub X3.here hx rfl (hb hby at_82) rfl ?_
        show own_K p e below m T3 83 #[iv p1, iv p2, iv p3, iv p4, iv p5, iv xm1, iv xd1, iv v10, iv v16, iv v22, .unset, .unset, .unset, .unset, .unset, .unset, .unset, .unset, .unset] [(.int (xd1 - (1 : Int32)))] _
        refine XS.iload X3.here hx rfl (hb hby at_83) rfl ?_
        show own_K p e below m T3 85 #[iv p1, iv p2, iv p3, iv p4, iv p5, iv xm1, iv xd1, iv v10, iv v16, iv v22, .unset, .unset, .unset, .unset, .unset, .unset, .unset, .unset, .unset] [(.int v22), (.int (xd1 - (1 : Int32)))] _
        refine st29 _ ?_
        show own_K p e below m T29 88 #[iv p1, iv p2, iv p3, iv p4, iv p5, iv xm1, iv xd1, iv v10, iv v16, iv v22, .unset, .unset, .unset, .unset, .unset, .unset, .unset, .unset, .unset] [(.int (own_ml v22)), (.int (xd1 - (1 : Int32)))] _
        refine iremM X29 hx rfl (hb hby at_88) rfl (own_mlnz hxmN2 hmN2) ?_
        show own_K p e below m T29 89 #[iv p1, iv p2, iv p3, iv p4, iv p5, iv xm1, iv xd1, iv v10, iv v16, iv v22, .unset, .unset, .unset, .unset, .unset, .unset, .unset, .unset, .unset] [(.int ((xd1 - (1 : Int32)) % (own_ml v22)))] _
        refine XS.iconst X29.here hx rfl (hb hby at_89) ?_
        show own_K p e below m T29 90 #[iv p1, iv p2, iv p3, iv p4, iv p5, iv xm1, iv xd1, iv v10, iv v16, iv v22, .unset, .unset, .unset, .unset, .unset, .unset, .unset, .unset, .unset] [(.int (1 : Int32)), (.int ((xd1 - (1 : Int32)) % (own_ml v22)))] _
        refine XS.iadd X29.here hx rfl (hb hby at_90) rfl ?_
        show own_K p e below m T29 91 #[iv p1, iv p2, iv p3, iv p4, iv p5, iv xm1, iv xd1, iv v10, iv v16, iv v22, .unset, .unset, .unset, .unset, .unset, .unset, .unset, .unset, .unset] [(.int (((xd1 - (1 : Int32)) % (own_ml v22)) + (1 : Int32)))] _
        refine XS.goto X29.here hx rfl (pc0 := 91) (pc' := 106) rfl (hb hby at_91) (by decide) (by decide) ?_
        exact k
      have hq := True.intro
      obtain rfl : v31 = (((xd1 - (1 : Int32)) % (own_ml v22)) + (1 : Int32)) := by simp only [hv31, if_neg hc76_26]
      exact ⟨_, _, X29, N29, eh29, fun t k => pre30 t k⟩
  have pre33 : ∀ t, own_K p e below m T32 108 #[iv p1, iv p2, iv p3, iv p4, iv p5, iv xm1, iv xd1, iv v10, iv v16, iv v22, iv v31, .unset, .unset, .unset, .unset, .unset, .unset, .unset, .unset] [] t → G t := by
    intro t k
    refine pre32 t ?_
    show own_K p e below m T32 106 #[iv p1, iv p2, iv p3, iv p4, iv p5, iv xm1, iv xd1, iv v10, iv v16, iv v22, .unset, .unset, .unset, .unset, .unset, .unset, .unset, .unset, .unset] [(.int v31)] _
    refine XS.istore X32.here hx rfl (hb hby at_106) rfl (l' := #[iv p1, iv p2, iv p3, iv p4, iv p5, iv xm1, iv xd1, iv v10, iv v16, iv v22, iv v31, .unset, .unset, .unset, .unset, .unset, .unset, .unset, .unset]) rfl ?_
    exact k
  obtain ⟨hd2a, hd2b⟩ : ¬ v31 < (1 : Int32) ∧ ¬ (own_mlen (Int32.ofNat mN2)) < v31 := by
    rw [hv31]
    split
    · exact own_day (own_mask _) hxmN2 hmN2 rfl
    · exact own_day (own_dm1 hd1a) hxmN2 hmN2 rfl
  obtain ⟨T34, h34, X34, e34, E34, A34, D34, -, st34⟩ := newO X32 hx hZ hown (hw _ (List.mem_of_getElem? (i := 5) rfl)) (hw _ (List.mem_of_getElem? (i := 6) rfl)) (hw _ (List.mem_of_getElem? (i := 7) rfl)) e32 (g := (mkF m 108 #[iv p1, iv p2, iv p3, iv p4, iv p5, iv xm1, iv xd1, iv v10, iv v16, iv v22, iv v31, .unset, .unset, .unset, .unset, .unset, .unset, .unset, .unset] [])) rfl (hb hby at_108) (by decide) (by decide)
  obtain ⟨b34, g34⟩ : ∃ z, z = h0.size := ⟨_, rfl⟩
  rw [← g34] at A34 D34 st34
  have ge_b34 : n0 ≤ b34 := Nat.le_trans Z0 (Nat.le_of_eq g34.symm)
  have sz_b34 : h0.size ≤ b34 := Nat.le_trans (Keep.refl h0 []).1 (Nat.le_of_eq g34.symm)
  have K34 : Keep h0 h34 [] := (Keep.refl h0 []).ext E34
  have sz34 : n0 ≤ h34.size := Nat.le_trans Z0 E34.1
  have f35 : Fld Z h34 b34 "com/example/notewright/notewright/AnnualDay" "month" "I" (.int (0 : Int32)) := D34 (Or.inr (hw _ (List.mem_of_getElem? (i := 39) rfl))) (ty := .int) (by decide)
  have f36 : Fld Z h34 b34 "com/example/notewright/notewright/AnnualDay" "day" "I" (.int (0 : Int32)) := D34 (Or.inr (hw _ (List.mem_of_getElem? (i := 41) rfl))) (ty := .int) (by decide)
  have f38 : Old Z n0 h34 := (O_.ext E34)
  obtain ⟨_, _, ⟨T37, L37, k37, n37⟩, -, X37, ⟨Lc37, hQ37, l37, y37, z37⟩, st37⟩ := X34.specialBack hx (y := (⟨"com/example/notewright/notewright/AnnualDay", "<init>", "(II)V"⟩ : MethodName)) rfl hown (mvT hZ (hw _ (List.mem_of_getElem? (i := 8) rfl))) (mvT hZ (hw _ (List.mem_of_getElem? (i := 9) rfl))) (mvT hZ (hw _ (List.mem_of_getElem? (i := 10) rfl))) (by decide) (backOf (W := 1) (rm2 l Z a0 hw [] b34 xm1 xd1 (.int (0 : Int32)) (.int (0 : Int32)) mm ea kE mN1 h34 n0 sz34 A34 f35 f36 ge_b34 f38 SE VE EM FM hmN1 hxmN1 hd1a hd1b) hZ (hw _ (List.mem_of_getElem? (i := 10) rfl)) (hw _ (List.mem_of_getElem? (i := 7) rfl)) (by decide) (by decide)) (g := (mkF m 116 #[iv p1, iv p2, iv p3, iv p4, iv p5, iv xm1, iv xd1, iv v10, iv v16, iv v22, iv v31, .unset, .unset, .unset, .unset, .unset, .unset, .unset, .unset] [(.int xd1), (.int xm1), (.ref b34), (.ref b34)])) rfl (by rw [hml]; rfl) (Steps.refl _) (a := b34) (argsL := [(.int xm1), (.int xd1)]) (rest := [(.ref b34)]) (lenOf pd_5 rfl) rfl (by show 2 * 0 + _ ≤ _; exact Nat.le_of_eq rfl) (hb hby at_116) (fun _ _ => ⟨rfl, e34, (by decide : 1 + 0 ≤ _), (by decide : 2 + 0 ≤ _)⟩)
  dsimp only [Pt.U, Pt.locs, Pt.cells, Pt.slots] at X37 l37 y37 z37 st37 hQ37
  subst l37 y37 z37
  obtain ⟨rfl, Nq37, Kc37, Fm_37, Fd_37⟩ := hQ37
  have N37 := Fr.app N32 Nq37
  have K37 : Keep h0 T37.heap [] := K34.trans Kc37 (allS (Or.inr sz_b34) all0)
  have sz37 : n0 ≤ T37.heap.size := Nat.le_trans sz34 Kc37.1
  obtain ⟨T39, h39, X39, e39, E39, A39, D39, -, st39⟩ := newO X37 hx hZ hown (hw _ (List.mem_of_getElem? (i := 5) rfl)) (hw _ (List.mem_of_getElem? (i := 6) rfl)) (hw _ (List.mem_of_getElem? (i := 7) rfl)) rfl (g := (mkF m 121 #[iv p1, iv p2, iv p3, iv p4, iv p5, iv xm1, iv xd1, iv v10, iv v16, iv v22, iv v31, rv b34, .unset, .unset, .unset, .unset, .unset, .unset, .unset] [])) rfl (hb hby at_121) (by decide) (by decide)
  obtain ⟨b39, g39⟩ : ∃ z, z = T37.heap.size := ⟨_, rfl⟩
  rw [← g39] at A39 D39 st39
  have f40 : Exa Z T37.heap b34 "com/example/notewright/notewright/AnnualDay" := (A34.keep Kc37)
  have ne39_b34 : b34 ≠ b39 := Nat.ne_of_lt (Nat.lt_of_lt_of_le f40.lt (Nat.le_of_eq g39.symm))
  have ge_b39 : n0 ≤ b39 := Nat.le_trans sz37 (Nat.le_of_eq g39.symm)
  have sz_b39 : h0.size ≤ b39 := Nat.le_trans K37.1 (Nat.le_of_eq g39.symm)
  have K39 : Keep h0 h39 [] := K37.ext E39
  have sz39 : n0 ≤ h39.size := Nat.le_trans sz37 E39.1
  have f41 : Fld Z h39 b39 "com/example/notewright/notewright/AnnualDay" "month" "I" (.int (0 : Int32)) := D39 (Or.inr (hw _ (List.mem_of_getElem? (i := 39) rfl))) (ty := .int) (by decide)
  have f42 : Fld Z h39 b39 "com/example/notewright/notewright/AnnualDay" "day" "I" (.int (0 : Int32)) := D39 (Or.inr (hw _ (List.mem_of_getElem? (i := 41) rfl))) (ty := .int) (by decide)
  have f44 : Old Z n0 h39 := ((f38.keep Kc37 (allS ge_b34 all0)).ext E39)
  obtain ⟨_, _, ⟨T43, L43, k43, n43⟩, -, X43, ⟨Lc43, hQ43, l43, y43, z43⟩, st43⟩ := X39.specialBack hx (y := (⟨"com/example/notewright/notewright/AnnualDay", "<init>", "(II)V"⟩ : MethodName)) rfl hown (mvT hZ (hw _ (List.mem_of_getElem? (i := 8) rfl))) (mvT hZ (hw _ (List.mem_of_getElem? (i := 9) rfl))) (mvT hZ (hw _ (List.mem_of_getElem? (i := 10) rfl))) (by decide) (backOf (W := 1) (rm2 l Z a0 hw [] b39 v22 v31 (.int (0 : Int32)) (.int (0 : Int32)) mm ea kE mN2 h39 n0 sz39 A39 f41 f42 ge_b39 f44 SE VE EM FM hmN2 hxmN2 hd2a hd2b) hZ (hw _ (List.mem_of_getElem? (i := 10) rfl)) (hw _ (List.mem_of_getElem? (i := 7) rfl)) (by decide) (by decide)) (g := (mkF m 129 #[iv p1, iv p2, iv p3, iv p4, iv p5, iv xm1, iv xd1, iv v10, iv v16, iv v22, iv v31, rv b34, .unset, .unset, .unset, .unset, .unset, .unset, .unset] [(.int v31), (.int v22), (.ref b39), (.ref b39)])) rfl (by rw [hml]; rfl) (Steps.refl _) (a := b39) (argsL := [(.int v22), (.int v31)]) (rest := [(.ref b39)]) (lenOf pd_5 rfl) rfl (by show 2 * 0 + _ ≤ _; exact Nat.le_of_eq rfl) (hb hby at_129) (fun _ _ => ⟨rfl, e39, (by decide : 2 + 0 ≤ _), (by decide : 4 + 0 ≤ _)⟩)
  dsimp only [Pt.U, Pt.locs, Pt.cells, Pt.slots] at X43 l43 y43 z43 st43 hQ43
  subst l43 y43 z43
  obtain ⟨rfl, Nq43, Kc43, Fm_43, Fd_43⟩ := hQ43
  have N43 := Fr.app N37 Nq43
  have K43 : Keep h0 T43.heap [] := K39.trans Kc43 (allS (Or.inr sz_b39) all0)
  have sz43 : n0 ≤ T43.heap.size := Nat.le_trans sz39 Kc43.1
  have pre45 : ∀ t, own_K p e below m T43 138 #[iv p1, iv p2, iv p3, iv p4, iv p5, iv xm1, iv xd1, iv v10, iv v16, iv v22, iv v31, rv b34, rv b39, .unset, .unset, .unset, .unset, .unset, .unset] [(.int v22), (.int xm1)] t → G t := by
    intro t k
    refine pre33 t ?_
    show own_K p e below m T32 108 #[iv p1, iv p2, iv p3, iv p4, iv p5, iv xm1, iv xd1, iv v10, iv v16, iv v22, iv v31, .unset, .unset, .unset, .unset, .unset, .unset, .unset, .unset] [] _
    refine st34 _ ?_
    show own_K p e below m T34 111 #[iv p1, iv p2, iv p3, iv p4, iv p5, iv xm1, iv xd1, iv v10, iv v16, iv v22, iv v31, .unset, .unset, .unset, .unset, .unset, .unset, .unset, .unset] [(.ref b34)] _
    refine XS.dup X34.here hx rfl (hb hby at_111) rfl rfl ?_
    show own_K p e below m T34 112 #[iv p1, iv p2, iv p3, iv p4, iv p5, iv xm1, iv xd1, iv v10, iv v16, iv v22, iv v31, .unset, .unset, .unset, .unset, .unset, .unset, .unset, .unset] [(.ref b34), (.ref b34)] _
    refine XS.iload X34.here hx rfl (hb hby at_112) rfl ?_
    show own_K p e below m T34 114 #[iv p1, iv p2, iv p3, iv p4, iv p5, iv xm1, iv xd1, iv v10, iv v16, iv v22, iv v31, .unset, .unset, .unset, .unset, .unset, .unset, .unset, .unset] [(.int xm1), (.ref b34), (.ref b34)] _
    refine XS.iload X34.here hx rfl (hb hby at_114) rfl ?_
    show own_K p e below m T34 116 #[iv p1, iv p2, iv p3, iv p4, iv p5, iv xm1, iv xd1, iv v10, iv v16, iv v22, iv v31, .unset, .unset, .unset, .unset, .unset, .unset, .unset, .unset] [(.int xd1), (.int xm1), (.ref b34), (.ref b34)] _
    refine st37.trans ?_
    show own_K p e below m T37 119 #[iv p1, iv p2, iv p3, iv p4, iv p5, iv xm1, iv xd1, iv v10, iv v16, iv v22, iv v31, .unset, .unset, .unset, .unset, .unset, .unset, .unset, .unset] [(.ref b34)] _
    refine XS.astore X37.here hx rfl (hb hby at_119) rfl rfl (l' := #[iv p1, iv p2, iv p3, iv p4, iv p5, iv xm1, iv xd1, iv v10, iv v16, iv v22, iv v31, rv b34, .unset, .unset, .unset, .unset, .unset, .unset, .unset]) rfl ?_
    show own_K p e below m T37 121 #[iv p1, iv p2, iv p3, iv p4, iv p5, iv xm1, iv xd1, iv v10, iv v16, iv v22, iv v31, rv b34, .unset, .unset, .unset, .unset, .unset, .unset, .unset] [] _
    refine st39 _ ?_
    show own_K p e below m T39 124 #[iv p1, iv p2, iv p3, iv p4, iv p5, iv xm1, iv xd1, iv v10, iv v16, iv v22, iv v31, rv b34, .unset, .unset, .unset, .unset, .unset, .unset, .unset] [(.ref b39)] _
    refine XS.dup X39.here hx rfl (hb hby at_124) rfl rfl ?_
    show own_K p e below m T39 125 #[iv p1, iv p2, iv p3, iv p4, iv p5, iv xm1, iv xd1, iv v10, iv v16, iv v22, iv v31, rv b34, .unset, .unset, .unset, .unset, .unset, .unset, .unset] [(.ref b39), (.ref b39)] _
    refine XS.iload X39.here hx rfl (hb hby at_125) rfl ?_
    show own_K p e below m T39 127 #[iv p1, iv p2, iv p3, iv p4, iv p5, iv xm1, iv xd1, iv v10, iv v16, iv v22, iv v31, rv b34, .unset, .unset, .unset, .unset, .unset, .unset, .unset] [(.int v22), (.ref b39), (.ref b39)] _
    refine XS.iload X39.here hx rfl (hb hby at_127) rfl ?_
    show own_K p e below m T39 129 #[iv p1, iv p2, iv p3, iv p4, iv p5, iv xm1, iv xd1, iv v10, iv v16, iv v22, iv v31, rv b34, .unset, .unset, .unset, .unset, .unset, .unset, .unset] [(.int v31), (.int v22), (.ref b39), (.ref b39)] _
    refine st43.trans ?_
    show own_K p e below m T43 132 #[iv p1, iv p2, iv p3, iv p4, iv p5, iv xm1, iv xd1, iv v10, iv v16, iv v22, iv v31, rv b34, .unset, .unset, .unset, .unset, .unset, .unset, .unset] [(.ref b39)] _
    refine XS.astore X43.here hx rfl (hb hby at_132) rfl rfl (l' := #[iv p1, iv p2, iv p3, iv p4, iv p5, iv xm1, iv xd1, iv v10, iv v16, iv v22, iv v31, rv b34, rv b39, .unset, .unset, .unset, .unset, .unset, .unset]) rfl ?_
    show own_K p e below m T43 134 #[iv p1, iv p2, iv p3, iv p4, iv p5, iv xm1, iv xd1, iv v10, iv v16, iv v22, iv v31, rv b34, rv b39, .unset, .unset, .unset, .unset, .unset, .unset] [] _
    refine XS.iload X43.here hx rfl (hb hby at_134) rfl ?_
    show own_K p e below m T43 136 #[iv p1, iv p2, iv p3, iv p4, iv p5, iv xm1, iv xd1, iv v10, iv v16, iv v22, iv v31, rv b34, rv b39, .unset, .unset, .unset, .unset, .unset, .unset] [(.int xm1)] _
    refine XS.iload X43.here hx rfl (hb hby at_136) rfl ?_
    exact k
  obtain ⟨v52, hv52⟩ : ∃ z : Int32, z = (if xm1 = v22 then (if xd1 = v31 then (1 : Int32) else (0 : Int32)) else (0 : Int32)) := ⟨_, rfl⟩
  have pre53 : ∀ t, own_K p e below m T43 153 #[iv p1, iv p2, iv p3, iv p4, iv p5, iv xm1, iv xd1, iv v10, iv v16, iv v22, iv v31, rv b34, rv b39, .unset, .unset, .unset, .unset, .unset, .unset] [(.int v52)] t → G t := by
    by_cases hc138_46 : xm1 = v22
    · have pre47 : ∀ t, own_K p e below m T43 145 #[iv p1, iv p2, iv p3, iv p4, iv p5, iv xm1, iv xd1, iv v10, iv v16, iv v22, iv v31, rv b34, rv b39, .unset, .unset, .unset, .unset, .unset, .unset] [(.int v31), (.int xd1)] t → G t := by
        intro t k
        refine pre45 t ?_
        show own_K p e below m T43 138 #[iv p1, iv p2, iv p3, iv p4, iv p5, iv xm1, iv xd1, iv v10, iv v16, iv v22, iv v31, rv b34, rv b39, .unset, .unset, .unset, .unset, .unset, .unset] [(.int v22), (.int xm1)] _
        refine XS.icmpNo X43.here hx rfl (hb hby at_138) rfl (teq hc138_46).2 ?_
        show own_K p e below m T43 141 #[iv p1, iv p2, iv p3, iv p4, iv p5, iv xm1, iv xd1, iv v10, iv v16, iv v22, iv v31, rv b34, rv b39, .unset, .unset, .unset, .unset, .unset, .unset] [] _
        refine XS.iload X43.here hx rfl (hb hby at_141) rfl ?_
        show own_K p e below m T43 143 #[iv p1, iv p2, iv p3, iv p4, iv p5, iv xm1, iv xd1, iv v10, iv v16, iv v22, iv v31, rv b34, rv b39, .unset, .unset, .unset, .unset, .unset, .unset] [(.int xd1)] _
        refine XS.iload X43.here hx rfl (hb hby at_143) rfl ?_
        exact k
      by_cases hc145_48 : xd1 = v31
      · have pre49 : ∀ t, own_K p e below m T43 153 #[iv p1, iv p2, iv p3, iv p4, iv p5, iv xm1, iv xd1, iv v10, iv v16, iv v22, iv v31, rv b34, rv b39, .unset, .unset, .unset, .unset, .unset, .unset] [(.int (1 : Int32))] t → G t := by
          intro t k
          refine pre47 t ?_
          show own_K p e below m T43 145 #[iv p1, iv p2, iv p3, iv p4, iv p5, iv xm1, iv xd1, iv v10, iv v16, iv v22, iv v31, rv b34, rv b39, .unset, .unset, .unset, .unset, .unset, .unset] [(.int v31), (.int xd1)] _
          refine XS.icmpNo X43.here hx rfl (hb hby at_145) rfl (teq hc145_48).2 ?_
          show own_K p e below m T43 148 #[iv p1, iv p2, iv p3, iv p4, iv p5, iv xm1, iv xd1, iv v10, iv v16, iv v22, iv v31, rv b34, rv b39, .unset, .unset, .unset, .unset, .unset, .unset] [] _
          refine XS.iconst X43.here hx rfl (hb hby at_148) ?_
          show own_K p e below m T43 149 #[iv p1, iv p2, iv p3, iv p4, iv p5, iv xm1, iv xd1, iv v10, iv v16, iv v22, iv v31, rv b34, rv b39, .unset, .unset, .unset, .unset, .unset, .unset] [(.int (1 : Int32))] _
          refine XS.goto X43.here hx rfl (pc0 := 149) (pc' := 153) rfl (hb hby at_149) (by decide) (by decide) ?_
          exact k
        have hq := True.intro
        obtain rfl : v52 = (1 : Int32) := by simp only [hv52, if_pos hc138_46, if_pos hc145_48]
        exact fun t k => pre49 t k
      · have pre50 : ∀ t, own_K p e below m T43 153 #[iv p1, iv p2, iv p3, iv p4, iv p5, iv xm1, iv xd1, iv v10, iv v16, iv v22, iv v31, rv b34, rv b39, .unset, .unset, .unset, .unset, .unset, .unset] [(.int (0 : Int32))] t → G t := by
          intro t k
          refine pre47 t ?_
          show own_K p e below m T43 145 #[iv p1, iv p2, iv p3, iv p4, iv p5, iv xm1, iv xd1, iv v10, iv v16, iv v22, iv v31, rv b34, rv b39, .unset, .unset, .unset, .unset, .unset, .unset] [(.int v31), (.int xd1)] _
          refine XS.icmpYes X43.here hx rfl (pc0 := 145) (pc' := 152) rfl (hb hby at_145) rfl (feq hc145_48).2 (by decide) (by decide) ?_
          show own_K p e below m T43 152 #[iv p1, iv p2, iv p3, iv p4, iv p5, iv xm1, iv xd1, iv v10, iv v16, iv v22, iv v31, rv b34, rv b39, .unset, .unset, .unset, .unset, .unset, .unset] [] _
          refine XS.iconst X43.here hx rfl (hb hby at_152) ?_
          exact k
        have hq := True.intro
        obtain rfl : v52 = (0 : Int32) := by simp only [hv52, if_pos hc138_46, if_neg hc145_48]
        exact fun t k => pre50 t k
    · have pre51 : ∀ t, own_K p e below m T43 153 #[iv p1, iv p2, iv p3, iv p4, iv p5, iv xm1, iv xd1, iv v10, iv v16, iv v22, iv v31, rv b34, rv b39, .unset, .unset, .unset, .unset, .unset, .unset] [(.int (0 : Int32))] t → G t := by
        intro t k
        refine pre45 t ?_
        show own_K p e below m T43 138 #[iv p1, iv p2, iv p3, iv p4, iv p5, iv xm1, iv xd1, iv v10, iv v16, iv v22, iv v31, rv b34, rv b39, .unset, .unset, .unset, .unset, .unset, .unset] [(.int v22), (.int xm1)] _
        refine XS.icmpYes X43.here hx rfl (pc0 := 138) (pc' := 152) rfl (hb hby at_138) rfl (feq hc138_46).2 (by decide) (by decide) ?_
        show own_K p e below m T43 152 #[iv p1, iv p2, iv p3, iv p4, iv p5, iv xm1, iv xd1, iv v10, iv v16, iv v22, iv v31, rv b34, rv b39, .unset, .unset, .unset, .unset, .unset, .unset] [] _
        refine XS.iconst X43.here hx rfl (hb hby at_152) ?_
        exact k
      have hq := True.intro
      obtain rfl : v52 = (0 : Int32) := by simp only [hv52, if_neg hc138_46]
      exact fun t k => pre51 t k
  have f55 : Fld Z T43.heap b34 "com/example/notewright/notewright/AnnualDay" "month" "I" (.int xm1) := ((Fm_37.ext E39).keep Kc43 (ninS ne39_b34 nin0))
  have f56 : Fld Z T43.heap b34 "com/example/notewright/notewright/AnnualDay" "day" "I" (.int xd1) := ((Fd_37.ext E39).keep Kc43 (ninS ne39_b34 nin0))
  have f57 : Exa Z T43.heap b39 "com/example/notewright/notewright/AnnualDay" := (A39.keep Kc43)
  have f58 : Exa Z T43.heap b34 "com/example/notewright/notewright/AnnualDay" := ((f40.ext E39).keep Kc43)
  obtain ⟨cq54, kq54, q54a, q54b, q54c⟩ := isOf hZ rfl f58
  obtain ⟨_, _, ⟨T54, L54, k54, n54⟩, -, X54, ⟨Lc54, hQ54, l54, y54, z54⟩, st54⟩ := X43.virtualBack hx (y := (⟨"com/example/notewright/notewright/AnnualDay", "equals", "(Ljava/lang/Object;)Z"⟩ : MethodName)) (z := (⟨"com/example/notewright/notewright/AnnualDay", "equals", "(Ljava/lang/Object;)Z"⟩ : MethodName)) hown (mvT hZ (hw _ (List.mem_of_getElem? (i := 42) rfl))) (mvT hZ (hw _ (List.mem_of_getElem? (i := 43) rfl))) (notFace_of_selects (args := #[]) (mvT hZ (hw _ (List.mem_of_getElem? (i := 45) rfl)))) (mvT hZ (hw _ (List.mem_of_getElem? (i := 45) rfl))) (mvT hZ (hw _ (List.mem_of_getElem? (i := 44) rfl))) (by decide) (backOf (W := 0) (rm8 l Z a0 hw [] b34 b39 xm1 xd1 v22 v31 T43.heap n0 sz43 f55 f56 f57 Fm_43 Fd_43) hZ (hw _ (List.mem_of_getElem? (i := 46) rfl)) (hw _ (List.mem_of_getElem? (i := 7) rfl)) (by decide) (by decide)) q54a q54c (g := (mkF m 159 #[iv p1, iv p2, iv p3, iv p4, iv p5, iv xm1, iv xd1, iv v10, iv v16, iv v22, iv v31, rv b34, rv b39, iv v52, .unset, .unset, .unset, .unset, .unset] [(.ref b39), (.ref b34)])) rfl (by rw [hml]; rfl) (Steps.refl _) (argsL := [(.ref b39)]) (rest := []) (lenOf pd_6 rfl) rfl (by show 2 * 0 + _ ≤ _; exact Nat.le_of_eq rfl) (hb hby at_159) (fun _ _ => ⟨rfl, rfl, (by decide : 2 + 0 ≤ _), (by decide : 4 + 0 ≤ _)⟩)
  dsimp only [Pt.U, Pt.locs, Pt.cells, Pt.slots] at X54 l54 y54 z54 st54 hQ54
  subst l54 y54 z54
  obtain ⟨rfl, Nq54, eh54⟩ := hQ54
  have N54 := Fr.app N43 Nq54
  have pre59 : ∀ t, own_K p e below m T54 162 #[iv p1, iv p2, iv p3, iv p4, iv p5, iv xm1, iv xd1, iv v10, iv v16, iv v22, iv v31, rv b34, rv b39, iv v52, .unset, .unset, .unset, .unset, .unset] [(.int (if xm1 = v22 then (if xd1 = v31 then (1 : Int32) else (0 : Int32)) else (0 : Int32)))] t → G t := by
    intro t k
    refine pre53 t ?_
    show own_K p e below m T43 153 #[iv p1, iv p2, iv p3, iv p4, iv p5, iv xm1, iv xd1, iv v10, iv v16, iv v22, iv v31, rv b34, rv b39, .unset, .unset, .unset, .unset, .unset, .unset] [(.int v52)] _
    refine XS.istore X43.here hx rfl (hb hby at_153) rfl (l' := #[iv p1, iv p2, iv p3, iv p4, iv p5, iv xm1, iv xd1, iv v10, iv v16, iv v22, iv v31, rv b34, rv b39, iv v52, .unset, .unset, .unset, .unset, .unset]) rfl ?_
    show own_K p e below m T43 155 #[iv p1, iv p2, iv p3, iv p4, iv p5, iv xm1, iv xd1, iv v10, iv v16, iv v22, iv v31, rv b34, rv b39, iv v52, .unset, .unset, .unset, .unset, .unset] [] _
    refine XS.aload X43.here hx rfl (hb hby at_155) rfl rfl ?_
    show own_K p e below m T43 157 #[iv p1, iv p2, iv p3, iv p4, iv p5, iv xm1, iv xd1, iv v10, iv v16, iv v22, iv v31, rv b34, rv b39, iv v52, .unset, .unset, .unset, .unset, .unset] [(.ref b34)] _
    refine XS.aload X43.here hx rfl (hb hby at_157) rfl rfl ?_
    show own_K p e below m T43 159 #[iv p1, iv p2, iv p3, iv p4, iv p5, iv xm1, iv xd1, iv v10, iv v16, iv v22, iv v31, rv b34, rv b39, iv v52, .unset, .unset, .unset, .unset, .unset] [(.ref b39), (.ref b34)] _
    refine st54.trans ?_
    exact k
  obtain ⟨xab, hxab⟩ : ∃ z : Int32, z = (if xm1 = v22 then (if xd1 = v31 then (1 : Int32) else (0 : Int32)) else (0 : Int32)) := ⟨_, rfl⟩
  have pre60 : ∀ t, own_K p e below m T54 162 #[iv p1, iv p2, iv p3, iv p4, iv p5, iv xm1, iv xd1, iv v10, iv v16, iv v22, iv v31, rv b34, rv b39, iv v52, .unset, .unset, .unset, .unset, .unset] [(.int xab)] t → G t := fun t k => pre59 t (by rw [hxab] at k; exact k)
  obtain ⟨cq61, kq61, q61a, q61b, q61c⟩ := isOf hZ eh54 f57
  obtain ⟨_, _, ⟨T61, L61, k61, n61⟩, -, X61, ⟨Lc61, hQ61, l61, y61, z61⟩, st61⟩ := X54.virtualBack hx (y := (⟨"com/example/notewright/notewright/AnnualDay", "equals", "(Ljava/lang/Object;)Z"⟩ : MethodName)) (z := (⟨"com/example/notewright/notewright/AnnualDay", "equals", "(Ljava/lang/Object;)Z"⟩ : MethodName)) hown (mvT hZ (hw _ (List.mem_of_getElem? (i := 42) rfl))) (mvT hZ (hw _ (List.mem_of_getElem? (i := 43) rfl))) (notFace_of_selects (args := #[]) (mvT hZ (hw _ (List.mem_of_getElem? (i := 45) rfl)))) (mvT hZ (hw _ (List.mem_of_getElem? (i := 45) rfl))) (mvT hZ (hw _ (List.mem_of_getElem? (i := 44) rfl))) (by decide) (backOf (W := 0) (rm8 l Z a0 hw [] b39 b34 v22 v31 xm1 xd1 T43.heap n0 sz43 Fm_43 Fd_43 f58 f55 f56) hZ (hw _ (List.mem_of_getElem? (i := 46) rfl)) (hw _ (List.mem_of_getElem? (i := 7) rfl)) (by decide) (by decide)) q61a q61c (g := (mkF m 168 #[iv p1, iv p2, iv p3, iv p4, iv p5, iv xm1, iv xd1, iv v10, iv v16, iv v22, iv v31, rv b34, rv b39, iv v52, iv xab, .unset, .unset, .unset, .unset] [(.ref b34), (.ref b39)])) rfl (by rw [hml]; rfl) (Steps.refl _) (argsL := [(.ref b34)]) (rest := []) (lenOf pd_6 rfl) rfl (by show 2 * 0 + _ ≤ _; exact Nat.le_of_eq rfl) (hb hby at_168) (fun _ _ => ⟨rfl, eh54, (by decide : 2 + 0 ≤ _), (by decide : 4 + 0 ≤ _)⟩)
  dsimp only [Pt.U, Pt.locs, Pt.cells, Pt.slots] at X61 l61 y61 z61 st61 hQ61
  subst l61 y61 z61
  obtain ⟨rfl, Nq61, eh61⟩ := hQ61
  have N61 := Fr.app N54 Nq61
  have pre62 : ∀ t, own_K p e below m T61 171 #[iv p1, iv p2, iv p3, iv p4, iv p5, iv xm1, iv xd1, iv v10, iv v16, iv v22, iv v31, rv b34, rv b39, iv v52, iv xab, .unset, .unset, .unset, .unset] [(.int (if v22 = xm1 then (if v31 = xd1 then (1 : Int32) else (0 : Int32)) else (0 : Int32)))] t → G t := by
    intro t k
    refine pre60 t ?_
    show own_K p e below m T54 162 #[iv p1, iv p2, iv p3, iv p4, iv p5, iv xm1, iv xd1, iv v10, iv v16, iv v22, iv v31, rv b34, rv b39, iv v52, .unset, .unset, .unset, .unset, .unset] [(.int xab)] _
    refine XS.istore X54.here hx rfl (hb hby at_162) rfl (l' := #[iv p1, iv p2, iv p3, iv p4, iv p5, iv xm1, iv xd1, iv v10, iv v16, iv v22, iv v31, rv b34, rv b39, iv v52, iv xab, .unset, .unset, .unset, .unset]) rfl ?_
    show own_K p e below m T54 164 #[iv p1, iv p2, iv p3, iv p4, iv p5, iv xm1, iv xd1, iv v10, iv v16, iv v22, iv v31, rv b34, rv b39, iv v52, iv xab, .unset, .unset, .unset, .unset] [] _
    refine XS.aload X54.here hx rfl (hb hby at_164) rfl rfl ?_
    show own_K p e below m T54 166 #[iv p1, iv p2, iv p3, iv p4, iv p5, iv xm1, iv xd1, iv v10, iv v16, iv v22, iv v31, rv b34, rv b39, iv v52, iv xab, .unset, .unset, .unset, .unset] [(.ref b39)] _
    refine XS.aload X54.here hx rfl (hb hby at_166) rfl rfl ?_
    show own_K p e below m T54 168 #[iv p1, iv p2, iv p3, iv p4, iv p5, iv xm1, iv xd1, iv v10, iv v16, iv v22, iv v31, rv b34, rv b39, iv v52, iv xab, .unset, .unset, .unset, .unset] [(.ref b34), (.ref b39)] _
    refine st61.trans ?_
    exact k
  obtain ⟨xba, hxba⟩ : ∃ z : Int32, z = (if v22 = xm1 then (if v31 = xd1 then (1 : Int32) else (0 : Int32)) else (0 : Int32)) := ⟨_, rfl⟩
  have pre63 : ∀ t, own_K p e below m T61 171 #[iv p1, iv p2, iv p3, iv p4, iv p5, iv xm1, iv xd1, iv v10, iv v16, iv v22, iv v31, rv b34, rv b39, iv v52, iv xab, .unset, .unset, .unset, .unset] [(.int xba)] t → G t := fun t k => pre62 t (by rw [hxba] at k; exact k)
  obtain ⟨cq64, kq64, q64a, q64b, q64c⟩ := isOf hZ eh61 f58
  obtain ⟨_, _, ⟨T64, L64, k64, n64⟩, -, X64, ⟨Lc64, hQ64, l64, y64, z64⟩, st64⟩ := X61.virtualBack hx (y := (⟨"com/example/notewright/notewright/AnnualDay", "equals", "(Ljava/lang/Object;)Z"⟩ : MethodName)) (z := (⟨"com/example/notewright/notewright/AnnualDay", "equals", "(Ljava/lang/Object;)Z"⟩ : MethodName)) hown (mvT hZ (hw _ (List.mem_of_getElem? (i := 42) rfl))) (mvT hZ (hw _ (List.mem_of_getElem? (i := 43) rfl))) (notFace_of_selects (args := #[]) (mvT hZ (hw _ (List.mem_of_getElem? (i := 45) rfl)))) (mvT hZ (hw _ (List.mem_of_getElem? (i := 45) rfl))) (mvT hZ (hw _ (List.mem_of_getElem? (i := 44) rfl))) (by decide) (backOf (W := 0) (rm8 l Z a0 hw [] b34 b34 xm1 xd1 xm1 xd1 T43.heap n0 sz43 f55 f56 f58 f55 f56) hZ (hw _ (List.mem_of_getElem? (i := 46) rfl)) (hw _ (List.mem_of_getElem? (i := 7) rfl)) (by decide) (by decide)) q64a q64c (g := (mkF m 177 #[iv p1, iv p2, iv p3, iv p4, iv p5, iv xm1, iv xd1, iv v10, iv v16, iv v22, iv v31, rv b34, rv b39, iv v52, iv xab, iv xba, .unset, .unset, .unset] [(.ref b34), (.ref b34)])) rfl (by rw [hml]; rfl) (Steps.refl _) (argsL := [(.ref b34)]) (rest := []) (lenOf pd_6 rfl) rfl (by show 2 * 0 + _ ≤ _; exact Nat.le_of_eq rfl) (hb hby at_177) (fun _ _ => ⟨rfl, eh61, (by decide : 2 + 0 ≤ _), (by decide : 4 + 0 ≤ _)⟩)
  dsimp only [Pt.U, Pt.locs, Pt.cells, Pt.slots] at X64 l64 y64 z64 st64 hQ64
  subst l64 y64 z64
  obtain ⟨rfl, Nq64, eh64⟩ := hQ64
  have N64 := Fr.app N61 Nq64
  have pre65 : ∀ t, own_K p e below m T64 180 #[iv p1, iv p2, iv p3, iv p4, iv p5, iv xm1, iv xd1, iv v10, iv v16, iv v22, iv v31, rv b34, rv b39, iv v52, iv xab, iv xba, .unset, .unset, .unset] [(.int (if xm1 = xm1 then (if xd1 = xd1 then (1 : Int32) else (0 : Int32)) else (0 : Int32)))] t → G t := by
    intro t k
    refine pre63 t ?_
    show own_K p e below m T61 171 #[iv p1, iv p2, iv p3, iv p4, iv p5, iv xm1, iv xd1, iv v10, iv v16, iv v22, iv v31, rv b34, rv b39, iv v52, iv xab, .unset, .unset, .unset, .unset] [(.int xba)] _
    refine XS.istore X61.here hx rfl (hb hby at_171) rfl (l' := #[iv p1, iv p2, iv p3, iv p4, iv p5, iv xm1, iv xd1, iv v10, iv v16, iv v22, iv v31, rv b34, rv b39, iv v52, iv xab, iv xba, .unset, .unset, .unset]) rfl ?_
    show own_K p e below m T61 173 #[iv p1, iv p2, iv p3, iv p4, iv p5, iv xm1, iv xd1, iv v10, iv v16, iv v22, iv v31, rv b34, rv b39, iv v52, iv xab, iv xba, .unset, .unset, .unset] [] _
    refine XS.aload X61.here hx rfl (hb hby at_173) rfl rfl ?_
    show own_K p e below m T61 175 #[iv p1, iv p2, iv p3, iv p4, iv p5, iv xm1, iv xd1, iv v10, iv v16, iv v22, iv v31, rv b34, rv b39, iv v52, iv xab, iv xba, .unset, .unset, .unset] [(.ref b34)] _
    refine XS.aload X61.here hx rfl (hb hby at_175) rfl rfl ?_
    show own_K p e below m T61 177 #[iv p1, iv p2, iv p3, iv p4, iv p5, iv xm1, iv xd1, iv v10, iv v16, iv v22, iv v31, rv b34, rv b39, iv v52, iv xab, iv xba, .unset, .unset, .unset] [(.ref b34), (.ref b34)] _
    refine st64.trans ?_
    exact k
  obtain ⟨xse, hxse⟩ : ∃ z : Int32, z = (if xm1 = xm1 then (if xd1 = xd1 then (1 : Int32) else (0 : Int32)) else (0 : Int32)) := ⟨_, rfl⟩
  have pre66 : ∀ t, own_K p e below m T64 180 #[iv p1, iv p2, iv p3, iv p4, iv p5, iv xm1, iv xd1, iv v10, iv v16, iv v22, iv v31, rv b34, rv b39, iv v52, iv xab, iv xba, .unset, .unset, .unset] [(.int xse)] t → G t := fun t k => pre65 t (by rw [hxse] at k; exact k)
  obtain ⟨cq67, kq67, q67a, q67b, q67c⟩ := isOf hZ eh64 f58
  obtain ⟨_, _, ⟨T67, L67, k67, n67⟩, -, X67, ⟨Lc67, hQ67, l67, y67, z67⟩, st67⟩ := X64.virtualBack hx (y := (⟨"com/example/notewright/notewright/AnnualDay", "equals", "(Ljava/lang/Object;)Z"⟩ : MethodName)) (z := (⟨"com/example/notewright/notewright/AnnualDay", "equals", "(Ljava/lang/Object;)Z"⟩ : MethodName)) hown (mvT hZ (hw _ (List.mem_of_getElem? (i := 42) rfl))) (mvT hZ (hw _ (List.mem_of_getElem? (i := 43) rfl))) (notFace_of_selects (args := #[]) (mvT hZ (hw _ (List.mem_of_getElem? (i := 45) rfl)))) (mvT hZ (hw _ (List.mem_of_getElem? (i := 45) rfl))) (mvT hZ (hw _ (List.mem_of_getElem? (i := 44) rfl))) (by decide) (backOf (W := 0) (rm8n l Z a0 hw [] b34 T43.heap n0 sz43 ) hZ (hw _ (List.mem_of_getElem? (i := 46) rfl)) (hw _ (List.mem_of_getElem? (i := 7) rfl)) (by decide) (by decide)) q67a q67c (g := (mkF m 185 #[iv p1, iv p2, iv p3, iv p4, iv p5, iv xm1, iv xd1, iv v10, iv v16, iv v22, iv v31, rv b34, rv b39, iv v52, iv xab, iv xba, iv xse, .unset, .unset] [.null, (.ref b34)])) rfl (by rw [hml]; rfl) (Steps.refl _) (argsL := [.null]) (rest := []) (lenOf pd_6 rfl) rfl (by show 2 * 0 + _ ≤ _; exact Nat.le_of_eq rfl) (hb hby at_185) (fun _ _ => ⟨rfl, eh64, (by decide : 2 + 0 ≤ _), (by decide : 4 + 0 ≤ _)⟩)
  dsimp only [Pt.U, Pt.locs, Pt.cells, Pt.slots] at X67 l67 y67 z67 st67 hQ67
  subst l67 y67 z67
  obtain ⟨rfl, Nq67, eh67⟩ := hQ67
  have N67 := Fr.app N64 Nq67
  have f69 : Old Z n0 T43.heap := (f44.keep Kc43 (allS ge_b39 all0))
  obtain ⟨_, _, ⟨T68, L68, k68, n68⟩, -, X68, ⟨Lc68, hQ68, l68, y68, z68⟩, st68⟩ := Jvm.LawKit.callS X67 hx (y := (⟨"java/lang/Integer", "valueOf", "(I)Ljava/lang/Integer;"⟩ : MethodName)) hown (mvT hZ (hw _ (List.mem_of_getElem? (i := 49) rfl))) (mvT hZ (hw _ (List.mem_of_getElem? (i := 50) rfl))) (mvT hZ (hw _ (List.mem_of_getElem? (i := 51) rfl))) (mvT hZ (hw _ (List.mem_of_getElem? (i := 52) rfl))) (by decide) (backOf (W := 1) (rm9 l Z a0 hw [] (((31 : Int32) * xm1) + xd1) cc ca kC T43.heap n0 sz43 f69 SH SC VC EC) hZ (hw _ (List.mem_of_getElem? (i := 52) rfl)) (hw _ (List.mem_of_getElem? (i := 51) rfl)) (by decide) (by decide)) (g := (mkF m 200 #[iv p1, iv p2, iv p3, iv p4, iv p5, iv xm1, iv xd1, iv v10, iv v16, iv v22, iv v31, rv b34, rv b39, iv v52, iv xab, iv xba, iv xse, iv (0 : Int32), .unset] [(.int (((31 : Int32) * xm1) + xd1)), (.ref b34)])) rfl (by rw [hml]; rfl) (argsL := [(.int (((31 : Int32) * xm1) + xd1))]) (rest := [(.ref b34)]) (lenOf pd_7 rfl) rfl (by show 2 * 0 + _ ≤ _; exact Nat.le_of_eq rfl) (hb hby at_200) (fun _ _ => ⟨rfl, eh67, (by decide : 2 + 1 ≤ _), (by decide : 4 + 1 ≤ _)⟩)
  dsimp only [Pt.U, Pt.locs, Pt.cells, Pt.slots] at X68 l68 y68 z68 st68 hQ68
  subst l68 y68 z68
  obtain ⟨ry68, rfl, Nq68, Kc68, Ey_68⟩ := hQ68
  have N68 := Fr.app N67 Nq68
  have K68 : Keep h0 T68.heap [] := K43.trans Kc68 all0
  have sz68 : n0 ≤ T68.heap.size := Nat.le_trans sz43 Kc68.1
  have f71 : Exa Z T68.heap b34 "com/example/notewright/notewright/AnnualDay" := (f58.keep Kc68)
  obtain ⟨cq70, kq70, q70a, q70b, q70c⟩ := isOf hZ rfl f71
  obtain ⟨_, _, ⟨T70, L70, k70, n70⟩, -, X70, ⟨Lc70, hQ70, l70, y70, z70⟩, st70⟩ := X68.virtualBack hx (y := (⟨"com/example/notewright/notewright/AnnualDay", "equals", "(Ljava/lang/Object;)Z"⟩ : MethodName)) (z := (⟨"com/example/notewright/notewright/AnnualDay", "equals", "(Ljava/lang/Object;)Z"⟩ : MethodName)) hown (mvT hZ (hw _ (List.mem_of_getElem? (i := 42) rfl))) (mvT hZ (hw _ (List.mem_of_getElem? (i := 43) rfl))) (notFace_of_selects (args := #[]) (mvT hZ (hw _ (List.mem_of_getElem? (i := 45) rfl)))) (mvT hZ (hw _ (List.mem_of_getElem? (i := 45) rfl))) (mvT hZ (hw _ (List.mem_of_getElem? (i := 44) rfl))) (by decide) (backOf (W := 0) (rm8i l Z a0 hw [] b34 ry68 T68.heap n0 sz68 Ey_68 hno) hZ (hw _ (List.mem_of_getElem? (i := 46) rfl)) (hw _ (List.mem_of_getElem? (i := 7) rfl)) (by decide) (by decide)) q70a q70c (g := (mkF m 203 #[iv p1, iv p2, iv p3, iv p4, iv p5, iv xm1, iv xd1, iv v10, iv v16, iv v22, iv v31, rv b34, rv b39, iv v52, iv xab, iv xba, iv xse, iv (0 : Int32), .unset] [(.ref ry68), (.ref b34)])) rfl (by rw [hml]; rfl) (Steps.refl _) (argsL := [(.ref ry68)]) (rest := []) (lenOf pd_6 rfl) rfl (by show 2 * 0 + _ ≤ _; exact Nat.le_of_eq rfl) (hb hby at_203) (fun _ _ => ⟨rfl, rfl, (by decide : 3 + 0 ≤ _), (by decide : 5 + 0 ≤ _)⟩)
  dsimp only [Pt.U, Pt.locs, Pt.cells, Pt.slots] at X70 l70 y70 z70 st70 hQ70
  subst l70 y70 z70
  obtain ⟨rfl, Nq70, eh70⟩ := hQ70
  have N70 := Fr.app N68 Nq70
  have pre72 : ∀ t, own_K p e below m T70 242 #[iv p1, iv p2, iv p3, iv p4, iv p5, iv xm1, iv xd1, iv v10, iv v16, iv v22, iv v31, rv b34, rv b39, iv v52, iv xab, iv xba, iv xse, iv (0 : Int32), iv (0 : Int32)] [(.int (1 : Int32))] t → G t := by
    intro t k
    refine pre66 t ?_
    show own_K p e below m T64 180 #[iv p1, iv p2, iv p3, iv p4, iv p5, iv xm1, iv xd1, iv v10, iv v16, iv v22, iv v31, rv b34, rv b39, iv v52, iv xab, iv xba, .unset, .unset, .unset] [(.int xse)] _
    refine XS.istore X64.here hx rfl (hb hby at_180) rfl (l' := #[iv p1, iv p2, iv p3, iv p4, iv p5, iv xm1, iv xd1, iv v10, iv v16, iv v22, iv v31, rv b34, rv b39, iv v52, iv xab, iv xba, iv xse, .unset, .unset]) rfl ?_
    show own_K p e below m T64 182 #[iv p1, iv p2, iv p3, iv p4, iv p5, iv xm1, iv xd1, iv v10, iv v16, iv v22, iv v31, rv b34, rv b39, iv v52, iv xab, iv xba, iv xse, .unset, .unset] [] _
    refine XS.aload X64.here hx rfl (hb hby at_182) rfl rfl ?_
    show own_K p e below m T64 184 #[iv p1, iv p2, iv p3, iv p4, iv p5, iv xm1, iv xd1, iv v10, iv v16, iv v22, iv v31, rv b34, rv b39, iv v52, iv xab, iv xba, iv xse, .unset, .unset] [(.ref b34)] _
    refine XS.aconstNull X64.here hx rfl (hb hby at_184) ?_
    show own_K p e below m T64 185 #[iv p1, iv p2, iv p3, iv p4, iv p5, iv xm1, iv xd1, iv v10, iv v16, iv v22, iv v31, rv b34, rv b39, iv v52, iv xab, iv xba, iv xse, .unset, .unset] [.null, (.ref b34)] _
    refine st67.trans ?_
    show own_K p e below m T67 188 #[iv p1, iv p2, iv p3, iv p4, iv p5, iv xm1, iv xd1, iv v10, iv v16, iv v22, iv v31, rv b34, rv b39, iv v52, iv xab, iv xba, iv xse, .unset, .unset] [(.int (0 : Int32))] _
    refine XS.istore X67.here hx rfl (hb hby at_188) rfl (l' := #[iv p1, iv p2, iv p3, iv p4, iv p5, iv xm1, iv xd1, iv v10, iv v16, iv v22, iv v31, rv b34, rv b39, iv v52, iv xab, iv xba, iv xse, iv (0 : Int32), .unset]) rfl ?_
    show own_K p e below m T67 190 #[iv p1, iv p2, iv p3, iv p4, iv p5, iv xm1, iv xd1, iv v10, iv v16, iv v22, iv v31, rv b34, rv b39, iv v52, iv xab, iv xba, iv xse, iv (0 : Int32), .unset] [] _
    refine XS.aload X67.here hx rfl (hb hby at_190) rfl rfl ?_
    show own_K p e below m T67 192 #[iv p1, iv p2, iv p3, iv p4, iv p5, iv xm1, iv xd1, iv v10, iv v16, iv v22, iv v31, rv b34, rv b39, iv v52, iv xab, iv xba, iv xse, iv (0 : Int32), .unset] [(.ref b34)] _
    refine XS.bipush X67.here hx rfl (hb hby at_192) ?_
    show own_K p e below m T67 194 #[iv p1, iv p2, iv p3, iv p4, iv p5, iv xm1, iv xd1, iv v10, iv v16, iv v22, iv v31, rv b34, rv b39, iv v52, iv xab, iv xba, iv xse, iv (0 : Int32), .unset] [(.int (31 : Int32)), (.ref b34)] _
    refine XS.iload X67.here hx rfl (hb hby at_194) rfl ?_
    show own_K p e below m T67 196 #[iv p1, iv p2, iv p3, iv p4, iv p5, iv xm1, iv xd1, iv v10, iv v16, iv v22, iv v31, rv b34, rv b39, iv v52, iv xab, iv xba, iv xse, iv (0 : Int32), .unset] [(.int xm1), (.int (31 : Int32)), (.ref b34)] _
    refine XS.imul X67.here hx rfl (hb hby at_196) rfl ?_
    show own_K p e below m T67 197 #[iv p1, iv p2, iv p3, iv p4, iv p5, iv xm1, iv xd1, iv v10, iv v16, iv v22, iv v31, rv b34, rv b39, iv v52, iv xab, iv xba, iv xse, iv (0 : Int32), .unset] [(.int ((31 : Int32) * xm1)), (.ref b34)] _
    refine XS.iload X67.here hx rfl (hb hby at_197) rfl ?_
    show own_K p e below m T67 199 #[iv p1, iv p2, iv p3, iv p4, iv p5, iv xm1, iv xd1, iv v10, iv v16, iv v22, iv v31, rv b34, rv b39, iv v52, iv xab, iv xba, iv xse, iv (0 : Int32), .unset] [(.int xd1), (.int ((31 : Int32) * xm1)), (.ref b34)] _
    refine XS.iadd X67.here hx rfl (hb hby at_199) rfl ?_
    show own_K p e below m T67 200 #[iv p1, iv p2, iv p3, iv p4, iv p5, iv xm1, iv xd1, iv v10, iv v16, iv v22, iv v31, rv b34, rv b39, iv v52, iv xab, iv xba, iv xse, iv (0 : Int32), .unset] [(.int (((31 : Int32) * xm1) + xd1)), (.ref b34)] _
    refine st68 _ ?_
    show own_K p e below m T68 203 #[iv p1, iv p2, iv p3, iv p4, iv p5, iv xm1, iv xd1, iv v10, iv v16, iv v22, iv v31, rv b34, rv b39, iv v52, iv xab, iv xba, iv xse, iv (0 : Int32), .unset] [(.ref ry68), (.ref b34)] _
    refine st70.trans ?_
    show own_K p e below m T70 206 #[iv p1, iv p2, iv p3, iv p4, iv p5, iv xm1, iv xd1, iv v10, iv v16, iv v22, iv v31, rv b34, rv b39, iv v52, iv xab, iv xba, iv xse, iv (0 : Int32), .unset] [(.int (0 : Int32))] _
    refine XS.istore X70.here hx rfl (hb hby at_206) rfl (l' := #[iv p1, iv p2, iv p3, iv p4, iv p5, iv xm1, iv xd1, iv v10, iv v16, iv v22, iv v31, rv b34, rv b39, iv v52, iv xab, iv xba, iv xse, iv (0 : Int32), iv (0 : Int32)]) rfl ?_
    show own_K p e below m T70 208 #[iv p1, iv p2, iv p3, iv p4, iv p5, iv xm1, iv xd1, iv v10, iv v16, iv v22, iv v31, rv b34, rv b39, iv v52, iv xab, iv xba, iv xse, iv (0 : Int32), iv (0 : Int32)] [] _
    refine XS.iload X70.here hx rfl (hb hby at_208) rfl ?_
    show own_K p e below m T70 210 #[iv p1, iv p2, iv p3, iv p4, iv p5, iv xm1, iv xd1, iv v10, iv v16, iv v22, iv v31, rv b34, rv b39, iv v52, iv xab, iv xba, iv xse, iv (0 : Int32), iv (0 : Int32)] [(.int xab)] _
    refine XS.iload X70.here hx rfl (hb hby at_210) rfl ?_
    show own_K p e below m T70 212 #[iv p1, iv p2, iv p3, iv p4, iv p5, iv xm1, iv xd1, iv v10, iv v16, iv v22, iv v31, rv b34, rv b39, iv v52, iv xab, iv xba, iv xse, iv (0 : Int32), iv (0 : Int32)] [(.int v52), (.int xab)] _
    refine XS.icmpNo X70.here hx rfl (hb hby at_212) rfl (teq (hxab.trans hv52.symm)).2 ?_
    show own_K p e below m T70 215 #[iv p1, iv p2, iv p3, iv p4, iv p5, iv xm1, iv xd1, iv v10, iv v16, iv v22, iv v31, rv b34, rv b39, iv v52, iv xab, iv xba, iv xse, iv (0 : Int32), iv (0 : Int32)] [] _
    refine XS.iload X70.here hx rfl (hb hby at_215) rfl ?_
    show own_K p e below m T70 217 #[iv p1, iv p2, iv p3, iv p4, iv p5, iv xm1, iv xd1, iv v10, iv v16, iv v22, iv v31, rv b34, rv b39, iv v52, iv xab, iv xba, iv xse, iv (0 : Int32), iv (0 : Int32)] [(.int xba)] _
    refine XS.iload X70.here hx rfl (hb hby at_217) rfl ?_
    show own_K p e below m T70 219 #[iv p1, iv p2, iv p3, iv p4, iv p5, iv xm1, iv xd1, iv v10, iv v16, iv v22, iv v31, rv b34, rv b39, iv v52, iv xab, iv xba, iv xse, iv (0 : Int32), iv (0 : Int32)] [(.int v52), (.int xba)] _
    refine XS.icmpNo X70.here hx rfl (hb hby at_219) rfl (teq (hxba.trans (own_sym.trans hv52.symm))).2 ?_
    show own_K p e below m T70 222 #[iv p1, iv p2, iv p3, iv p4, iv p5, iv xm1, iv xd1, iv v10, iv v16, iv v22, iv v31, rv b34, rv b39, iv v52, iv xab, iv xba, iv xse, iv (0 : Int32), iv (0 : Int32)] [] _
    refine XS.iload X70.here hx rfl (hb hby at_222) rfl ?_
    show own_K p e below m T70 224 #[iv p1, iv p2, iv p3, iv p4, iv p5, iv xm1, iv xd1, iv v10, iv v16, iv v22, iv v31, rv b34, rv b39, iv v52, iv xab, iv xba, iv xse, iv (0 : Int32), iv (0 : Int32)] [(.int xse)] _
    refine XS.ifNo X70.here hx rfl (hb hby at_224) rfl ((if0 _ _).trans (feq (by rw [hxse, if_pos rfl, if_pos rfl]; decide)).1) ?_
    show own_K p e below m T70 227 #[iv p1, iv p2, iv p3, iv p4, iv p5, iv xm1, iv xd1, iv v10, iv v16, iv v22, iv v31, rv b34, rv b39, iv v52, iv xab, iv xba, iv xse, iv (0 : Int32), iv (0 : Int32)] [] _
    refine XS.iload X70.here hx rfl (hb hby at_227) rfl ?_
    show own_K p e below m T70 229 #[iv p1, iv p2, iv p3, iv p4, iv p5, iv xm1, iv xd1, iv v10, iv v16, iv v22, iv v31, rv b34, rv b39, iv v52, iv xab, iv xba, iv xse, iv (0 : Int32), iv (0 : Int32)] [(.int (0 : Int32))] _
    refine XS.ifNo X70.here hx rfl (hb hby at_229) rfl ((if0 _ _).trans (teq (by decide : (0 : Int32) = (0 : Int32))).2) ?_
    show own_K p e below m T70 232 #[iv p1, iv p2, iv p3, iv p4, iv p5, iv xm1, iv xd1, iv v10, iv v16, iv v22, iv v31, rv b34, rv b39, iv v52, iv xab, iv xba, iv xse, iv (0 : Int32), iv (0 : Int32)] [] _
    refine XS.iload X70.here hx rfl (hb hby at_232) rfl ?_
    show own_K p e below m T70 234 #[iv p1, iv p2, iv p3, iv p4, iv p5, iv xm1, iv xd1, iv v10, iv v16, iv v22, iv v31, rv b34, rv b39, iv v52, iv xab, iv xba, iv xse, iv (0 : Int32), iv (0 : Int32)] [(.int (0 : Int32))] _
    refine XS.ifNo X70.here hx rfl (hb hby at_234) rfl ((if0 _ _).trans (teq (by decide : (0 : Int32) = (0 : Int32))).2) ?_
    show own_K p e below m T70 237 #[iv p1, iv p2, iv p3, iv p4, iv p5, iv xm1, iv xd1, iv v10, iv v16, iv v22, iv v31, rv b34, rv b39, iv v52, iv xab, iv xba, iv xse, iv (0 : Int32), iv (0 : Int32)] [] _
    refine XS.iconst X70.here hx rfl (hb hby at_237) ?_
    show own_K p e below m T70 238 #[iv p1, iv p2, iv p3, iv p4, iv p5, iv xm1, iv xd1, iv v10, iv v16, iv v22, iv v31, rv b34, rv b39, iv v52, iv xab, iv xba, iv xse, iv (0 : Int32), iv (0 : Int32)] [(.int (1 : Int32))] _
    refine XS.goto X70.here hx rfl (pc0 := 238) (pc' := 242) rfl (hb hby at_238) (by decide) (by decide) ?_
    exact k
  obtain ⟨fs, hr, hrun, hended, hW, hsame⟩ := X70.leave (v := some (.int (1 : Int32))) (fun h => by rw [Bd.returns] at h; cases h)
  refine ⟨_, _, hG _ (pre72 _ ?_), hrun, hended, _, _, rfl, ?_, ⟨_, rfl⟩, hW, hsame.mono (by decide) (by decide)⟩
  · show own_K p e below m T70 242 #[iv p1, iv p2, iv p3, iv p4, iv p5, iv xm1, iv xd1, iv v10, iv v16, iv v22, iv v31, rv b34, rv b39, iv v52, iv xab, iv xba, iv xse, iv (0 : Int32), iv (0 : Int32)] [(.int (1 : Int32))] _
    exact retN X70 hx (t := .boolean) Bd.returns (by simp) (hb hby at_242) hr
  · show Q0 Z p1 p2 p3 p4 p5 mm ea kE cc ca kC h0 n0 _ T70.heap _
    rw [eh70]
    exact ⟨rfl, N70, K68⟩
set_option maxRecDepth 65536 in
set_option maxHeartbeats 40000000 in
theorem comes_1 {Post : Tables → Env → Array Value → State → Outcome → State → Prop} (hpost : ∀ tb e args s v u, (limb_1_1.after args s (.returned v) u = true ∧ limb_1_2.after args s (.returned v) u = true ∧ True) → FrameEnd s (.returned v) u (Jvm.fieldLocs frame_1_writes args s ++ Jvm.arrayLocs frame_1_arrays args s ++ Jvm.staticLocs frame_1_statics s) 16 128 → Post tb e args s (.returned v) u) :
    ArmFor flags0 classFile x code maxLocals ret World_1 tables_1 room_1 Calls_1 rest_1 Pre_1 Post := by
  intro l hfl _ _ p e ha hc hk s m args below hf hA hF happ hP
  obtain ⟨hcalls, hrest, hpre⟩ := hP
  obtain ⟨-, -, -, hnamed, -, -, -, hat⟩ := (Spec.applies_iff hf).mp happ
  obtain ⟨hg, hn⟩ := and_e (Cond.before_iff.mp (show (Jvm.Cond.and given_1 narrow_1).before args s = true from hpre))
  obtain ⟨ga1, gb1⟩ := and_e hg
  obtain ⟨ga2, gb2⟩ := and_e gb1
  obtain ⟨ga3, gb3⟩ := and_e gb2
  obtain ⟨ga4, gb4⟩ := and_e gb3
  obtain ⟨ga5, gb5⟩ := and_e gb4
  obtain ⟨w0, w1, w2, w3, w4, rfl⟩ : ∃ w0 w1 w2 w3 w4 : Value, args = #[w0, w1, w2, w3, w4] := by
    have hs : args.size = 5 := by simpa [Cond.value, given_1] using ga1
    obtain ⟨L⟩ := args
    match L, hs with
    | [w0, w1, w2, w3, w4], _ => exact ⟨w0, w1, w2, w3, w4, rfl⟩
  have hw := fun d (hd : d ∈ tables_1) => atoms_spec (ws := Jvm.Cond.code x code maxLocals ret :: tables_1) hat d (List.mem_cons_of_mem _ hd)
  have hfit : Fit s := fun {y c} hc i hi => by
    obtain ⟨ha, rfl⟩ := Array.getElem?_eq_some_iff.mp hc
    have q := List.all_eq_true.mp ((Array.all_eq_true_iff_forall_mem.mp hF) _ (Array.getElem_mem ha)) i (List.mem_range.mpr hi)
    simpa [Array.getElem?_eq_getElem hi] using q
  obtain ⟨hsets, hown0⟩ := atoms_of _ (rest_1_c_eq ▸ (show rest_1_c.before _ s = true from hrest))
  have hr0 := Cond.before_iff.mp hown0
  obtain ⟨i0, ei0⟩ := is_v ga2
  obtain rfl : w0 = (.int i0) := Option.some.inj ei0
  obtain ⟨i1, ei1⟩ := is_v ga3
  obtain rfl : w1 = (.int i1) := Option.some.inj ei1
  obtain ⟨i2, ei2⟩ := is_v ga4
  obtain rfl : w2 = (.int i2) := Option.some.inj ei2
  obtain ⟨i3, ei3⟩ := is_v ga5
  obtain rfl : w3 = (.int i3) := Option.some.inj ei3
  obtain ⟨i4, ei4⟩ := is_v gb5
  obtain rfl : w4 = (.int i4) := Option.some.inj ei4
  have bs : ∀ {d : Jvm.Cond}, d.before #[(.int i0), (.int i1), (.int i2), (.int i3), (.int i4)] s = true → d.value #[(.int i0), (.int i1), (.int i2), (.int i3), (.int i4)] s none s [] = some true := fun h => Cond.before_iff.mp h
  have qa := bs (hsets _ (List.mem_of_getElem? (i := 26) rfl))
  obtain ⟨ea, kea⟩ := arr_v qa
  obtain ⟨cle, Ae⟩ := Arr.start kea qa
  have SE := Sta.start kea (Or.inl (hsets _ (List.mem_of_getElem? (i := 1) rfl)))
  have ql := own_size (N := 12) kea Ae (bs (hsets _ (List.mem_of_getElem? (i := 28) rfl))) (by decide)
  obtain ⟨m0, sm0, xm0, fm0⟩ := own_elem kea Ae (bs (hsets _ (List.mem_of_getElem? (i := 30) rfl))) (bs (hsets _ (List.mem_of_getElem? (i := 32) rfl)))
  obtain ⟨m1, sm1, xm1, fm1⟩ := own_elem kea Ae (bs (hsets _ (List.mem_of_getElem? (i := 34) rfl))) (bs (hsets _ (List.mem_of_getElem? (i := 36) rfl)))
  obtain ⟨m2, sm2, xm2, fm2⟩ := own_elem kea Ae (bs (hsets _ (List.mem_of_getElem? (i := 38) rfl))) (bs (hsets _ (List.mem_of_getElem? (i := 40) rfl)))
  obtain ⟨m3, sm3, xm3, fm3⟩ := own_elem kea Ae (bs (hsets _ (List.mem_of_getElem? (i := 42) rfl))) (bs (hsets _ (List.mem_of_getElem? (i := 44) rfl)))
  obtain ⟨m4, sm4, xm4, fm4⟩ := own_elem kea Ae (bs (hsets _ (List.mem_of_getElem? (i := 46) rfl))) (bs (hsets _ (List.mem_of_getElem? (i := 48) rfl)))
  obtain ⟨m5, sm5, xm5, fm5⟩ := own_elem kea Ae (bs (hsets _ (List.mem_of_getElem? (i := 50) rfl))) (bs (hsets _ (List.mem_of_getElem? (i := 52) rfl)))
  obtain ⟨m6, sm6, xm6, fm6⟩ := own_elem kea Ae (bs (hsets _ (List.mem_of_getElem? (i := 54) rfl))) (bs (hsets _ (List.mem_of_getElem? (i := 56) rfl)))
  obtain ⟨m7, sm7, xm7, fm7⟩ := own_elem kea Ae (bs (hsets _ (List.mem_of_getElem? (i := 58) rfl))) (bs (hsets _ (List.mem_of_getElem? (i := 60) rfl)))
  obtain ⟨m8, sm8, xm8, fm8⟩ := own_elem kea Ae (bs (hsets _ (List.mem_of_getElem? (i := 62) rfl))) (bs (hsets _ (List.mem_of_getElem? (i := 64) rfl)))
  obtain ⟨m9, sm9, xm9, fm9⟩ := own_elem kea Ae (bs (hsets _ (List.mem_of_getElem? (i := 66) rfl))) (bs (hsets _ (List.mem_of_getElem? (i := 68) rfl)))
  obtain ⟨m10, sm10, xm10, fm10⟩ := own_elem kea Ae (bs (hsets _ (List.mem_of_getElem? (i := 70) rfl))) (bs (hsets _ (List.mem_of_getElem? (i := 72) rfl)))
  obtain ⟨m11, sm11, xm11, fm11⟩ := own_elem kea Ae (bs (hsets _ (List.mem_of_getElem? (i := 74) rfl))) (bs (hsets _ (List.mem_of_getElem? (i := 76) rfl)))
  have hM : ∀ i : Nat, ∃ b : Addr, i < 12 → (cle.slots[i]? = some (.ref b) ∧ Exa s s.heap b "java/time/Month" ∧ Fld s s.heap b "java/lang/Enum" "ordinal" "I" (.int (Int32.ofNat i))) := fun i => match i with
    | 0 => ⟨m0, fun _ => ⟨sm0, xm0, fm0⟩⟩
    | 1 => ⟨m1, fun _ => ⟨sm1, xm1, fm1⟩⟩
    | 2 => ⟨m2, fun _ => ⟨sm2, xm2, fm2⟩⟩
    | 3 => ⟨m3, fun _ => ⟨sm3, xm3, fm3⟩⟩
    | 4 => ⟨m4, fun _ => ⟨sm4, xm4, fm4⟩⟩
    | 5 => ⟨m5, fun _ => ⟨sm5, xm5, fm5⟩⟩
    | 6 => ⟨m6, fun _ => ⟨sm6, xm6, fm6⟩⟩
    | 7 => ⟨m7, fun _ => ⟨sm7, xm7, fm7⟩⟩
    | 8 => ⟨m8, fun _ => ⟨sm8, xm8, fm8⟩⟩
    | 9 => ⟨m9, fun _ => ⟨sm9, xm9, fm9⟩⟩
    | 10 => ⟨m10, fun _ => ⟨sm10, xm10, fm10⟩⟩
    | 11 => ⟨m11, fun _ => ⟨sm11, xm11, fm11⟩⟩
    | n + 12 => ⟨0, fun q => absurd q (by omega)⟩
  obtain ⟨mm, hmm⟩ := Classical.axiomOfChoice hM
  have EM := fun i hi => (hmm i hi).2.1
  have FM := fun i hi => (hmm i hi).2.2
  have VE : Arv s s.heap ea cle.cls (.object "java/time/Month") (12 : Int32) (own_refs 12 mm) .null := own_start Ae ql (by decide) (by decide) (fun _ => rfl) (fun i hi => (hmm i hi).1)
  have kh := eqv_i (Term.int_eval (127 : Int32)) (bs (hsets _ (List.mem_of_getElem? (i := 80) rfl)))
  have SH := Sta.start kh (Or.inl (hsets _ (List.mem_of_getElem? (i := 78) rfl)))
  have qc := bs (hsets _ (List.mem_of_getElem? (i := 81) rfl))
  obtain ⟨ca, kca⟩ := arr_v qc
  obtain ⟨clc, Ac⟩ := Arr.start kca qc
  have SC := Sta.start kca (Or.inr ⟨(hw _ (List.mem_of_getElem? (i := 54) rfl)), (hsets _ (List.mem_of_getElem? (i := 79) rfl))⟩)
  have qz := own_size (N := 256) kca Ac (bs (hsets _ (List.mem_of_getElem? (i := 83) rfl))) (by decide)
  obtain ⟨cc, sc, EC⟩ := own_all (fun _ => kca) Ac qz (bs (hsets _ (List.mem_of_getElem? (i := 84) rfl)))
  have VC : Arv s s.heap ca clc.cls (.object "java/lang/Integer") (256 : Int32) (own_refs 256 cc) .null := own_start Ac qz (by decide) (by decide) (fun _ => rfl) sc
  have hno := own_no (Z := s) (K := "com/example/notewright/notewright/AnnualDay") (hw _ (List.mem_of_getElem? (i := 56) rfl)) (hw _ (List.mem_of_getElem? (i := 57) rfl)) (hw _ (List.mem_of_getElem? (i := 58) rfl)) (hw _ (List.mem_of_getElem? (i := 6) rfl)) (by decide) (by decide) (by decide)
  obtain ⟨n, o, h1, h2, h3, _, L, rfl, ⟨rfl, N, _⟩, hq⟩ := rm0 l s _ hw tables_1 i0 i1 i2 i3 i4 mm ea cle.cls cc ca clc.cls s.heap s.heap.size (Nat.le_refl _) (Old.start s) SE VE EM FM SH SC VC EC hno p e ha hc hk s m _ below hf ((Spec.applies_iff_loose hf).mp happ).1 ⟨rfl, State.Warmed39.refl s, rfl⟩ trivial
  refine ⟨n, _, h1, h2, h3, hpost _ _ _ _ _ _ ⟨Cond.after_iff.mpr rfl, Cond.after_iff.mpr (eq_i res_at (Term.int_eval (1)) rfl), trivial⟩ ⟨hq.1, hq.2.1, (hq.2.2.sift fun y hy => Or.inr (N y hy)).mono (by decide) (by decide)⟩⟩
theorem main_1_1 : Claimed_1_1 := comes_1 fun _ _ _ _ _ _ h hF => ⟨h.1, hF⟩
theorem main_1_2 : Claimed_1_2 := comes_1 fun _ _ _ _ _ _ h hF => ⟨h.2.1, hF⟩
end Jvm.Pilot.@@N@@
namespace Jvm.Pilot.@@N@@
open Jvm Jvm.ClassFile Sem Op Lib Jvm.Free Jvm.Stand Jvm.Pilot.@@N@@.Jvm.D
/-! MADE BY PROGRAM (witnessworld.py) out of the Statement's table words and the real class files: 24 classes; the members and pool entries that the words name. The judged class is class 1, her method 2. -/
namespace start1
open Jvm.ClassFile
def u (s : String) : CpInfo := .utf8 (stringToUtf16 s)
/-- a pool by its gaps: so many unusable entries, then the entry; so many at the end -/
def gap : Nat → List CpInfo → List CpInfo
  | 0, r => r
  | n + 1, r => .unusable :: gap n r
def poolList (es : List (Nat × CpInfo)) (last : Nat) : List CpInfo := es.foldr (fun e r => gap e.1 (e.2 :: r)) (gap last [])
def pool (es : List (Nat × CpInfo)) (last : Nat) : Array CpInfo := ⟨poolList es last⟩
def fileOf (pool : Array CpInfo) (this : Nat) (attrs : Array Attribute := #[]) (ms : Array MethodInfo := #[]) (fl : Nat := 33) (sup : Nat := 0) (ifs : Array Nat := #[]) (fds : Array FieldInfo := #[]) : ClassFile where
  minorVersion := 0
  majorVersion := 65
  constantPool := pool
  accessFlags := fl
  thisClass := this
  superClass := sup
  interfaces := ifs
  fields := fds
  methods := ms
  attributes := attrs
def plain (name : String) (sup : Option ClassId) : Class where
  name := name
  kind := .ordinary
  loader := none
  accessFlags := 33
  super := sup
  interfaces := #[]
  cf := none
  fields := #[]
  methods := #[]
  instanceTypes := #[]
  staticTypes := #[]
  resolved := #[]
  callSites := []
  init := .initialized
  statics := none
  mirror := none

def pool0 : Array CpInfo := pool [(5, u "<init>"), (0, u "()V"), (1, .class_ 10), (1, u "java/lang/Object")] 113

def k0c0 : Code := { maxStack := 0, maxLocals := 1, code := object_method_1_code, exceptionTable := #[], attributes := #[] }
def k0m0 : Method := { name := "<init>", desc := "()V", sig := { parameters := [], returnType := none }, accessFlags := 1, code := some k0c0 }
/-- java/lang/Object -/
def k0 : Class := { plain "java/lang/Object" none with
  accessFlags := 33
  interfaces := #[]
  cf := some (fileOf pool0 8 #[] #[{ accessFlags := 1, nameIndex := 5, descriptorIndex := 6, attributes := #[] }] 33 0 #[] #[])
  fields := #[]
  methods := #[k0m0]
  instanceTypes := #[]
  staticTypes := #[]
  resolved := Array.replicate 124 none
  statics := none }

def pool1 : Array CpInfo := pool [(2, .class_ 4), (1, u "java/lang/Object"), (0, u "<init>"), (0, u "()V"), (0, .integer 2147483647), (0, .methodref 9 10), (0, .class_ 11), (0, .nameAndType 12 13), (0, u "com/example/notewright/notewright/AnnualDayEqualsPinLaw"), (0, u "maxLen"), (0, u "(I)I"), (0, .class_ 15), (0, u "com/example/notewright/notewright/AnnualDay"), (0, .methodref 14 17), (0, .nameAndType 5 18), (0, u "(II)V"), (0, .methodref 14 20), (0, .nameAndType 21 22), (0, u "equals"), (0, u "(Ljava/lang/Object;)Z"), (0, .methodref 24 25), (0, .class_ 26), (0, .nameAndType 27 28), (0, u "java/lang/Integer"), (0, u "valueOf"), (0, u "(I)Ljava/lang/Integer;"), (3, u "law"), (0, u "(IIIII)Z")] 2

def k1m0 : Method := { name := "<init>", desc := "()V", sig := { parameters := [], returnType := none }, accessFlags := 1, code := none }
def k1c1 : Code := { maxStack := 2, maxLocals := 1, code := method_2_code, exceptionTable := #[], attributes := #[] }
def k1m1 : Method := { name := "maxLen", desc := "(I)I", sig := { parameters := [.int], returnType := some .int }, accessFlags := 10, code := some k1c1 }
def k1c2 : Code := { maxStack := 4, maxLocals := 19, code := code, exceptionTable := #[], attributes := #[] }
def k1m2 : Method := { name := "law", desc := "(IIIII)Z", sig := { parameters := [.int, .int, .int, .int, .int], returnType := some .boolean }, accessFlags := 9, code := some k1c2 }
/-- com/example/notewright/notewright/AnnualDayEqualsPinLaw -/
def k1 : Class := { plain "com/example/notewright/notewright/AnnualDayEqualsPinLaw" (some 0) with
  accessFlags := 49
  interfaces := #[]
  cf := some (fileOf pool1 9 #[] #[{ accessFlags := 1, nameIndex := 5, descriptorIndex := 6, attributes := #[] }, { accessFlags := 10, nameIndex := 12, descriptorIndex := 13, attributes := #[] }, { accessFlags := 9, nameIndex := 32, descriptorIndex := 33, attributes := #[] }] 49 2 #[] #[])
  fields := #[]
  methods := #[k1m0, k1m1, k1m2]
  instanceTypes := #[]
  staticTypes := #[]
  resolved := Array.replicate 36 none
  statics := none }

def pool2 : Array CpInfo := pool [(1, .methodref 2 3), (0, .class_ 4), (0, .nameAndType 5 6), (0, u "java/lang/Object"), (0, u "<init>"), (0, u "()V"), (0, .class_ 8), (0, u "java/lang/Record")] 13

def k2c0 : Code := { maxStack := 1, maxLocals := 1, code := jdk_30_method_1_code, exceptionTable := #[], attributes := #[] }
def k2m0 : Method := { name := "<init>", desc := "()V", sig := { parameters := [], returnType := none }, accessFlags := 4, code := some k2c0 }
/-- java/lang/Record -/
def k2 : Class := { plain "java/lang/Record" (some 0) with
  accessFlags := 1057
  interfaces := #[]
  cf := some (fileOf pool2 7 #[] #[{ accessFlags := 4, nameIndex := 5, descriptorIndex := 6, attributes := #[] }] 1057 2 #[] #[])
  fields := #[]
  methods := #[k2m0]
  instanceTypes := #[]
  staticTypes := #[]
  resolved := Array.replicate 22 none
  statics := none }

def pool3 : Array CpInfo := pool [(1, .methodref 2 3), (0, .class_ 4), (0, .nameAndType 5 6), (0, u "java/lang/Record"), (0, u "<init>"), (0, u "()V"), (0, .methodref 8 9), (0, .class_ 10), (0, .nameAndType 11 12), (0, u "java/time/Month"), (0, u "of"), (0, u "(I)Ljava/time/Month;"), (0, .methodref 8 14), (0, .nameAndType 15 16), (0, u "maxLength"), (0, u "()I"), (9, .fieldref 27 28), (0, .class_ 29), (0, .nameAndType 30 31), (0, u "com/example/notewright/notewright/AnnualDay"), (0, u "month"), (0, u "I"), (0, .fieldref 27 33), (0, .nameAndType 34 31), (0, u "day"), (36, u "(II)V"), (6, u "equals"), (0, u "(Ljava/lang/Object;)Z")] 25

def k3c0 : Code := { maxStack := 4, maxLocals := 3, code := prog_7_method_1_code, exceptionTable := #[], attributes := #[] }
def k3m0 : Method := { name := "<init>", desc := "(II)V", sig := { parameters := [.int, .int], returnType := none }, accessFlags := 1, code := some k3c0 }
def k3c1 : Code := { maxStack := 2, maxLocals := 3, code := prog_7_method_3_code, exceptionTable := #[], attributes := #[] }
def k3m1 : Method := { name := "equals", desc := "(Ljava/lang/Object;)Z", sig := { parameters := [(.object "java/lang/Object")], returnType := some .boolean }, accessFlags := 1, code := some k3c1 }
/-- com/example/notewright/notewright/AnnualDay -/
def k3 : Class := { plain "com/example/notewright/notewright/AnnualDay" (some 2) with
  accessFlags := 49
  interfaces := #[]
  cf := some (fileOf pool3 27 #[] #[{ accessFlags := 1, nameIndex := 5, descriptorIndex := 71, attributes := #[] }, { accessFlags := 1, nameIndex := 78, descriptorIndex := 79, attributes := #[] }] 49 2 #[] #[{ accessFlags := 18, nameIndex := 30, descriptorIndex := 31, attributes := #[] }, { accessFlags := 18, nameIndex := 34, descriptorIndex := 31, attributes := #[] }])
  fields := #[{ name := "month", type := .int, accessFlags := 18, slot := 0, constantValue := 0 }, { name := "day", type := .int, accessFlags := 18, slot := 1, constantValue := 0 }]
  methods := #[k3m0, k3m1]
  instanceTypes := #[.int, .int]
  staticTypes := #[]
  resolved := Array.replicate 105 none
  statics := none }

def pool4 : Array CpInfo := pool [(1, .class_ 2), (0, u "java/lang/constant/Constable"), (0, .class_ 4), (0, u "java/lang/Object")] 6

/-- java/lang/constant/Constable -/
def k4 : Class := { plain "java/lang/constant/Constable" (some 0) with
  accessFlags := 1537
  interfaces := #[]
  cf := some (fileOf pool4 1 #[] #[] 1537 3 #[] #[])
  fields := #[]
  methods := #[]
  instanceTypes := #[]
  staticTypes := #[]
  resolved := Array.replicate 11 none
  statics := none }

def pool5 : Array CpInfo := pool [(1, .class_ 2), (0, u "java/lang/Comparable"), (0, .class_ 4), (0, u "java/lang/Object")] 7

/-- java/lang/Comparable -/
def k5 : Class := { plain "java/lang/Comparable" (some 0) with
  accessFlags := 1537
  interfaces := #[]
  cf := some (fileOf pool5 1 #[] #[] 1537 3 #[] #[])
  fields := #[]
  methods := #[]
  instanceTypes := #[]
  staticTypes := #[]
  resolved := Array.replicate 12 none
  statics := none }

def pool6 : Array CpInfo := pool [(1, .class_ 2), (0, u "java/io/Serializable"), (0, .class_ 4), (0, u "java/lang/Object")] 2

/-- java/io/Serializable -/
def k6 : Class := { plain "java/io/Serializable" (some 0) with
  accessFlags := 1537
  interfaces := #[]
  cf := some (fileOf pool6 1 #[] #[] 1537 3 #[] #[])
  fields := #[]
  methods := #[]
  instanceTypes := #[]
  staticTypes := #[]
  resolved := Array.replicate 7 none
  statics := none }

def pool7 : Array CpInfo := pool [(2, .class_ 4), (1, u "java/lang/Enum"), (0, u "name"), (0, u "Ljava/lang/String;"), (0, .fieldref 2 8), (0, .nameAndType 9 10), (0, u "ordinal"), (0, u "I"), (1, .class_ 14), (1, u "java/lang/Object"), (4, u "hash"), (86, .class_ 108), (1, u "java/lang/Enum$EnumDesc"), (2, .class_ 112), (0, u "java/lang/constant/Constable"), (0, .class_ 114), (0, u "java/lang/Comparable"), (0, .class_ 116), (0, u "java/io/Serializable"), (9, u "()I")] 77

def k7c0 : Code := { maxStack := 1, maxLocals := 1, code := jdk_37_method_2_code, exceptionTable := #[], attributes := #[] }
def k7m0 : Method := { name := "ordinal", desc := "()I", sig := { parameters := [], returnType := some .int }, accessFlags := 17, code := some k7c0 }
/-- java/lang/Enum -/
def k7 : Class := { plain "java/lang/Enum" (some 0) with
  accessFlags := 1057
  interfaces := #[4, 5, 6]
  cf := some (fileOf pool7 2 #[.nestMembers #[106]] #[{ accessFlags := 17, nameIndex := 9, descriptorIndex := 126, attributes := #[] }] 1057 12 #[111, 113, 115] #[{ accessFlags := 18, nameIndex := 5, descriptorIndex := 6, attributes := #[] }, { accessFlags := 18, nameIndex := 9, descriptorIndex := 10, attributes := #[] }, { accessFlags := 2, nameIndex := 19, descriptorIndex := 10, attributes := #[] }])
  fields := #[{ name := "name", type := (.object "java/lang/String"), accessFlags := 18, slot := 0, constantValue := 0 }, { name := "ordinal", type := .int, accessFlags := 18, slot := 1, constantValue := 0 }, { name := "hash", type := .int, accessFlags := 2, slot := 2, constantValue := 0 }]
  methods := #[k7m0]
  instanceTypes := #[(.object "java/lang/String"), .int, .int]
  staticTypes := #[]
  resolved := Array.replicate 204 none
  statics := none }

def pool8 : Array CpInfo := pool [(4, .class_ 6), (1, u "java/time/temporal/TemporalAccessor"), (95, .class_ 103), (0, u "java/lang/Object")] 21

/-- java/time/temporal/TemporalAccessor -/
def k8 : Class := { plain "java/time/temporal/TemporalAccessor" (some 0) with
  accessFlags := 1537
  interfaces := #[]
  cf := some (fileOf pool8 4 #[] #[] 1537 102 #[] #[])
  fields := #[]
  methods := #[]
  instanceTypes := #[]
  staticTypes := #[]
  resolved := Array.replicate 125 none
  statics := none }

def pool9 : Array CpInfo := pool [(1, .class_ 2), (0, u "java/time/temporal/TemporalAdjuster"), (0, .class_ 4), (0, u "java/lang/Object")] 6

/-- java/time/temporal/TemporalAdjuster -/
def k9 : Class := { plain "java/time/temporal/TemporalAdjuster" (some 0) with
  accessFlags := 1537
  interfaces := #[]
  cf := some (fileOf pool9 1 #[] #[] 1537 3 #[] #[])
  fields := #[]
  methods := #[]
  instanceTypes := #[]
  staticTypes := #[]
  resolved := Array.replicate 11 none
  statics := none }

def pool10 : Array CpInfo := pool [(1, .class_ 2), (0, u "java/time/Month"), (2, u "JANUARY"), (0, u "Ljava/time/Month;"), (2, u "FEBRUARY"), (2, u "MARCH"), (2, u "APRIL"), (2, u "MAY"), (2, u "JUNE"), (2, u "JULY"), (2, u "AUGUST"), (2, u "SEPTEMBER"), (2, u "OCTOBER"), (2, u "NOVEMBER"), (2, u "DECEMBER"), (2, u "$VALUES"), (0, u "[Ljava/time/Month;"), (6, .class_ 52), (1, u "java/lang/Enum"), (29, .fieldref 1 83), (0, .nameAndType 84 43), (0, u "ENUMS"), (28, .class_ 115), (1, u "java/time/temporal/TemporalAccessor"), (4, u "of"), (0, u "(I)Ljava/time/Month;"), (19, .methodref 1 142), (0, .nameAndType 143 144), (0, u "ordinal"), (0, u "()I"), (96, .class_ 242), (0, u "java/time/temporal/TemporalAdjuster"), (38, u "maxLength")] 15

def k10c0 : Code := { maxStack := 4, maxLocals := 1, code := jdk_2329_method_4_code, exceptionTable := #[], attributes := #[] }
def k10m0 : Method := { name := "of", desc := "(I)Ljava/time/Month;", sig := { parameters := [.int], returnType := some (.object "java/time/Month") }, accessFlags := 9, code := some k10c0 }
def k10c1 : Code := { maxStack := 1, maxLocals := 1, code := jdk_2329_method_16_code, exceptionTable := #[], attributes := #[] }
def k10m1 : Method := { name := "maxLength", desc := "()I", sig := { parameters := [], returnType := some .int }, accessFlags := 1, code := some k10c1 }
/-- java/time/Month -/
def k10 : Class := { plain "java/time/Month" (some 7) with
  accessFlags := 16433
  interfaces := #[8, 9]
  cf := some (fileOf pool10 1 #[] #[{ accessFlags := 9, nameIndex := 120, descriptorIndex := 121, attributes := #[] }, { accessFlags := 1, nameIndex := 281, descriptorIndex := 144, attributes := #[] }] 16433 50 #[113, 241] #[{ accessFlags := 16409, nameIndex := 5, descriptorIndex := 6, attributes := #[] }, { accessFlags := 16409, nameIndex := 9, descriptorIndex := 6, attributes := #[] }, { accessFlags := 16409, nameIndex := 12, descriptorIndex := 6, attributes := #[] }, { accessFlags := 16409, nameIndex := 15, descriptorIndex := 6, attributes := #[] }, { accessFlags := 16409, nameIndex := 18, descriptorIndex := 6, attributes := #[] }, { accessFlags := 16409, nameIndex := 21, descriptorIndex := 6, attributes := #[] }, { accessFlags := 16409, nameIndex := 24, descriptorIndex := 6, attributes := #[] }, { accessFlags := 16409, nameIndex := 27, descriptorIndex := 6, attributes := #[] }, { accessFlags := 16409, nameIndex := 30, descriptorIndex := 6, attributes := #[] }, { accessFlags := 16409, nameIndex := 33, descriptorIndex := 6, attributes := #[] }, { accessFlags := 16409, nameIndex := 36, descriptorIndex := 6, attributes := #[] }, { accessFlags := 16409, nameIndex := 39, descriptorIndex := 6, attributes := #[] }, { accessFlags := 26, nameIndex := 84, descriptorIndex := 43, attributes := #[] }, { accessFlags := 4122, nameIndex := 42, descriptorIndex := 43, attributes := #[] }])
  fields := #[{ name := "JANUARY", type := (.object "java/time/Month"), accessFlags := 16409, slot := 0, constantValue := 0 }, { name := "FEBRUARY", type := (.object "java/time/Month"), accessFlags := 16409, slot := 1, constantValue := 0 }, { name := "MARCH", type := (.object "java/time/Month"), accessFlags := 16409, slot := 2, constantValue := 0 }, { name := "APRIL", type := (.object "java/time/Month"), accessFlags := 16409, slot := 3, constantValue := 0 }, { name := "MAY", type := (.object "java/time/Month"), accessFlags := 16409, slot := 4, constantValue := 0 }, { name := "JUNE", type := (.object "java/time/Month"), accessFlags := 16409, slot := 5, constantValue := 0 }, { name := "JULY", type := (.object "java/time/Month"), accessFlags := 16409, slot := 6, constantValue := 0 }, { name := "AUGUST", type := (.object "java/time/Month"), accessFlags := 16409, slot := 7, constantValue := 0 }, { name := "SEPTEMBER", type := (.object "java/time/Month"), accessFlags := 16409, slot := 8, constantValue := 0 }, { name := "OCTOBER", type := (.object "java/time/Month"), accessFlags := 16409, slot := 9, constantValue := 0 }, { name := "NOVEMBER", type := (.object "java/time/Month"), accessFlags := 16409, slot := 10, constantValue := 0 }, { name := "DECEMBER", type := (.object "java/time/Month"), accessFlags := 16409, slot := 11, constantValue := 0 }, { name := "ENUMS", type := (.array (.object "java/time/Month")), accessFlags := 26, slot := 12, constantValue := 0 }, { name := "$VALUES", type := (.array (.object "java/time/Month")), accessFlags := 4122, slot := 13, constantValue := 0 }]
  methods := #[k10m0, k10m1]
  instanceTypes := #[(.object "java/lang/String"), .int, .int]
  staticTypes := #[(.object "java/time/Month"), (.object "java/time/Month"), (.object "java/time/Month"), (.object "java/time/Month"), (.object "java/time/Month"), (.object "java/time/Month"), (.object "java/time/Month"), (.object "java/time/Month"), (.object "java/time/Month"), (.object "java/time/Month"), (.object "java/time/Month"), (.object "java/time/Month"), (.array (.object "java/time/Month")), (.array (.object "java/time/Month"))]
  resolved := Array.replicate 297 none
  statics := some 0 }

def pool11 : Array CpInfo := pool [(1, .methodref 2 3), (0, .class_ 4), (0, .nameAndType 5 6), (0, u "java/lang/Object"), (0, u "<init>"), (0, u "()V"), (1, .class_ 10), (1, u "java/lang/Number"), (2, .class_ 14), (0, u "java/io/Serializable"), (0, u "serialVersionUID"), (0, u "J")] 20

def k11c0 : Code := { maxStack := 1, maxLocals := 1, code := jdk_18_method_1_code, exceptionTable := #[], attributes := #[] }
def k11m0 : Method := { name := "<init>", desc := "()V", sig := { parameters := [], returnType := none }, accessFlags := 1, code := some k11c0 }
/-- java/lang/Number -/
def k11 : Class := { plain "java/lang/Number" (some 0) with
  accessFlags := 1057
  interfaces := #[6]
  cf := some (fileOf pool11 8 #[] #[{ accessFlags := 1, nameIndex := 5, descriptorIndex := 6, attributes := #[] }] 1057 2 #[13] #[{ accessFlags := 26, nameIndex := 15, descriptorIndex := 16, attributes := #[] }])
  fields := #[{ name := "serialVersionUID", type := .long, accessFlags := 26, slot := 0, constantValue := 0 }]
  methods := #[k11m0]
  instanceTypes := #[]
  staticTypes := #[.long]
  resolved := Array.replicate 37 none
  statics := none }

def pool12 : Array CpInfo := pool [(1, .class_ 2), (0, u "java/lang/constant/ConstantDesc"), (0, .class_ 4), (0, u "java/lang/Object")] 32

/-- java/lang/constant/ConstantDesc -/
def k12 : Class := { plain "java/lang/constant/ConstantDesc" (some 0) with
  accessFlags := 1537
  interfaces := #[]
  cf := some (fileOf pool12 1 #[] #[] 1537 3 #[] #[])
  fields := #[]
  methods := #[]
  instanceTypes := #[]
  staticTypes := #[]
  resolved := Array.replicate 37 none
  statics := none }

def pool13 : Array CpInfo := pool [(1, .class_ 2), (0, u "java/lang/Integer"), (16, u "digits"), (0, u "[C"), (46, u "<init>"), (17, u "DigitOnes"), (0, u "[B"), (2, u "DigitTens"), (10, .nameAndType 67 101), (0, u "()V"), (85, u "valueOf"), (0, u "(I)Ljava/lang/Integer;"), (0, .class_ 190), (0, u "java/lang/Integer$IntegerCache"), (0, .fieldref 189 192), (0, .nameAndType 193 194), (0, u "high"), (0, u "I"), (0, .fieldref 189 196), (0, .nameAndType 197 198), (0, u "cache"), (0, u "[Ljava/lang/Integer;"), (0, .methodref 1 200), (0, .nameAndType 67 201), (0, u "(I)V"), (0, .methodref 203 100), (0, .class_ 204), (0, u "java/lang/Number"), (0, .fieldref 1 206), (0, .nameAndType 207 194), (0, u "value"), (94, u "TYPE"), (0, u "Ljava/lang/Class;"), (0, .class_ 305), (0, u "java/lang/Comparable"), (0, .class_ 307), (0, u "java/lang/constant/Constable"), (0, .class_ 309), (0, u "java/lang/constant/ConstantDesc"), (0, u "MIN_VALUE"), (1, u "MAX_VALUE"), (3, u "SIZE"), (1, u "BYTES"), (1, u "serialVersionUID"), (0, u "J")] 131

def k13c0 : Code := { maxStack := 3, maxLocals := 1, code := jdk_33_method_22_code, exceptionTable := #[], attributes := #[] }
def k13m0 : Method := { name := "valueOf", desc := "(I)Ljava/lang/Integer;", sig := { parameters := [.int], returnType := some (.object "java/lang/Integer") }, accessFlags := 9, code := some k13c0 }
def k13c1 : Code := { maxStack := 2, maxLocals := 2, code := jdk_33_method_23_code, exceptionTable := #[], attributes := #[] }
def k13m1 : Method := { name := "<init>", desc := "(I)V", sig := { parameters := [.int], returnType := none }, accessFlags := 1, code := some k13c1 }
/-- java/lang/Integer -/
def k13 : Class := { plain "java/lang/Integer" (some 11) with
  accessFlags := 49
  interfaces := #[5, 4, 12]
  cf := some (fileOf pool13 1 #[.nestMembers #[189]] #[{ accessFlags := 9, nameIndex := 187, descriptorIndex := 188, attributes := #[] }, { accessFlags := 1, nameIndex := 67, descriptorIndex := 201, attributes := #[] }] 49 203 #[304, 306, 308] #[{ accessFlags := 25, nameIndex := 310, descriptorIndex := 194, attributes := #[] }, { accessFlags := 25, nameIndex := 312, descriptorIndex := 194, attributes := #[] }, { accessFlags := 25, nameIndex := 302, descriptorIndex := 303, attributes := #[] }, { accessFlags := 24, nameIndex := 19, descriptorIndex := 20, attributes := #[] }, { accessFlags := 24, nameIndex := 89, descriptorIndex := 86, attributes := #[] }, { accessFlags := 24, nameIndex := 85, descriptorIndex := 86, attributes := #[] }, { accessFlags := 18, nameIndex := 207, descriptorIndex := 194, attributes := #[] }, { accessFlags := 25, nameIndex := 316, descriptorIndex := 194, attributes := #[] }, { accessFlags := 25, nameIndex := 318, descriptorIndex := 194, attributes := #[] }, { accessFlags := 26, nameIndex := 320, descriptorIndex := 321, attributes := #[] }])
  fields := #[{ name := "MIN_VALUE", type := .int, accessFlags := 25, slot := 0, constantValue := 0 }, { name := "MAX_VALUE", type := .int, accessFlags := 25, slot := 1, constantValue := 0 }, { name := "TYPE", type := (.object "java/lang/Class"), accessFlags := 25, slot := 2, constantValue := 0 }, { name := "digits", type := (.array .char), accessFlags := 24, slot := 3, constantValue := 0 }, { name := "DigitTens", type := (.array .byte), accessFlags := 24, slot := 4, constantValue := 0 }, { name := "DigitOnes", type := (.array .byte), accessFlags := 24, slot := 5, constantValue := 0 }, { name := "value", type := .int, accessFlags := 18, slot := 0, constantValue := 0 }, { name := "SIZE", type := .int, accessFlags := 25, slot := 6, constantValue := 0 }, { name := "BYTES", type := .int, accessFlags := 25, slot := 7, constantValue := 0 }, { name := "serialVersionUID", type := .long, accessFlags := 26, slot := 8, constantValue := 0 }]
  methods := #[k13m0, k13m1]
  instanceTypes := #[.int]
  staticTypes := #[.int, .int, (.object "java/lang/Class"), (.array .char), (.array .byte), (.array .byte), .int, .int, .long]
  resolved := Array.replicate 453 none
  statics := none }

def pool14 : Array CpInfo := pool [(2, .class_ 4), (1, u "java/lang/Object"), (0, u "<init>"), (0, u "()V"), (0, .class_ 8), (0, u "java/lang/Integer"), (7, .class_ 18), (1, u "java/lang/Integer$IntegerCache"), (0, u "$assertionsDisabled"), (0, u "Z"), (26, u "high"), (0, u "I"), (8, u "archivedCache"), (0, u "[Ljava/lang/Integer;"), (12, u "cache"), (0, u "low")] 27

def k14m0 : Method := { name := "<init>", desc := "()V", sig := { parameters := [], returnType := none }, accessFlags := 2, code := none }
/-- java/lang/Integer$IntegerCache -/
def k14 : Class := { plain "java/lang/Integer$IntegerCache" (some 0) with
  accessFlags := 48
  interfaces := #[]
  cf := some (fileOf pool14 16 #[.nestHost 7] #[{ accessFlags := 2, nameIndex := 5, descriptorIndex := 6, attributes := #[] }] 48 2 #[] #[{ accessFlags := 24, nameIndex := 72, descriptorIndex := 48, attributes := #[] }, { accessFlags := 24, nameIndex := 47, descriptorIndex := 48, attributes := #[] }, { accessFlags := 24, nameIndex := 71, descriptorIndex := 58, attributes := #[] }, { accessFlags := 8, nameIndex := 57, descriptorIndex := 58, attributes := #[] }, { accessFlags := 4120, nameIndex := 19, descriptorIndex := 20, attributes := #[] }])
  fields := #[{ name := "low", type := .int, accessFlags := 24, slot := 0, constantValue := 0 }, { name := "high", type := .int, accessFlags := 24, slot := 1, constantValue := 0 }, { name := "cache", type := (.array (.object "java/lang/Integer")), accessFlags := 24, slot := 2, constantValue := 0 }, { name := "archivedCache", type := (.array (.object "java/lang/Integer")), accessFlags := 8, slot := 3, constantValue := 0 }, { name := "$assertionsDisabled", type := .boolean, accessFlags := 4120, slot := 4, constantValue := 0 }]
  methods := #[k14m0]
  instanceTypes := #[]
  staticTypes := #[.int, .int, (.array (.object "java/lang/Integer")), (.array (.object "java/lang/Integer")), .boolean]
  resolved := Array.replicate 100 none
  statics := some 1 }

def pool15 : Array CpInfo := pool [(2, .class_ 4), (1, u "java/lang/CharSequence"), (42, .class_ 48), (0, u "java/lang/CharSequence$1CodePointIterator"), (10, .class_ 60), (0, u "java/lang/CharSequence$1CharIterator"), (5, .class_ 67), (0, u "java/lang/Object")] 63

/-- java/lang/CharSequence -/
def k15 : Class := { plain "java/lang/CharSequence" (some 0) with
  accessFlags := 1537
  interfaces := #[]
  cf := some (fileOf pool15 2 #[.nestMembers #[47, 59]] #[] 1537 66 #[] #[])
  fields := #[]
  methods := #[]
  instanceTypes := #[]
  staticTypes := #[]
  resolved := Array.replicate 131 none
  statics := none }

def pool16 : Array CpInfo := pool [(2, .class_ 4), (1, u "java/lang/Object"), (0, u "<init>"), (0, u "()V"), (3, .class_ 12), (1, u "java/lang/String"), (0, u "value"), (0, u "[B"), (2, u "coder"), (0, u "B"), (2, u "hash"), (0, u "I"), (2, u "hashIsZero"), (0, u "Z"), (13, u "COMPACT_STRINGS"), (534, .class_ 576), (0, u "java/lang/CharSequence"), (22, u "CASE_INSENSITIVE_ORDER"), (0, u "Ljava/util/Comparator;"), (500, u "serialPersistentFields"), (0, u "[Ljava/io/ObjectStreamField;"), (0, .class_ 1104), (0, u "java/lang/String$CaseInsensitiveComparator"), (1, .class_ 1107), (0, u "java/io/Serializable"), (0, .class_ 1109), (0, u "java/lang/Comparable"), (0, .class_ 1111), (0, u "java/lang/constant/Constable"), (0, .class_ 1113), (0, u "java/lang/constant/ConstantDesc"), (2, u "serialVersionUID"), (0, u "J"), (3, u "REPL"), (0, u "C"), (2, u "LATIN1"), (1, u "UTF16")] 323

def k16m0 : Method := { name := "<init>", desc := "()V", sig := { parameters := [], returnType := none }, accessFlags := 1, code := none }
/-- java/lang/String -/
def k16 : Class := { plain "java/lang/String" (some 0) with
  accessFlags := 49
  interfaces := #[6, 5, 15, 4, 12]
  cf := some (fileOf pool16 10 #[.nestMembers #[1103]] #[{ accessFlags := 1, nameIndex := 5, descriptorIndex := 6, attributes := #[] }] 49 2 #[1106, 1108, 575, 1110, 1112] #[{ accessFlags := 18, nameIndex := 13, descriptorIndex := 14, attributes := #[] }, { accessFlags := 18, nameIndex := 17, descriptorIndex := 18, attributes := #[] }, { accessFlags := 2, nameIndex := 21, descriptorIndex := 22, attributes := #[] }, { accessFlags := 2, nameIndex := 25, descriptorIndex := 26, attributes := #[] }, { accessFlags := 26, nameIndex := 1116, descriptorIndex := 1117, attributes := #[] }, { accessFlags := 24, nameIndex := 40, descriptorIndex := 26, attributes := #[] }, { accessFlags := 26, nameIndex := 1101, descriptorIndex := 1102, attributes := #[] }, { accessFlags := 26, nameIndex := 1121, descriptorIndex := 1122, attributes := #[] }, { accessFlags := 25, nameIndex := 599, descriptorIndex := 600, attributes := #[] }, { accessFlags := 24, nameIndex := 1125, descriptorIndex := 18, attributes := #[] }, { accessFlags := 24, nameIndex := 1127, descriptorIndex := 18, attributes := #[] }])
  fields := #[{ name := "value", type := (.array .byte), accessFlags := 18, slot := 0, constantValue := 0 }, { name := "coder", type := .byte, accessFlags := 18, slot := 1, constantValue := 0 }, { name := "hash", type := .int, accessFlags := 2, slot := 2, constantValue := 0 }, { name := "hashIsZero", type := .boolean, accessFlags := 2, slot := 3, constantValue := 0 }, { name := "serialVersionUID", type := .long, accessFlags := 26, slot := 0, constantValue := 0 }, { name := "COMPACT_STRINGS", type := .boolean, accessFlags := 24, slot := 1, constantValue := 0 }, { name := "serialPersistentFields", type := (.array (.object "java/io/ObjectStreamField")), accessFlags := 26, slot := 2, constantValue := 0 }, { name := "REPL", type := .char, accessFlags := 26, slot := 3, constantValue := 0 }, { name := "CASE_INSENSITIVE_ORDER", type := (.object "java/util/Comparator"), accessFlags := 25, slot := 4, constantValue := 0 }, { name := "LATIN1", type := .byte, accessFlags := 24, slot := 5, constantValue := 0 }, { name := "UTF16", type := .byte, accessFlags := 24, slot := 6, constantValue := 0 }]
  methods := #[k16m0]
  instanceTypes := #[(.array .byte), .byte, .int, .boolean]
  staticTypes := #[.long, .boolean, (.array (.object "java/io/ObjectStreamField")), .char, (.object "java/util/Comparator"), .byte, .byte]
  resolved := Array.replicate 1451 none
  statics := none }

def pool17 : Array CpInfo := pool [(1, u "java/lang/Cloneable"), (0, .class_ 1), (0, u "java/lang/Object"), (0, .class_ 3)] 3

/-- java/lang/Cloneable -/
def k17 : Class := { plain "java/lang/Cloneable" (some 0) with
  accessFlags := 1537
  interfaces := #[]
  cf := some (fileOf pool17 2 #[] #[] 1537 4 #[] #[])
  fields := #[]
  methods := #[]
  instanceTypes := #[]
  staticTypes := #[]
  resolved := Array.replicate 8 none
  statics := none }

/-- the primitive byte -/
def k18 : Class := { plain "byte" none with kind := .primitive 'B', accessFlags := 0x411 }
/-- [B -/
def k19 : Class := { plain "[B" (some 0) with kind := .array 18 .byte, interfaces := #[17, 6], accessFlags := 1041 }

/-- the primitive int -/
def k20 : Class := { plain "int" none with kind := .primitive 'I', accessFlags := 0x411 }
/-- [I -/
def k21 : Class := { plain "[I" (some 0) with kind := .array 20 .int, interfaces := #[17, 6], accessFlags := 1041 }

/-- [Ljava/lang/Integer; -/
def k22 : Class := { plain "[Ljava/lang/Integer;" (some 0) with kind := .array 13 (.object "java/lang/Integer"), interfaces := #[17, 6], accessFlags := 1041 }

/-- [Ljava/time/Month; -/
def k23 : Class := { plain "[Ljava/time/Month;" (some 0) with kind := .array 10 (.object "java/time/Month"), interfaces := #[17, 6], accessFlags := 1041 }

def heap : Heap := #[{ cls := 10, slots := #[.ref 261, .ref 262, .ref 263, .ref 264, .ref 265, .ref 266, .ref 267, .ref 268, .ref 269, .ref 270, .ref 271, .ref 272, .ref 3, .null], vm := .statics 10 },
  { cls := 14, slots := #[.int 0, .int 127, .ref 2, .null, .int 0], vm := .statics 14 },
  { cls := 22, slots := #[.ref 4, .ref 5, .ref 6, .ref 7, .ref 8, .ref 9, .ref 10, .ref 11, .ref 12, .ref 13, .ref 14, .ref 15, .ref 16, .ref 17, .ref 18, .ref 19, .ref 20, .ref 21, .ref 22, .ref 23, .ref 24, .ref 25, .ref 26, .ref 27, .ref 28, .ref 29, .ref 30, .ref 31, .ref 32, .ref 33, .ref 34, .ref 35, .ref 36, .ref 37, .ref 38, .ref 39, .ref 40, .ref 41, .ref 42, .ref 43, .ref 44, .ref 45, .ref 46, .ref 47, .ref 48, .ref 49, .ref 50, .ref 51, .ref 52, .ref 53, .ref 54, .ref 55, .ref 56, .ref 57, .ref 58, .ref 59, .ref 60, .ref 61, .ref 62, .ref 63, .ref 64, .ref 65, .ref 66, .ref 67, .ref 68, .ref 69, .ref 70, .ref 71, .ref 72, .ref 73, .ref 74, .ref 75, .ref 76, .ref 77, .ref 78, .ref 79, .ref 80, .ref 81, .ref 82, .ref 83, .ref 84, .ref 85, .ref 86, .ref 87, .ref 88, .ref 89, .ref 90, .ref 91, .ref 92, .ref 93, .ref 94, .ref 95, .ref 96, .ref 97, .ref 98, .ref 99, .ref 100, .ref 101, .ref 102, .ref 103, .ref 104, .ref 105, .ref 106, .ref 107, .ref 108, .ref 109, .ref 110, .ref 111, .ref 112, .ref 113, .ref 114, .ref 115, .ref 116, .ref 117, .ref 118, .ref 119, .ref 120, .ref 121, .ref 122, .ref 123, .ref 124, .ref 125, .ref 126, .ref 127, .ref 128, .ref 129, .ref 130, .ref 131, .ref 132, .ref 133, .ref 134, .ref 135, .ref 136, .ref 137, .ref 138, .ref 139, .ref 140, .ref 141, .ref 142, .ref 143, .ref 144, .ref 145, .ref 146, .ref 147, .ref 148, .ref 149, .ref 150, .ref 151, .ref 152, .ref 153, .ref 154, .ref 155, .ref 156, .ref 157, .ref 158, .ref 159, .ref 160, .ref 161, .ref 162, .ref 163, .ref 164, .ref 165, .ref 166, .ref 167, .ref 168, .ref 169, .ref 170, .ref 171, .ref 172, .ref 173, .ref 174, .ref 175, .ref 176, .ref 177, .ref 178, .ref 179, .ref 180, .ref 181, .ref 182, .ref 183, .ref 184, .ref 185, .ref 186, .ref 187, .ref 188, .ref 189, .ref 190, .ref 191, .ref 192, .ref 193, .ref 194, .ref 195, .ref 196, .ref 197, .ref 198, .ref 199, .ref 200, .ref 201, .ref 202, .ref 203, .ref 204, .ref 205, .ref 206, .ref 207, .ref 208, .ref 209, .ref 210, .ref 211, .ref 212, .ref 213, .ref 214, .ref 215, .ref 216, .ref 217, .ref 218, .ref 219, .ref 220, .ref 221, .ref 222, .ref 223, .ref 224, .ref 225, .ref 226, .ref 227, .ref 228, .ref 229, .ref 230, .ref 231, .ref 232, .ref 233, .ref 234, .ref 235, .ref 236, .ref 237, .ref 238, .ref 239, .ref 240, .ref 241, .ref 242, .ref 243, .ref 244, .ref 245, .ref 246, .ref 247, .ref 248, .ref 249, .ref 250, .ref 251, .ref 252, .ref 253, .ref 254, .ref 255, .ref 256, .ref 257, .ref 258, .ref 259], vm := .none },
  { cls := 23, slots := #[.ref 261, .ref 262, .ref 263, .ref 264, .ref 265, .ref 266, .ref 267, .ref 268, .ref 269, .ref 270, .ref 271, .ref 272], vm := .none },
  { cls := 13, slots := #[.int (-128)], vm := .none },
  { cls := 13, slots := #[.int (-127)], vm := .none },
  { cls := 13, slots := #[.int (-126)], vm := .none },
  { cls := 13, slots := #[.int (-125)], vm := .none },
  { cls := 13, slots := #[.int (-124)], vm := .none },
  { cls := 13, slots := #[.int (-123)], vm := .none },
  { cls := 13, slots := #[.int (-122)], vm := .none },
  { cls := 13, slots := #[.int (-121)], vm := .none },
  { cls := 13, slots := #[.int (-120)], vm := .none },
  { cls := 13, slots := #[.int (-119)], vm := .none },
  { cls := 13, slots := #[.int (-118)], vm := .none },
  { cls := 13, slots := #[.int (-117)], vm := .none },
  { cls := 13, slots := #[.int (-116)], vm := .none },
  { cls := 13, slots := #[.int (-115)], vm := .none },
  { cls := 13, slots := #[.int (-114)], vm := .none },
  { cls := 13, slots := #[.int (-113)], vm := .none },
  { cls := 13, slots := #[.int (-112)], vm := .none },
  { cls := 13, slots := #[.int (-111)], vm := .none },
  { cls := 13, slots := #[.int (-110)], vm := .none },
  { cls := 13, slots := #[.int (-109)], vm := .none },
  { cls := 13, slots := #[.int (-108)], vm := .none },
  { cls := 13, slots := #[.int (-107)], vm := .none },
  { cls := 13, slots := #[.int (-106)], vm := .none },
  { cls := 13, slots := #[.int (-105)], vm := .none },
  { cls := 13, slots := #[.int (-104)], vm := .none },
  { cls := 13, slots := #[.int (-103)], vm := .none },
  { cls := 13, slots := #[.int (-102)], vm := .none },
  { cls := 13, slots := #[.int (-101)], vm := .none },
  { cls := 13, slots := #[.int (-100)], vm := .none },
  { cls := 13, slots := #[.int (-99)], vm := .none },
  { cls := 13, slots := #[.int (-98)], vm := .none },
  { cls := 13, slots := #[.int (-97)], vm := .none },
  { cls := 13, slots := #[.int (-96)], vm := .none },
  { cls := 13, slots := #[.int (-95)], vm := .none },
  { cls := 13, slots := #[.int (-94)], vm := .none },
  { cls := 13, slots := #[.int (-93)], vm := .none },
  { cls := 13, slots := #[.int (-92)], vm := .none },
  { cls := 13, slots := #[.int (-91)], vm := .none },
  { cls := 13, slots := #[.int (-90)], vm := .none },
  { cls := 13, slots := #[.int (-89)], vm := .none },
  { cls := 13, slots := #[.int (-88)], vm := .none },
  { cls := 13, slots := #[.int (-87)], vm := .none },
  { cls := 13, slots := #[.int (-86)], vm := .none },
  { cls := 13, slots := #[.int (-85)], vm := .none },
  { cls := 13, slots := #[.int (-84)], vm := .none },
  { cls := 13, slots := #[.int (-83)], vm := .none },
  { cls := 13, slots := #[.int (-82)], vm := .none },
  { cls := 13, slots := #[.int (-81)], vm := .none },
  { cls := 13, slots := #[.int (-80)], vm := .none },
  { cls := 13, slots := #[.int (-79)], vm := .none },
  { cls := 13, slots := #[.int (-78)], vm := .none },
  { cls := 13, slots := #[.int (-77)], vm := .none },
  { cls := 13, slots := #[.int (-76)], vm := .none },
  { cls := 13, slots := #[.int (-75)], vm := .none },
  { cls := 13, slots := #[.int (-74)], vm := .none },
  { cls := 13, slots := #[.int (-73)], vm := .none },
  { cls := 13, slots := #[.int (-72)], vm := .none },
  { cls := 13, slots := #[.int (-71)], vm := .none },
  { cls := 13, slots := #[.int (-70)], vm := .none },
  { cls := 13, slots := #[.int (-69)], vm := .none },
  { cls := 13, slots := #[.int (-68)], vm := .none },
  { cls := 13, slots := #[.int (-67)], vm := .none },
  { cls := 13, slots := #[.int (-66)], vm := .none },
  { cls := 13, slots := #[.int (-65)], vm := .none },
  { cls := 13, slots := #[.int (-64)], vm := .none },
  { cls := 13, slots := #[.int (-63)], vm := .none },
  { cls := 13, slots := #[.int (-62)], vm := .none },
  { cls := 13, slots := #[.int (-61)], vm := .none },
  { cls := 13, slots := #[.int (-60)], vm := .none },
  { cls := 13, slots := #[.int (-59)], vm := .none },
  { cls := 13, slots := #[.int (-58)], vm := .none },
  { cls := 13, slots := #[.int (-57)], vm := .none },
  { cls := 13, slots := #[.int (-56)], vm := .none },
  { cls := 13, slots := #[.int (-55)], vm := .none },
  { cls := 13, slots := #[.int (-54)], vm := .none },
  { cls := 13, slots := #[.int (-53)], vm := .none },
  { cls := 13, slots := #[.int (-52)], vm := .none },
  { cls := 13, slots := #[.int (-51)], vm := .none },
  { cls := 13, slots := #[.int (-50)], vm := .none },
  { cls := 13, slots := #[.int (-49)], vm := .none },
  { cls := 13, slots := #[.int (-48)], vm := .none },
  { cls := 13, slots := #[.int (-47)], vm := .none },
  { cls := 13, slots := #[.int (-46)], vm := .none },
  { cls := 13, slots := #[.int (-45)], vm := .none },
  { cls := 13, slots := #[.int (-44)], vm := .none },
  { cls := 13, slots := #[.int (-43)], vm := .none },
  { cls := 13, slots := #[.int (-42)], vm := .none },
  { cls := 13, slots := #[.int (-41)], vm := .none },
  { cls := 13, slots := #[.int (-40)], vm := .none },
  { cls := 13, slots := #[.int (-39)], vm := .none },
  { cls := 13, slots := #[.int (-38)], vm := .none },
  { cls := 13, slots := #[.int (-37)], vm := .none },
  { cls := 13, slots := #[.int (-36)], vm := .none },
  { cls := 13, slots := #[.int (-35)], vm := .none },
  { cls := 13, slots := #[.int (-34)], vm := .none },
  { cls := 13, slots := #[.int (-33)], vm := .none },
  { cls := 13, slots := #[.int (-32)], vm := .none },
  { cls := 13, slots := #[.int (-31)], vm := .none },
  { cls := 13, slots := #[.int (-30)], vm := .none },
  { cls := 13, slots := #[.int (-29)], vm := .none },
  { cls := 13, slots := #[.int (-28)], vm := .none },
  { cls := 13, slots := #[.int (-27)], vm := .none },
  { cls := 13, slots := #[.int (-26)], vm := .none },
  { cls := 13, slots := #[.int (-25)], vm := .none },
  { cls := 13, slots := #[.int (-24)], vm := .none },
  { cls := 13, slots := #[.int (-23)], vm := .none },
  { cls := 13, slots := #[.int (-22)], vm := .none },
  { cls := 13, slots := #[.int (-21)], vm := .none },
  { cls := 13, slots := #[.int (-20)], vm := .none },
  { cls := 13, slots := #[.int (-19)], vm := .none },
  { cls := 13, slots := #[.int (-18)], vm := .none },
  { cls := 13, slots := #[.int (-17)], vm := .none },
  { cls := 13, slots := #[.int (-16)], vm := .none },
  { cls := 13, slots := #[.int (-15)], vm := .none },
  { cls := 13, slots := #[.int (-14)], vm := .none },
  { cls := 13, slots := #[.int (-13)], vm := .none },
  { cls := 13, slots := #[.int (-12)], vm := .none },
  { cls := 13, slots := #[.int (-11)], vm := .none },
  { cls := 13, slots := #[.int (-10)], vm := .none },
  { cls := 13, slots := #[.int (-9)], vm := .none },
  { cls := 13, slots := #[.int (-8)], vm := .none },
  { cls := 13, slots := #[.int (-7)], vm := .none },
  { cls := 13, slots := #[.int (-6)], vm := .none },
  { cls := 13, slots := #[.int (-5)], vm := .none },
  { cls := 13, slots := #[.int (-4)], vm := .none },
  { cls := 13, slots := #[.int (-3)], vm := .none },
  { cls := 13, slots := #[.int (-2)], vm := .none },
  { cls := 13, slots := #[.int (-1)], vm := .none },
  { cls := 13, slots := #[.int 0], vm := .none },
  { cls := 13, slots := #[.int 1], vm := .none },
  { cls := 13, slots := #[.int 2], vm := .none },
  { cls := 13, slots := #[.int 3], vm := .none },
  { cls := 13, slots := #[.int 4], vm := .none },
  { cls := 13, slots := #[.int 5], vm := .none },
  { cls := 13, slots := #[.int 6], vm := .none },
  { cls := 13, slots := #[.int 7], vm := .none },
  { cls := 13, slots := #[.int 8], vm := .none },
  { cls := 13, slots := #[.int 9], vm := .none },
  { cls := 13, slots := #[.int 10], vm := .none },
  { cls := 13, slots := #[.int 11], vm := .none },
  { cls := 13, slots := #[.int 12], vm := .none },
  { cls := 13, slots := #[.int 13], vm := .none },
  { cls := 13, slots := #[.int 14], vm := .none },
  { cls := 13, slots := #[.int 15], vm := .none },
  { cls := 13, slots := #[.int 16], vm := .none },
  { cls := 13, slots := #[.int 17], vm := .none },
  { cls := 13, slots := #[.int 18], vm := .none },
  { cls := 13, slots := #[.int 19], vm := .none },
  { cls := 13, slots := #[.int 20], vm := .none },
  { cls := 13, slots := #[.int 21], vm := .none },
  { cls := 13, slots := #[.int 22], vm := .none },
  { cls := 13, slots := #[.int 23], vm := .none },
  { cls := 13, slots := #[.int 24], vm := .none },
  { cls := 13, slots := #[.int 25], vm := .none },
  { cls := 13, slots := #[.int 26], vm := .none },
  { cls := 13, slots := #[.int 27], vm := .none },
  { cls := 13, slots := #[.int 28], vm := .none },
  { cls := 13, slots := #[.int 29], vm := .none },
  { cls := 13, slots := #[.int 30], vm := .none },
  { cls := 13, slots := #[.int 31], vm := .none },
  { cls := 13, slots := #[.int 32], vm := .none },
  { cls := 13, slots := #[.int 33], vm := .none },
  { cls := 13, slots := #[.int 34], vm := .none },
  { cls := 13, slots := #[.int 35], vm := .none },
  { cls := 13, slots := #[.int 36], vm := .none },
  { cls := 13, slots := #[.int 37], vm := .none },
  { cls := 13, slots := #[.int 38], vm := .none },
  { cls := 13, slots := #[.int 39], vm := .none },
  { cls := 13, slots := #[.int 40], vm := .none },
  { cls := 13, slots := #[.int 41], vm := .none },
  { cls := 13, slots := #[.int 42], vm := .none },
  { cls := 13, slots := #[.int 43], vm := .none },
  { cls := 13, slots := #[.int 44], vm := .none },
  { cls := 13, slots := #[.int 45], vm := .none },
  { cls := 13, slots := #[.int 46], vm := .none },
  { cls := 13, slots := #[.int 47], vm := .none },
  { cls := 13, slots := #[.int 48], vm := .none },
  { cls := 13, slots := #[.int 49], vm := .none },
  { cls := 13, slots := #[.int 50], vm := .none },
  { cls := 13, slots := #[.int 51], vm := .none },
  { cls := 13, slots := #[.int 52], vm := .none },
  { cls := 13, slots := #[.int 53], vm := .none },
  { cls := 13, slots := #[.int 54], vm := .none },
  { cls := 13, slots := #[.int 55], vm := .none },
  { cls := 13, slots := #[.int 56], vm := .none },
  { cls := 13, slots := #[.int 57], vm := .none },
  { cls := 13, slots := #[.int 58], vm := .none },
  { cls := 13, slots := #[.int 59], vm := .none },
  { cls := 13, slots := #[.int 60], vm := .none },
  { cls := 13, slots := #[.int 61], vm := .none },
  { cls := 13, slots := #[.int 62], vm := .none },
  { cls := 13, slots := #[.int 63], vm := .none },
  { cls := 13, slots := #[.int 64], vm := .none },
  { cls := 13, slots := #[.int 65], vm := .none },
  { cls := 13, slots := #[.int 66], vm := .none },
  { cls := 13, slots := #[.int 67], vm := .none },
  { cls := 13, slots := #[.int 68], vm := .none },
  { cls := 13, slots := #[.int 69], vm := .none },
  { cls := 13, slots := #[.int 70], vm := .none },
  { cls := 13, slots := #[.int 71], vm := .none },
  { cls := 13, slots := #[.int 72], vm := .none },
  { cls := 13, slots := #[.int 73], vm := .none },
  { cls := 13, slots := #[.int 74], vm := .none },
  { cls := 13, slots := #[.int 75], vm := .none },
  { cls := 13, slots := #[.int 76], vm := .none },
  { cls := 13, slots := #[.int 77], vm := .none },
  { cls := 13, slots := #[.int 78], vm := .none },
  { cls := 13, slots := #[.int 79], vm := .none },
  { cls := 13, slots := #[.int 80], vm := .none },
  { cls := 13, slots := #[.int 81], vm := .none },
  { cls := 13, slots := #[.int 82], vm := .none },
  { cls := 13, slots := #[.int 83], vm := .none },
  { cls := 13, slots := #[.int 84], vm := .none },
  { cls := 13, slots := #[.int 85], vm := .none },
  { cls := 13, slots := #[.int 86], vm := .none },
  { cls := 13, slots := #[.int 87], vm := .none },
  { cls := 13, slots := #[.int 88], vm := .none },
  { cls := 13, slots := #[.int 89], vm := .none },
  { cls := 13, slots := #[.int 90], vm := .none },
  { cls := 13, slots := #[.int 91], vm := .none },
  { cls := 13, slots := #[.int 92], vm := .none },
  { cls := 13, slots := #[.int 93], vm := .none },
  { cls := 13, slots := #[.int 94], vm := .none },
  { cls := 13, slots := #[.int 95], vm := .none },
  { cls := 13, slots := #[.int 96], vm := .none },
  { cls := 13, slots := #[.int 97], vm := .none },
  { cls := 13, slots := #[.int 98], vm := .none },
  { cls := 13, slots := #[.int 99], vm := .none },
  { cls := 13, slots := #[.int 100], vm := .none },
  { cls := 13, slots := #[.int 101], vm := .none },
  { cls := 13, slots := #[.int 102], vm := .none },
  { cls := 13, slots := #[.int 103], vm := .none },
  { cls := 13, slots := #[.int 104], vm := .none },
  { cls := 13, slots := #[.int 105], vm := .none },
  { cls := 13, slots := #[.int 106], vm := .none },
  { cls := 13, slots := #[.int 107], vm := .none },
  { cls := 13, slots := #[.int 108], vm := .none },
  { cls := 13, slots := #[.int 109], vm := .none },
  { cls := 13, slots := #[.int 110], vm := .none },
  { cls := 13, slots := #[.int 111], vm := .none },
  { cls := 13, slots := #[.int 112], vm := .none },
  { cls := 13, slots := #[.int 113], vm := .none },
  { cls := 13, slots := #[.int 114], vm := .none },
  { cls := 13, slots := #[.int 115], vm := .none },
  { cls := 13, slots := #[.int 116], vm := .none },
  { cls := 13, slots := #[.int 117], vm := .none },
  { cls := 13, slots := #[.int 118], vm := .none },
  { cls := 13, slots := #[.int 119], vm := .none },
  { cls := 13, slots := #[.int 120], vm := .none },
  { cls := 13, slots := #[.int 121], vm := .none },
  { cls := 13, slots := #[.int 122], vm := .none },
  { cls := 13, slots := #[.int 123], vm := .none },
  { cls := 13, slots := #[.int 124], vm := .none },
  { cls := 13, slots := #[.int 125], vm := .none },
  { cls := 13, slots := #[.int 126], vm := .none },
  { cls := 13, slots := #[.int 127], vm := .none },
  { cls := 16, slots := #[.null, .int 0, .int 0, .int 0], vm := .none },
  { cls := 10, slots := #[.ref 260, .int 0, .int 0], vm := .none },
  { cls := 10, slots := #[.ref 260, .int 1, .int 0], vm := .none },
  { cls := 10, slots := #[.ref 260, .int 2, .int 0], vm := .none },
  { cls := 10, slots := #[.ref 260, .int 3, .int 0], vm := .none },
  { cls := 10, slots := #[.ref 260, .int 4, .int 0], vm := .none },
  { cls := 10, slots := #[.ref 260, .int 5, .int 0], vm := .none },
  { cls := 10, slots := #[.ref 260, .int 6, .int 0], vm := .none },
  { cls := 10, slots := #[.ref 260, .int 7, .int 0], vm := .none },
  { cls := 10, slots := #[.ref 260, .int 8, .int 0], vm := .none },
  { cls := 10, slots := #[.ref 260, .int 9, .int 0], vm := .none },
  { cls := 10, slots := #[.ref 260, .int 10, .int 0], vm := .none },
  { cls := 10, slots := #[.ref 260, .int 11, .int 0], vm := .none }]
def classes : Array Class := #[k0, k1, k2, k3, k4, k5, k6, k7, k8, k9, k10, k11, k12, k13, k14, k15, k16, k17, k18, k19, k20, k21, k22, k23]
def interned : List (Array UInt16 × Addr) := []
def slotsUsed : Nat := 583
def theMethod : MethodId := ⟨1, 2⟩
def args0 : Array Value := #[.int 3, .int 2, .int 7, .int 8, .int 0]
def aboutOver (below : List Frame) : State where
  vm := { classes := classes, interned := interned.toArray }
  heap := heap
  slotsUsed := slotsUsed
  threads := #[{ frames := .invoking theMethod args0 :: below }]
def below0 : List Frame := [.native { method := ⟨0, 0⟩, args := #[] }]
def about1 : State := aboutOver below0
def p0 : Program := .bare "" "" ""
def e0 : Env := launch0.env 0 0 0
theorem w_frames : about1.frames = Frame.invoking theMethod args0 :: below0 := rfl
set_option maxRecDepth 65536 in
theorem w_args : argsFit about1.vm theMethod args0 = true := by decide +kernel
set_option maxRecDepth 65536 in
theorem w_heap : heapFits about1 = true := by decide +kernel
set_option maxRecDepth 65536 in
theorem w_runnable : about1.curStatus? = some .runnable := by decide +kernel
set_option maxRecDepth 65536 in
theorem w_alone : about1.alone = true := by decide +kernel
set_option maxRecDepth 65536 in
theorem w_named : about1.methodNamed? x = some theMethod := by decide +kernel
set_option maxRecDepth 65536 in
theorem w_hears : about1.hears theMethod below0 = true := by decide +kernel
set_option maxRecDepth 65536 in
theorem w_ripe : about1.ripe theMethod args0 below0 = true := by decide +kernel
theorem w_running : about1.status = .running := rfl
set_option maxRecDepth 65536 in
theorem w_room : about1.hasRoom e0.platform room_1 = true :=
  launch0.hasRoom_least _ room_1 (by decide +kernel) (by decide +kernel) (by decide +kernel) (by decide +kernel) (by decide +kernel) (by decide +kernel)
theorem allAtoms_all (ts : List Jvm.Cond) (a : Array Jvm.Value) (st : Jvm.State) : (allAtoms ts).before a st = ts.all (fun c => c.before a st) := by
  induction ts with
  | nil => rfl
  | cons c t ih =>
    show (Jvm.Cond.and c (allAtoms t)).before a st = _
    rw [Jvm.Cond.before_and, ih, List.all_cons]
def words1 : List Jvm.Cond := Jvm.Cond.code x code maxLocals ret :: tables_1
/-- a 'code' word, met by the world's own term for the bytes: nothing is compared byte by byte -/
theorem code_word {y : MethodName} {bytes : ByteArray} {mx : Nat} {rt : Option FieldType} {a : Array Value} {s : State} {m : MethodId} {meth : Method} {c : Code} (h1 : s.methodNamed? y = some m) (h2 : s.vm.method? m = some meth) (h3 : meth.code = some c) (h4 : c.code = bytes)
    (h5 : (c.maxLocals == mx && c.exceptionTable.isEmpty && decide (c.maxStack ≤ mostOperands) && decide (meth.sig.returnType = rt) && !meth.locks && decide (parseMethodDescriptor y.desc = some meth.sig)) = true) : (Jvm.Cond.code y bytes mx rt).before a s = true := by
  simp only [Bool.and_eq_true, beq_iff_eq, Bool.not_eq_true', decide_eq_true_eq] at h5
  obtain ⟨⟨⟨⟨⟨g1, g2⟩, g3⟩, g4⟩, g5⟩, g6⟩ := h5
  simp [Cond.before, Cond.holds, Cond.value, h1, h2, h3, h4, g1, g2, g3, g4, g5, g6]
def isCode : Jvm.Cond → Bool
  | .code _ _ _ _ => true
  | _ => false
theorem all_split {L : List Jvm.Cond} {P : Jvm.Cond → Bool} (h1 : L.all (fun c => isCode c || P c) = true) (h2 : ∀ c ∈ L.filter isCode, P c = true) : L.all P = true := by
  refine List.all_eq_true.mpr fun c hc => ?_
  have h := List.all_eq_true.mp h1 c hc
  rcases Bool.eq_false_or_eq_true (isCode c) with hi | hi
  · exact h2 c (List.mem_filter.mpr ⟨hc, hi⟩)
  · simpa [hi] using h
set_option maxRecDepth 65536 in
theorem w_c0 : (Jvm.Cond.code x code maxLocals ret).before args0 about1 = true := code_word (m := ⟨1, 2⟩) (meth := k1m2) (c := k1c2) (by decide +kernel) rfl rfl rfl (by decide +kernel)
set_option maxRecDepth 65536 in
theorem w_c1 : (Jvm.Cond.code ({ cls := "com/example/notewright/notewright/AnnualDayEqualsPinLaw", name := "maxLen", desc := "(I)I" } : Jvm.MethodName) method_2_code (1 : Nat) (Option.some Jvm.ClassFile.FieldType.int)).before args0 about1 = true := code_word (m := ⟨1, 1⟩) (meth := k1m1) (c := k1c1) (by decide +kernel) rfl rfl rfl (by decide +kernel)
set_option maxRecDepth 65536 in
theorem w_c2 : (Jvm.Cond.code ({ cls := "com/example/notewright/notewright/AnnualDay", name := "<init>", desc := "(II)V" } : Jvm.MethodName) prog_7_method_1_code (3 : Nat) (Option.none : Option Jvm.ClassFile.FieldType)).before args0 about1 = true := code_word (m := ⟨3, 0⟩) (meth := k3m0) (c := k3c0) (by decide +kernel) rfl rfl rfl (by decide +kernel)
set_option maxRecDepth 65536 in
theorem w_c3 : (Jvm.Cond.code ({ cls := "java/lang/Record", name := "<init>", desc := "()V" } : Jvm.MethodName) jdk_30_method_1_code (1 : Nat) (Option.none : Option Jvm.ClassFile.FieldType)).before args0 about1 = true := code_word (m := ⟨2, 0⟩) (meth := k2m0) (c := k2c0) (by decide +kernel) rfl rfl rfl (by decide +kernel)
set_option maxRecDepth 65536 in
theorem w_c4 : (Jvm.Cond.code ({ cls := "java/lang/Object", name := "<init>", desc := "()V" } : Jvm.MethodName) object_method_1_code (1 : Nat) (Option.none : Option Jvm.ClassFile.FieldType)).before args0 about1 = true := code_word (m := ⟨0, 0⟩) (meth := k0m0) (c := k0c0) (by decide +kernel) rfl rfl rfl (by decide +kernel)
set_option maxRecDepth 65536 in
theorem w_c5 : (Jvm.Cond.code ({ cls := "java/time/Month", name := "of", desc := "(I)Ljava/time/Month;" } : Jvm.MethodName) jdk_2329_method_4_code (1 : Nat) (Option.some (Jvm.ClassFile.FieldType.object "java/time/Month"))).before args0 about1 = true := code_word (m := ⟨10, 0⟩) (meth := k10m0) (c := k10c0) (by decide +kernel) rfl rfl rfl (by decide +kernel)
set_option maxRecDepth 65536 in
theorem w_c6 : (Jvm.Cond.code ({ cls := "java/time/Month", name := "maxLength", desc := "()I" } : Jvm.MethodName) jdk_2329_method_16_code (1 : Nat) (Option.some Jvm.ClassFile.FieldType.int)).before args0 about1 = true := code_word (m := ⟨10, 1⟩) (meth := k10m1) (c := k10c1) (by decide +kernel) rfl rfl rfl (by decide +kernel)
set_option maxRecDepth 65536 in
theorem w_c7 : (Jvm.Cond.code ({ cls := "java/lang/Enum", name := "ordinal", desc := "()I" } : Jvm.MethodName) jdk_37_method_2_code (1 : Nat) (Option.some Jvm.ClassFile.FieldType.int)).before args0 about1 = true := code_word (m := ⟨7, 0⟩) (meth := k7m0) (c := k7c0) (by decide +kernel) rfl rfl rfl (by decide +kernel)
set_option maxRecDepth 65536 in
theorem w_c8 : (Jvm.Cond.code ({ cls := "com/example/notewright/notewright/AnnualDay", name := "equals", desc := "(Ljava/lang/Object;)Z" } : Jvm.MethodName) prog_7_method_3_code (3 : Nat) (Option.some Jvm.ClassFile.FieldType.boolean)).before args0 about1 = true := code_word (m := ⟨3, 1⟩) (meth := k3m1) (c := k3c1) (by decide +kernel) rfl rfl rfl (by decide +kernel)
set_option maxRecDepth 65536 in
theorem w_c9 : (Jvm.Cond.code ({ cls := "java/lang/Integer", name := "valueOf", desc := "(I)Ljava/lang/Integer;" } : Jvm.MethodName) jdk_33_method_22_code (1 : Nat) (Option.some (Jvm.ClassFile.FieldType.object "java/lang/Integer"))).before args0 about1 = true := code_word (m := ⟨13, 0⟩) (meth := k13m0) (c := k13c0) (by decide +kernel) rfl rfl rfl (by decide +kernel)
set_option maxRecDepth 65536 in
theorem w_c10 : (Jvm.Cond.code ({ cls := "java/lang/Integer", name := "<init>", desc := "(I)V" } : Jvm.MethodName) jdk_33_method_23_code (2 : Nat) (Option.none : Option Jvm.ClassFile.FieldType)).before args0 about1 = true := code_word (m := ⟨13, 1⟩) (meth := k13m1) (c := k13c1) (by decide +kernel) rfl rfl rfl (by decide +kernel)
set_option maxRecDepth 65536 in
theorem w_c11 : (Jvm.Cond.code ({ cls := "java/lang/Number", name := "<init>", desc := "()V" } : Jvm.MethodName) jdk_18_method_1_code (1 : Nat) (Option.none : Option Jvm.ClassFile.FieldType)).before args0 about1 = true := code_word (m := ⟨11, 0⟩) (meth := k11m0) (c := k11c0) (by decide +kernel) rfl rfl rfl (by decide +kernel)
def codes1 : List Jvm.Cond := [Jvm.Cond.code x code maxLocals ret, Jvm.Cond.code ({ cls := "com/example/notewright/notewright/AnnualDayEqualsPinLaw", name := "maxLen", desc := "(I)I" } : Jvm.MethodName) method_2_code (1 : Nat) (Option.some Jvm.ClassFile.FieldType.int), Jvm.Cond.code ({ cls := "com/example/notewright/notewright/AnnualDay", name := "<init>", desc := "(II)V" } : Jvm.MethodName) prog_7_method_1_code (3 : Nat) (Option.none : Option Jvm.ClassFile.FieldType), Jvm.Cond.code ({ cls := "java/lang/Record", name := "<init>", desc := "()V" } : Jvm.MethodName) jdk_30_method_1_code (1 : Nat) (Option.none : Option Jvm.ClassFile.FieldType), Jvm.Cond.code ({ cls := "java/lang/Object", name := "<init>", desc := "()V" } : Jvm.MethodName) object_method_1_code (1 : Nat) (Option.none : Option Jvm.ClassFile.FieldType), Jvm.Cond.code ({ cls := "java/time/Month", name := "of", desc := "(I)Ljava/time/Month;" } : Jvm.MethodName) jdk_2329_method_4_code (1 : Nat) (Option.some (Jvm.ClassFile.FieldType.object "java/time/Month")), Jvm.Cond.code ({ cls := "java/time/Month", name := "maxLength", desc := "()I" } : Jvm.MethodName) jdk_2329_method_16_code (1 : Nat) (Option.some Jvm.ClassFile.FieldType.int), Jvm.Cond.code ({ cls := "java/lang/Enum", name := "ordinal", desc := "()I" } : Jvm.MethodName) jdk_37_method_2_code (1 : Nat) (Option.some Jvm.ClassFile.FieldType.int), Jvm.Cond.code ({ cls := "com/example/notewright/notewright/AnnualDay", name := "equals", desc := "(Ljava/lang/Object;)Z" } : Jvm.MethodName) prog_7_method_3_code (3 : Nat) (Option.some Jvm.ClassFile.FieldType.boolean), Jvm.Cond.code ({ cls := "java/lang/Integer", name := "valueOf", desc := "(I)Ljava/lang/Integer;" } : Jvm.MethodName) jdk_33_method_22_code (1 : Nat) (Option.some (Jvm.ClassFile.FieldType.object "java/lang/Integer")), Jvm.Cond.code ({ cls := "java/lang/Integer", name := "<init>", desc := "(I)V" } : Jvm.MethodName) jdk_33_method_23_code (2 : Nat) (Option.none : Option Jvm.ClassFile.FieldType), Jvm.Cond.code ({ cls := "java/lang/Number", name := "<init>", desc := "()V" } : Jvm.MethodName) jdk_18_method_1_code (1 : Nat) (Option.none : Option Jvm.ClassFile.FieldType)]
set_option maxRecDepth 65536 in
theorem codes_eq : words1.filter isCode = codes1 := rfl
theorem w_codes : ∀ c ∈ words1.filter isCode, c.before args0 about1 = true := by
  rw [codes_eq]
  intro c hc
  simp only [codes1, List.mem_cons, List.not_mem_nil, or_false] at hc
  rcases hc with rfl | rfl | rfl | rfl | rfl | rfl | rfl | rfl | rfl | rfl | rfl | rfl
  · exact w_c0
  · exact w_c1
  · exact w_c2
  · exact w_c3
  · exact w_c4
  · exact w_c5
  · exact w_c6
  · exact w_c7
  · exact w_c8
  · exact w_c9
  · exact w_c10
  · exact w_c11
set_option maxRecDepth 65536 in
theorem w_t1 : (words1.take 24).all (fun c => isCode c || c.before args0 about1) = true := by decide +kernel
set_option maxRecDepth 65536 in
theorem w_t2 : ((words1.drop 24).take 24).all (fun c => isCode c || c.before args0 about1) = true := by decide +kernel
set_option maxRecDepth 65536 in
theorem w_t3 : (((words1.drop 24).drop 24).take 24).all (fun c => isCode c || c.before args0 about1) = true := by decide +kernel
set_option maxRecDepth 65536 in
theorem w_t4 : (((words1.drop 24).drop 24).drop 24).all (fun c => isCode c || c.before args0 about1) = true := by decide +kernel
theorem w_tables : (allAtoms (Jvm.Cond.code x code maxLocals ret :: tables_1)).before args0 about1 = true := by
  rw [allAtoms_all]
  show words1.all (fun c => c.before args0 about1) = true
  refine all_split ?_ w_codes
  rw [← List.take_append_drop 24 words1, List.all_append, w_t1, ← List.take_append_drop 24 (words1.drop 24), List.all_append, w_t2, ← List.take_append_drop 24 ((words1.drop 24).drop 24), List.all_append, w_t3, w_t4]
  rfl
set_option maxRecDepth 65536 in
theorem w_rest : rest_1_c.before args0 about1 = true := by decide +kernel
set_option maxRecDepth 65536 in
theorem w_case : (Jvm.Cond.and given_1 narrow_1).before args0 about1 = true := by decide +kernel
theorem w_applies : (headSpec (Jvm.Cond.code x code maxLocals ret :: tables_1) room_1).applies x e0.platform about1 = true :=
  (Spec.applies_iff w_frames).mpr ⟨w_running, w_runnable, w_alone, w_named, w_hears, w_ripe, w_room, w_tables⟩
theorem atStart : AtStart classFile x code maxLocals ret World_1 tables_1 room_1 Calls_1 rest_1 Pre_1 launch0 p0 e0 about1 theMethod args0 below0 :=
  ⟨lists_1, trivial, launch0.admits_env _ _ _, launch0.least_env, fairChoices_fair.cas, fairChoices_fair.clock, w_frames, w_args, w_heap, w_applies, trivial, w_rest, w_case⟩
end start1
theorem witness_1 : WitnessClaimed_1 := ⟨start1.p0, start1.e0, start1.about1, start1.theMethod, start1.args0, start1.below0, start1.atStart⟩
end Jvm.Pilot.@@N@@
