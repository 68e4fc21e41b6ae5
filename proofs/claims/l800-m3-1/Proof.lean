import JvmDerived
import JvmDerived.Pilot.@@N@@Statement
import JvmDerived.Pilot.@@N@@Code
set_option linter.unusedVariables false
set_option linter.unusedSimpArgs false
namespace Jvm.RoadKit
open Sem ClassFile Op Lib Jvm.Stand Jvm.Free Jvm.LawKit
section New
variable {p : Program} {l : Launch} {e : Env} {R : Room} {s : State} {m : MethodId} {args : Array Value} {below : List Frame} {meth : Method} {c : Code} {T : State} {locs : List Loc} {cells slots : Nat}
theorem retI (X : Stand p l e R s m args below meth c T locs cells slots) (hx : p.tables.exec = Jvm.exec) {pc : Nat} {Ls : Array Slot} {z : Int32} {rest : List Value} (hret : meth.sig.returnType = some .int) (hd : decode c.code pc = .ok (.ireturn, 1)) {fs : List Frame}
    (hl : ∀ (f : JFrame) (acts : List Action), f.method = m → f.locked = none → f.entered = [] → (doReturn e (T.setTop f) acts (some (.int z))).1 = T.setFrames fs) : Steps p.tables e below (T.setTop (mkF m pc Ls (.int z :: rest))) (T.setFrames fs) := by
  have hm' : T.vm.method? m = some meth := X.method'
  have hn : narrow .int (.int z) = .int z := rfl
  show Steps p.tables e below (T.setTop { method := m, pc := pc, locals := Ls, stack := _ :: rest, locked := none }) _
  jvm_step X.here [X.here.top, hx, hd, hm', hret, hn]
  first | (intro acts; rw [hl _ acts rfl rfl rfl]) | rw [hl _ _ rfl rfl rfl]
  exact Steps.refl _
end New
end Jvm.RoadKit
namespace Jvm.Pilot.@@N@@
open Jvm Jvm.ClassFile Sem Op Lib Jvm.Free Jvm.Stand Jvm.LawKit Jvm.RoadKit Bundle Jvm.Pilot.@@N@@.Jvm.D
abbrev own_K (p : Program) (e : Env) (below : List Frame) (m : MethodId) (T : State) (pc : Nat) (L : Array Slot) (S : List Value) (t : State) : Prop := Steps p.tables e below (T.setTop (mkF m pc L S)) t
abbrev lv (x : Int64) : Slot := .val (.long x)
section OwnLib
variable {p : Program} {l : Launch} {e : Env} {R : Room} {s : State} {m : MethodId} {args : Array Value} {below : List Frame} {meth : Method} {c : Code} {T : State} {locs : List Loc} {cells slots : Nat} {Z : State} {h : Heap} {a : Addr} {k : ClassId} {ty : FieldType} {n j : Int32} {vs : List Value} {dv v : Value}
theorem own_len (X : Stand p l e R s m args below meth c T locs cells slots) (hx : p.tables.exec = Jvm.exec) (hZ : Z.Warmed39 s.vm) (eT : T.heap = h) (V : Arv Z h a k ty n vs dv) {g : JFrame} (hg : g.method = m) {rest : List Value} (hs : g.stack = .ref a :: rest) (hd : decode c.code g.pc = .ok (.arraylength, 1)) (target : State)
    (hr : Steps p.tables e below (T.setTop { g with pc := g.pc + 1, stack := .int n :: rest }) target) : Steps p.tables e below (T.setTop g) target := by
  obtain ⟨cl, Ar, -, S, N, -, -⟩ := V
  refine X.arraylength hx (by rw [eT]; exact Ar.1) (State.isArrayOf_alike hZ.alike Ar.2.1) hg hs hd target ?_
  rw [len_of S N]
  exact hr
theorem own_ias (X : Stand p l e R s m args below meth c T locs cells slots) (hx : p.tables.exec = Jvm.exec) (hZ : Z.Warmed39 s.vm) (eT : T.heap = h) (V : Arv Z h a k .int n vs dv) (hj : ¬ j < 0 ∧ j < n) {x : Int32} {g : JFrame} (hg : g.method = m) {rest : List Value} (hs : g.stack = .int x :: .int j :: .ref a :: rest) (hd : decode c.code g.pc = .ok (.iastore, 1)) {i : Nat} (hi : j.toNatClampNeg = i) (hl : i < vs.length) :
    ∃ T' h', Stand p l e R s m args below meth c T' (locs ++ [⟨a, j.toNatClampNeg⟩]) cells slots ∧ T'.heap = h' ∧ Wr h h' a j.toNatClampNeg (.int x) ∧ Arv Z h' a k .int n (vs.set i (.int x)) dv ∧ ∀ target, Steps p.tables e below (T'.setTop { g with pc := g.pc + 1, stack := rest }) target → Steps p.tables e below (T.setTop g) target := by
  obtain ⟨cl, Ar, q, S, N, H, G⟩ := V
  obtain ⟨T', h', X', e', W, st⟩ := stI X hx hZ eT Ar (inb_of S hj) hg hs hd
  exact ⟨T', h', X', e', W, Arv.set Ar q S N H G rfl W i hi hl, st⟩
theorem own_fas (X : Stand p l e R s m args below meth c T locs cells slots) (hx : p.tables.exec = Jvm.exec) (hZ : Z.Warmed39 s.vm) (eT : T.heap = h) (V : Arv Z h a k .float n vs dv) (hj : ¬ j < 0 ∧ j < n) {x : UInt32} {g : JFrame} (hg : g.method = m) {rest : List Value} (hs : g.stack = .float x :: .int j :: .ref a :: rest) (hd : decode c.code g.pc = .ok (.fastore, 1)) {i : Nat} (hi : j.toNatClampNeg = i) (hl : i < vs.length) :
    ∃ T' h', Stand p l e R s m args below meth c T' (locs ++ [⟨a, j.toNatClampNeg⟩]) cells slots ∧ T'.heap = h' ∧ Wr h h' a j.toNatClampNeg (.float x) ∧ Arv Z h' a k .float n (vs.set i (.float x)) dv ∧ ∀ target, Steps p.tables e below (T'.setTop { g with pc := g.pc + 1, stack := rest }) target → Steps p.tables e below (T.setTop g) target := by
  obtain ⟨cl, Ar, q, S, N, H, G⟩ := V
  obtain ⟨T', h', X', e', W, st⟩ := stF X hx hZ eT Ar (inb_of S hj) hg hs hd
  exact ⟨T', h', X', e', W, Arv.set Ar q S N H G rfl W i hi hl, st⟩
end OwnLib
theorem own_i2f {tb : Tables} [Ours tb] {e : Env} {below : List Frame} {T target : State} {m : MethodId} {c : Code} {g : JFrame} (h : At T m c below) (hx : tb.exec = Jvm.exec) (hg : g.method = m) {x : Int32} {rest : List Value} (hd : decode c.code g.pc = .ok (.i2f, 1)) (hs : g.stack = .int x :: rest)
    (hr : Steps tb e below (T.setTop { g with pc := g.pc + 1, stack := .float (FP.i2f x) :: rest }) target) : Steps tb e below (T.setTop g) target := by
  subst hg
  jvm_step h [h.top, hx, hd, hs]
  exact hr

theorem own_toInt {n : Nat} (h : n < 2 ^ 31) : (Int32.ofNat n).toInt = n := Int32.toInt_ofNat_small h
theorem own_nat {x : Int32} {k : Nat} (hx : x = Int32.ofNat k) (h : k < 2 ^ 31) : x.toNatClampNeg = k := by rw [hx]; exact Int32.toNatClampNeg_ofNat_of_lt h
theorem own_inc {x : Int32} {a : Nat} (hx : x = Int32.ofNat a) : x + 1 = Int32.ofNat (a + 1) := by rw [hx, Int32.ofNat_add]; rfl
theorem own_ltn {x y : Int32} {a b : Nat} (hx : x = Int32.ofNat a) (hy : y = Int32.ofNat b) (h1 : a < 2 ^ 31) (h2 : b < 2 ^ 31) : x < y ↔ a < b := by
  rw [hx, hy, Int32.lt_iff_toInt_lt, own_toInt h1, own_toInt h2]
  omega
theorem own_ilt {x y : Int32} {a b : Nat} (hx : x = Int32.ofNat a) (hy : y = Int32.ofNat b) (h : a < b) (hb : b ≤ 31) : x < y := (own_ltn hx hy (by omega) (by omega)).mpr h
theorem own_inlt {x y : Int32} {a b : Nat} (hx : x = Int32.ofNat a) (hy : y = Int32.ofNat b) (h : a = b) (hb : b ≤ 31) : ¬ x < y := mt (own_ltn hx hy (by omega) (by omega)).mp (by omega)
theorem own_nn {x : Int32} {a : Nat} (hx : x = Int32.ofNat a) (h : a < 2 ^ 31) : ¬ x < (0 : Int32) := by
  have e : (0 : Int32).toInt = 0 := by decide
  rw [hx, Int32.lt_iff_toInt_lt, own_toInt h, e]
  omega
theorem own_inN {x y : Int32} {a b : Nat} (hx : x = Int32.ofNat a) (hy : y = Int32.ofNat b) (h : a < b) (hb : b ≤ 31) : ¬ x < (0 : Int32) ∧ x < y := ⟨own_nn hx (by omega), own_ilt hx hy h hb⟩
theorem own_maskN (x m : Int32) (N : Nat) (hm : m.toInt = N) (hN : N ≤ 31) : ∃ n : Nat, (x &&& m) = Int32.ofNat n ∧ n ≤ N := by
  have h := c_and x m (by omega)
  refine ⟨(x &&& m).toInt.toNat, Int32.toInt_inj.mp ?_, by omega⟩
  rw [own_toInt (by omega)]
  omega
theorem own_mask31 (x y : Int32) (h : y = (x &&& (31 : Int32))) : ∃ n : Nat, y = Int32.ofNat n ∧ n ≤ 31 := by
  obtain ⟨n, h1, h2⟩ := own_maskN x 31 31 (by decide) (by decide)
  exact ⟨n, h.trans h1, h2⟩
theorem own_mask7 (x y : Int32) (h : y = (x &&& (7 : Int32))) : ∃ n : Nat, y = Int32.ofNat n ∧ n ≤ 7 := by
  obtain ⟨n, h1, h2⟩ := own_maskN x 7 7 (by decide) (by decide)
  exact ⟨n, h.trans h1, h2⟩
theorem d4_5 : decode jdk_65_method_115_code 5 = .ok (.iload_n 2, 1) := by decide +kernel
theorem d4_6 : decode jdk_65_method_115_code 6 = .ok (.iload_n 3, 1) := by decide +kernel
theorem d4_7 : decode jdk_65_method_115_code 7 = .ok (.if_icmp .ge 13, 3) := by decide +kernel
theorem d4_10 : decode jdk_65_method_115_code 10 = .ok (.aload_n 0, 1) := by decide +kernel
theorem d4_11 : decode jdk_65_method_115_code 11 = .ok (.iload_n 2, 1) := by decide +kernel
theorem d4_12 : decode jdk_65_method_115_code 12 = .ok (.fload_n 1, 1) := by decide +kernel
theorem d4_13 : decode jdk_65_method_115_code 13 = .ok (.fastore, 1) := by decide +kernel
theorem d4_14 : decode jdk_65_method_115_code 14 = .ok (.iinc 2 1, 3) := by decide +kernel
theorem d4_17 : decode jdk_65_method_115_code 17 = .ok (.goto (-12), 3) := by decide +kernel
set_option maxRecDepth 65536 in
set_option maxHeartbeats 40000000 in
theorem tn_ff {p : Program} {l : Launch} {e : Env} {R : Room} {s : State} {m : MethodId} {args : Array Value} {below : List Frame} {meth : Method} {c : Code} {T0 : State} {locs : List Loc} {cells slots : Nat} {Z : State} {a0 : Array Value} {h0 : Heap} {n0 : Nat} {oa : Addr} {xf : UInt32} {xi : Int32} {xn : Int32} {rk : ClassId} {vs : List Value} {iN : Nat} {nN : Nat}
    (X0 : Stand p l e R s m args below meth c T0 locs cells slots) (hx : p.tables.exec = Jvm.exec) (hZ : Z.Warmed39 s.vm) (hw : ∀ d ∈ tables_1, d.before a0 Z = true) (hby : c.code = jdk_65_method_115_code) (hml : c.maxLocals = 4) (hown : s.vm.findClass "java/util/Arrays" = some m.cls) (e0 : T0.heap = h0) (N0 : Fr n0 locs) (Z0 : n0 ≤ h0.size) (Va : Arv Z h0 oa rk .float xn vs (.float (0 : UInt32))) (g_ : n0 ≤ oa) (hi : xi = Int32.ofNat iN) (hn : xn = Int32.ofNat nN) (bn : nN ≤ 31) (bi : iN < nN) (hl : vs.length = nN) :
    ∃ (T' : State) (h' : Heap) (l' : List Loc), Stand p l e R s m args below meth c T' l' cells slots ∧ Fr n0 l' ∧ T'.heap = h' ∧ Keep h0 h' [oa] ∧ Arv Z h' oa rk .float xn (List.set vs iN (.float xf)) (.float (0 : UInt32)) ∧ ∀ t, Steps p.tables e below (T'.setTop (mkF m 5 #[rv oa, .val (.float xf), iv (xi + (1 : Int32)), iv xn] [])) t → Steps p.tables e below (T0.setTop (mkF m 5 #[rv oa, .val (.float xf), iv xi, iv xn] [])) t := by
  have pre0 : ∀ t, own_K p e below m T0 5 #[rv oa, .val (.float xf), iv xi, iv xn] [] t → Steps p.tables e below (T0.setTop (mkF m 5 #[rv oa, .val (.float xf), iv xi, iv xn] [])) t := fun t k => k
  obtain ⟨T1, h1, X1, e1, W1, V1, st1⟩ := own_fas X0 hx hZ e0 Va (own_inN hi hn bi bn) (g := (mkF m 13 #[rv oa, .val (.float xf), iv xi, iv xn] [(.float xf), (.int xi), (.ref oa)])) rfl rfl (hb hby d4_13) (i := iN) (own_nat hi (by omega)) (by omega)
  have K1 : Keep h0 h1 [oa] := (Keep.refl h0 [oa]).wr W1 (Or.inl (List.mem_of_getElem? (i := 0) rfl))
  have N1 := Fr.snoc X1 N0 g_
  have sz1 : n0 ≤ h1.size := Nat.le_trans Z0 (Keep.of_wr W1).1
  have Vw1 : Arv Z h1 oa rk .float xn (List.set vs iN (.float xf)) (.float (0 : UInt32)) := V1
  have pre2 : ∀ t, own_K p e below m T1 5 #[rv oa, .val (.float xf), iv (xi + (1 : Int32)), iv xn] [] t → Steps p.tables e below (T0.setTop (mkF m 5 #[rv oa, .val (.float xf), iv xi, iv xn] [])) t := by
    intro t k
    refine pre0 t ?_
    show own_K p e below m T0 5 #[rv oa, .val (.float xf), iv xi, iv xn] [] _
    refine XS.iloadN X0.here hx rfl (hb hby d4_5) rfl ?_
    show own_K p e below m T0 6 #[rv oa, .val (.float xf), iv xi, iv xn] [(.int xi)] _
    refine XS.iloadN X0.here hx rfl (hb hby d4_6) rfl ?_
    show own_K p e below m T0 7 #[rv oa, .val (.float xf), iv xi, iv xn] [(.int xn), (.int xi)] _
    refine XS.icmpNo X0.here hx rfl (hb hby d4_7) rfl (tlt (own_ilt hi hn bi (by omega))).2.1 ?_
    show own_K p e below m T0 10 #[rv oa, .val (.float xf), iv xi, iv xn] [] _
    refine XS.aloadN X0.here hx rfl (hb hby d4_10) rfl rfl ?_
    show own_K p e below m T0 11 #[rv oa, .val (.float xf), iv xi, iv xn] [(.ref oa)] _
    refine XS.iloadN X0.here hx rfl (hb hby d4_11) rfl ?_
    show own_K p e below m T0 12 #[rv oa, .val (.float xf), iv xi, iv xn] [(.int xi), (.ref oa)] _
    refine XT.floadN X0.here hx rfl (hb hby d4_12) rfl ?_
    show own_K p e below m T0 13 #[rv oa, .val (.float xf), iv xi, iv xn] [(.float xf), (.int xi), (.ref oa)] _
    refine st1 _ ?_
    show own_K p e below m T1 14 #[rv oa, .val (.float xf), iv xi, iv xn] [] _
    refine XS.iinc X1.here hx rfl (hb hby d4_14) rfl (l' := #[rv oa, .val (.float xf), iv (xi + (1 : Int32)), iv xn]) rfl ?_
    show own_K p e below m T1 17 #[rv oa, .val (.float xf), iv (xi + (1 : Int32)), iv xn] [] _
    refine XS.goto X1.here hx rfl (pc0 := 17) (pc' := 5) rfl (hb hby d4_17) (by decide) (by decide) ?_
    exact k
  exact ⟨_, _, _, X1, N1, e1, K1, Vw1, fun t k => pre2 t k⟩

set_option maxRecDepth 65536 in
set_option maxHeartbeats 40000000 in
theorem tn_ffx {p : Program} {l : Launch} {e : Env} {R : Room} {s : State} {m : MethodId} {args : Array Value} {below : List Frame} {meth : Method} {c : Code} {T0 : State} {locs : List Loc} {cells slots : Nat} {Z : State} {a0 : Array Value} {h0 : Heap} {n0 : Nat} {oa : Addr} {xf : UInt32} {xi : Int32} {xn : Int32} {iN : Nat} {nN : Nat}
    (X0 : Stand p l e R s m args below meth c T0 locs cells slots) (hx : p.tables.exec = Jvm.exec) (hZ : Z.Warmed39 s.vm) (hw : ∀ d ∈ tables_1, d.before a0 Z = true) (hby : c.code = jdk_65_method_115_code) (hml : c.maxLocals = 4) (hown : s.vm.findClass "java/util/Arrays" = some m.cls) (e0 : T0.heap = h0) (N0 : Fr n0 locs) (Z0 : n0 ≤ h0.size) (hi : xi = Int32.ofNat iN) (hn : xn = Int32.ofNat nN) (bi : iN = nN) (bn : nN ≤ 31) :
    ∃ (T' : State) (l' : List Loc), Stand p l e R s m args below meth c T' l' cells slots ∧ Fr n0 l' ∧ T'.heap = h0 ∧ ∀ t, Steps p.tables e below (T'.setTop (mkF m 20 #[rv oa, .val (.float xf), iv xi, iv xn] [])) t → Steps p.tables e below (T0.setTop (mkF m 5 #[rv oa, .val (.float xf), iv xi, iv xn] [])) t := by
  have pre0 : ∀ t, own_K p e below m T0 5 #[rv oa, .val (.float xf), iv xi, iv xn] [] t → Steps p.tables e below (T0.setTop (mkF m 5 #[rv oa, .val (.float xf), iv xi, iv xn] [])) t := fun t k => k
  have pre1 : ∀ t, own_K p e below m T0 20 #[rv oa, .val (.float xf), iv xi, iv xn] [] t → Steps p.tables e below (T0.setTop (mkF m 5 #[rv oa, .val (.float xf), iv xi, iv xn] [])) t := by
    intro t k
    refine pre0 t ?_
    show own_K p e below m T0 5 #[rv oa, .val (.float xf), iv xi, iv xn] [] _
    refine XS.iloadN X0.here hx rfl (hb hby d4_5) rfl ?_
    show own_K p e below m T0 6 #[rv oa, .val (.float xf), iv xi, iv xn] [(.int xi)] _
    refine XS.iloadN X0.here hx rfl (hb hby d4_6) rfl ?_
    show own_K p e below m T0 7 #[rv oa, .val (.float xf), iv xi, iv xn] [(.int xn), (.int xi)] _
    refine XS.icmpYes X0.here hx rfl (pc0 := 7) (pc' := 20) rfl (hb hby d4_7) rfl (flt (own_inlt hi hn bi (by omega))).2.1 (by decide) (by decide) ?_
    exact k
  exact ⟨_, _, X0, N0, e0, fun t k => pre1 t k⟩


set_option maxHeartbeats 4000000 in
theorem loop_ff {p : Program} {l : Launch} {e : Env} {R : Room} {s : State} {m : MethodId} {args : Array Value} {below : List Frame} {meth : Method} {c : Code} {cells slots : Nat} {Z : State} {a0 : Array Value} {n0 : Nat} {oa : Addr} {xf : UInt32} {xn : Int32} {rk : ClassId} {nN : Nat}
    (hx : p.tables.exec = Jvm.exec) (hZ : Z.Warmed39 s.vm) (hw : ∀ d ∈ tables_1, d.before a0 Z = true) (hby : c.code = jdk_65_method_115_code) (hml : c.maxLocals = 4) (hown : s.vm.findClass "java/util/Arrays" = some m.cls)
    (g_ : n0 ≤ oa) (hn : xn = Int32.ofNat nN) (bn : nN ≤ 31) :
    ∀ (k iN : Nat) (xi : Int32) (T0 : State) (locs : List Loc) (h0 : Heap) (vs : List Value), iN + k = nN → xi = Int32.ofNat iN → vs.length = nN → Stand p l e R s m args below meth c T0 locs cells slots → T0.heap = h0 → Fr n0 locs → n0 ≤ h0.size →
      Arv Z h0 oa rk .float xn vs (.float (0 : UInt32)) →
      ∃ (xi' : Int32) (vs' : List Value) (T' : State) (h' : Heap) (l' : List Loc), Stand p l e R s m args below meth c T' l' cells slots ∧ Fr n0 l' ∧ T'.heap = h' ∧ Keep h0 h' [oa] ∧ Arv Z h' oa rk .float xn vs' (.float (0 : UInt32)) ∧
        ∀ t, Steps p.tables e below (T'.setTop (mkF m 20 #[.val (.ref oa), .val (.float xf), .val (.int xi'), .val (.int xn)] [])) t → Steps p.tables e below (T0.setTop (mkF m 5 #[.val (.ref oa), .val (.float xf), .val (.int xi), .val (.int xn)] [])) t := by
  intro k
  induction k with
  | zero =>
    intro iN xi T0 locs h0 vs hk hi hl X0 e0 N0 Z0 V
    obtain ⟨T1, l1, X1, N1, e1, st1⟩ := tn_ffx (oa := oa) (xf := xf) X0 hx hZ hw hby hml hown e0 N0 Z0 hi hn (by omega) bn
    exact ⟨xi, vs, T1, h0, l1, X1, N1, e1, Keep.refl _ _, V, st1⟩
  | succ k ih =>
    intro iN xi T0 locs h0 vs hk hi hl X0 e0 N0 Z0 V
    obtain ⟨T1, h1, l1, X1, N1, e1, K1, V1, st1⟩ := tn_ff (xf := xf) X0 hx hZ hw hby hml hown e0 N0 Z0 V g_ hi hn bn (by omega) hl
    obtain ⟨xi', vs', T2, h2, l2, X2, N2, e2, K2, V2, st2⟩ := ih (iN + 1) (xi + 1) T1 l1 h1 _ (by omega) (own_inc hi) (by rw [List.length_set]; exact hl) X1 e1 N1 (Nat.le_trans Z0 K1.1) V1
    exact ⟨xi', vs', T2, h2, l2, X2, N2, e2, K1.trans K2 (fun x hx => Or.inl hx), V2, fun t k => st1 t (st2 t k)⟩

theorem d4_0 : decode jdk_65_method_115_code 0 = .ok (.iconst 0, 1) := by decide +kernel
theorem d4_1 : decode jdk_65_method_115_code 1 = .ok (.istore_n 2, 1) := by decide +kernel
theorem d4_2 : decode jdk_65_method_115_code 2 = .ok (.aload_n 0, 1) := by decide +kernel
theorem d4_3 : decode jdk_65_method_115_code 3 = .ok (.arraylength, 1) := by decide +kernel
theorem d4_4 : decode jdk_65_method_115_code 4 = .ok (.istore_n 3, 1) := by decide +kernel
theorem d4_20 : decode jdk_65_method_115_code 20 = .ok (.return_, 1) := by decide +kernel
theorem pn_0 : plainName "java/util/Arrays" = true := by first | (simp [plainName, overriddenIn]; done) | decide +kernel
theorem ef_4 (m : MethodId) (x0 : Addr) (x1 : UInt32) : entryFrame m #[(.ref x0), (.float x1)] 4 = mkF m 0 #[rv x0, .val (.float x1), .unset, .unset] [] := by first | (simp [entryFrame, mkF, argsToLocals, Value.category]; done) | rfl
def Q4 (Z : State) (oa : Addr) (xf : UInt32) (rk : ClassId) (xn : Int32) (vs : List Value) (nN : Nat) (h0 : Heap) (n0 : Nat) (rv_ : Option Value) (h_ : Heap) (L_ : List Loc) : Prop := ∃ (vq : List Value), rv_ = none ∧ Fr n0 L_ ∧ Keep h0 h_ [oa] ∧ Arv Z h_ oa rk .float xn vq (.float (0 : UInt32))
set_option maxRecDepth 65536 in
set_option maxHeartbeats 40000000 in
theorem rm4 (l : Launch) (Z : State) (a0 : Array Value) (hw : ∀ d ∈ tables_1, d.before a0 Z = true) (ws : List Jvm.Cond) (oa : Addr) (xf : UInt32) (rk : ClassId) (xn : Int32) (vs : List Value) (nN : Nat) (h0 : Heap) (n0 : Nat) (Z0 : n0 ≤ h0.size) (Va : Arv Z h0 oa rk .float xn vs (.float (0 : UInt32))) (g_ : n0 ≤ oa) (hn : xn = Int32.ofNat nN) (bn : nN ≤ 31) (hl : vs.length = nN) :
    MetFree l (⟨"java/util/Arrays", "fill", "([FF)V"⟩ : MethodName) (head1 (Jvm.Cond.code (⟨"java/util/Arrays", "fill", "([FF)V"⟩ : MethodName) jdk_65_method_115_code 4 none :: ws) ({ frames := 0, cells := 0, slots := 0, locals := 0 } : Room)) (fun a U => a = #[(.ref oa), (.float xf)] ∧ Z.Warmed39 U.vm ∧ U.heap = h0) (fun _ _ _ _ _ => True) (fun _ U o U' => ∃ v L, o = .returned v ∧ Q4 Z oa xf rk xn vs nN h0 n0 v U'.heap L ∧ FrameEnd U o U' L ({ frames := 0, cells := 0, slots := 0, locals := 0 } : Room).cells ({ frames := 0, cells := 0, slots := 0, locals := 0 } : Room).slots) := by
  refine MetFree.of_bodySF (plainFor_of_name pn_0) hisR ?_
  intro p e s m args below meth c s₁ Bd hml0 hP hK
  obtain ⟨rfl, hZ, hh⟩ := hP
  have hx := Bd.exec
  have hby := Bd.bytes
  have hml : c.maxLocals = 4 := hml0
  have hown : s.vm.findClass "java/util/Arrays" = some m.cls := findClass_of_methodNamed Bd.named
  have hnm := (name_of_methodNamed Bd.named Bd.method).1
  have X0 : Stand p l e ({ frames := 0, cells := 0, slots := 0, locals := 0 } : Room) s m #[(.ref oa), (.float xf)] below meth c s₁ [] 0 0 := Stand.of_body Bd
  have e0 : s₁.heap = h0 := by rw [← hh, Bd.state]; rfl
  have N0 := Fr.nil n0
  obtain ⟨G, hG, pre0⟩ : ∃ G : State → Prop, (∀ t, G t → Steps p.tables e below (s₁.setTop (entryFrame m #[(.ref oa), (.float xf)] 4)) t) ∧ ∀ t, own_K p e below m s₁ 0 #[rv oa, .val (.float xf), .unset, .unset] [] t → G t := ⟨fun t => Steps p.tables e below (s₁.setTop (entryFrame m #[(.ref oa), (.float xf)] 4)) t, fun _ k => k, fun t k => castTop (ef_4 m oa xf) k⟩
  have pre2 : ∀ t, own_K p e below m s₁ 5 #[rv oa, .val (.float xf), iv (0 : Int32), iv xn] [] t → G t := by
    intro t k
    refine pre0 t ?_
    show own_K p e below m s₁ 0 #[rv oa, .val (.float xf), .unset, .unset] [] _
    refine XS.iconst X0.here hx rfl (hb hby d4_0) ?_
    show own_K p e below m s₁ 1 #[rv oa, .val (.float xf), .unset, .unset] [(.int (0 : Int32))] _
    refine XS.istoreN X0.here hx rfl (hb hby d4_1) rfl (l' := #[rv oa, .val (.float xf), iv (0 : Int32), .unset]) rfl ?_
    show own_K p e below m s₁ 2 #[rv oa, .val (.float xf), iv (0 : Int32), .unset] [] _
    refine XS.aloadN X0.here hx rfl (hb hby d4_2) rfl rfl ?_
    show own_K p e below m s₁ 3 #[rv oa, .val (.float xf), iv (0 : Int32), .unset] [(.ref oa)] _
    refine own_len X0 hx hZ e0 Va (g := (mkF m 3 #[rv oa, .val (.float xf), iv (0 : Int32), .unset] [(.ref oa)])) rfl rfl (hb hby d4_3) _ ?_
    show own_K p e below m s₁ 4 #[rv oa, .val (.float xf), iv (0 : Int32), .unset] [(.int xn)] _
    refine XS.istoreN X0.here hx rfl (hb hby d4_4) rfl (l' := #[rv oa, .val (.float xf), iv (0 : Int32), iv xn]) rfl ?_
    exact k
  obtain ⟨xi3, vs3, T3, h3, l3, X3, N3, e3, Kc3, V3, st3⟩ := loop_ff (xf := xf) hx hZ hw hby hml hown g_ hn bn nN 0 (0 : Int32) s₁ _ _ _ (by omega) rfl hl X0 e0 N0 Z0 Va
  have pre4 : ∀ t, own_K p e below m T3 20 #[rv oa, .val (.float xf), iv xi3, iv xn] [] t → G t := fun t k => pre2 t (st3 t k)
  have K3 : Keep h0 h3 [oa] := (Keep.refl h0 [oa]).trans Kc3 (fun x hx => Or.inl hx)
  obtain ⟨fs, hr, hrun, hended, hW, hsame⟩ := X3.leave (v := none) (fun _ => rfl)
  refine ⟨_, _, hG _ (pre4 _ ?_), hrun, hended, _, _, rfl, ?_, ⟨_, rfl⟩, hW, hsame.mono (by decide) (by decide)⟩
  · show own_K p e below m T3 20 #[rv oa, .val (.float xf), iv xi3, iv xn] [] _
    exact X3.returnOut hx Bd.returns (hb hby d4_20) hr
  · show Q4 Z oa xf rk xn vs nN h0 n0 _ T3.heap _
    rw [e3]
    exact ⟨vs3, rfl, N3, K3, V3⟩

theorem d5_5 : decode jdk_65_method_103_code 5 = .ok (.iload_n 2, 1) := by decide +kernel
theorem d5_6 : decode jdk_65_method_103_code 6 = .ok (.iload_n 3, 1) := by decide +kernel
theorem d5_7 : decode jdk_65_method_103_code 7 = .ok (.if_icmp .ge 13, 3) := by decide +kernel
theorem d5_10 : decode jdk_65_method_103_code 10 = .ok (.aload_n 0, 1) := by decide +kernel
theorem d5_11 : decode jdk_65_method_103_code 11 = .ok (.iload_n 2, 1) := by decide +kernel
theorem d5_12 : decode jdk_65_method_103_code 12 = .ok (.iload_n 1, 1) := by decide +kernel
theorem d5_13 : decode jdk_65_method_103_code 13 = .ok (.iastore, 1) := by decide +kernel
theorem d5_14 : decode jdk_65_method_103_code 14 = .ok (.iinc 2 1, 3) := by decide +kernel
theorem d5_17 : decode jdk_65_method_103_code 17 = .ok (.goto (-12), 3) := by decide +kernel
set_option maxRecDepth 65536 in
set_option maxHeartbeats 40000000 in
theorem tn_fi {p : Program} {l : Launch} {e : Env} {R : Room} {s : State} {m : MethodId} {args : Array Value} {below : List Frame} {meth : Method} {c : Code} {T0 : State} {locs : List Loc} {cells slots : Nat} {Z : State} {a0 : Array Value} {h0 : Heap} {n0 : Nat} {oa : Addr} {xf : Int32} {xi : Int32} {xn : Int32} {rk : ClassId} {vs : List Value} {iN : Nat} {nN : Nat}
    (X0 : Stand p l e R s m args below meth c T0 locs cells slots) (hx : p.tables.exec = Jvm.exec) (hZ : Z.Warmed39 s.vm) (hw : ∀ d ∈ tables_1, d.before a0 Z = true) (hby : c.code = jdk_65_method_103_code) (hml : c.maxLocals = 4) (hown : s.vm.findClass "java/util/Arrays" = some m.cls) (e0 : T0.heap = h0) (N0 : Fr n0 locs) (Z0 : n0 ≤ h0.size) (Va : Arv Z h0 oa rk .int xn vs (.int (0 : Int32))) (g_ : n0 ≤ oa) (hi : xi = Int32.ofNat iN) (hn : xn = Int32.ofNat nN) (bn : nN ≤ 31) (bi : iN < nN) (hl : vs.length = nN) :
    ∃ (T' : State) (h' : Heap) (l' : List Loc), Stand p l e R s m args below meth c T' l' cells slots ∧ Fr n0 l' ∧ T'.heap = h' ∧ Keep h0 h' [oa] ∧ Arv Z h' oa rk .int xn (List.set vs iN (.int xf)) (.int (0 : Int32)) ∧ ∀ t, Steps p.tables e below (T'.setTop (mkF m 5 #[rv oa, iv xf, iv (xi + (1 : Int32)), iv xn] [])) t → Steps p.tables e below (T0.setTop (mkF m 5 #[rv oa, iv xf, iv xi, iv xn] [])) t := by
  have pre0 : ∀ t, own_K p e below m T0 5 #[rv oa, iv xf, iv xi, iv xn] [] t → Steps p.tables e below (T0.setTop (mkF m 5 #[rv oa, iv xf, iv xi, iv xn] [])) t := fun t k => k
  obtain ⟨T1, h1, X1, e1, W1, V1, st1⟩ := own_ias X0 hx hZ e0 Va (own_inN hi hn bi bn) (g := (mkF m 13 #[rv oa, iv xf, iv xi, iv xn] [(.int xf), (.int xi), (.ref oa)])) rfl rfl (hb hby d5_13) (i := iN) (own_nat hi (by omega)) (by omega)
  have K1 : Keep h0 h1 [oa] := (Keep.refl h0 [oa]).wr W1 (Or.inl (List.mem_of_getElem? (i := 0) rfl))
  have N1 := Fr.snoc X1 N0 g_
  have sz1 : n0 ≤ h1.size := Nat.le_trans Z0 (Keep.of_wr W1).1
  have Vw1 : Arv Z h1 oa rk .int xn (List.set vs iN (.int xf)) (.int (0 : Int32)) := V1
  have pre2 : ∀ t, own_K p e below m T1 5 #[rv oa, iv xf, iv (xi + (1 : Int32)), iv xn] [] t → Steps p.tables e below (T0.setTop (mkF m 5 #[rv oa, iv xf, iv xi, iv xn] [])) t := by
    intro t k
    refine pre0 t ?_
    show own_K p e below m T0 5 #[rv oa, iv xf, iv xi, iv xn] [] _
    refine XS.iloadN X0.here hx rfl (hb hby d5_5) rfl ?_
    show own_K p e below m T0 6 #[rv oa, iv xf, iv xi, iv xn] [(.int xi)] _
    refine XS.iloadN X0.here hx rfl (hb hby d5_6) rfl ?_
    show own_K p e below m T0 7 #[rv oa, iv xf, iv xi, iv xn] [(.int xn), (.int xi)] _
    refine XS.icmpNo X0.here hx rfl (hb hby d5_7) rfl (tlt (own_ilt hi hn bi (by omega))).2.1 ?_
    show own_K p e below m T0 10 #[rv oa, iv xf, iv xi, iv xn] [] _
    refine XS.aloadN X0.here hx rfl (hb hby d5_10) rfl rfl ?_
    show own_K p e below m T0 11 #[rv oa, iv xf, iv xi, iv xn] [(.ref oa)] _
    refine XS.iloadN X0.here hx rfl (hb hby d5_11) rfl ?_
    show own_K p e below m T0 12 #[rv oa, iv xf, iv xi, iv xn] [(.int xi), (.ref oa)] _
    refine XS.iloadN X0.here hx rfl (hb hby d5_12) rfl ?_
    show own_K p e below m T0 13 #[rv oa, iv xf, iv xi, iv xn] [(.int xf), (.int xi), (.ref oa)] _
    refine st1 _ ?_
    show own_K p e below m T1 14 #[rv oa, iv xf, iv xi, iv xn] [] _
    refine XS.iinc X1.here hx rfl (hb hby d5_14) rfl (l' := #[rv oa, iv xf, iv (xi + (1 : Int32)), iv xn]) rfl ?_
    show own_K p e below m T1 17 #[rv oa, iv xf, iv (xi + (1 : Int32)), iv xn] [] _
    refine XS.goto X1.here hx rfl (pc0 := 17) (pc' := 5) rfl (hb hby d5_17) (by decide) (by decide) ?_
    exact k
  exact ⟨_, _, _, X1, N1, e1, K1, Vw1, fun t k => pre2 t k⟩

set_option maxRecDepth 65536 in
set_option maxHeartbeats 40000000 in
theorem tn_fix {p : Program} {l : Launch} {e : Env} {R : Room} {s : State} {m : MethodId} {args : Array Value} {below : List Frame} {meth : Method} {c : Code} {T0 : State} {locs : List Loc} {cells slots : Nat} {Z : State} {a0 : Array Value} {h0 : Heap} {n0 : Nat} {oa : Addr} {xf : Int32} {xi : Int32} {xn : Int32} {iN : Nat} {nN : Nat}
    (X0 : Stand p l e R s m args below meth c T0 locs cells slots) (hx : p.tables.exec = Jvm.exec) (hZ : Z.Warmed39 s.vm) (hw : ∀ d ∈ tables_1, d.before a0 Z = true) (hby : c.code = jdk_65_method_103_code) (hml : c.maxLocals = 4) (hown : s.vm.findClass "java/util/Arrays" = some m.cls) (e0 : T0.heap = h0) (N0 : Fr n0 locs) (Z0 : n0 ≤ h0.size) (hi : xi = Int32.ofNat iN) (hn : xn = Int32.ofNat nN) (bi : iN = nN) (bn : nN ≤ 31) :
    ∃ (T' : State) (l' : List Loc), Stand p l e R s m args below meth c T' l' cells slots ∧ Fr n0 l' ∧ T'.heap = h0 ∧ ∀ t, Steps p.tables e below (T'.setTop (mkF m 20 #[rv oa, iv xf, iv xi, iv xn] [])) t → Steps p.tables e below (T0.setTop (mkF m 5 #[rv oa, iv xf, iv xi, iv xn] [])) t := by
  have pre0 : ∀ t, own_K p e below m T0 5 #[rv oa, iv xf, iv xi, iv xn] [] t → Steps p.tables e below (T0.setTop (mkF m 5 #[rv oa, iv xf, iv xi, iv xn] [])) t := fun t k => k
  have pre1 : ∀ t, own_K p e below m T0 20 #[rv oa, iv xf, iv xi, iv xn] [] t → Steps p.tables e below (T0.setTop (mkF m 5 #[rv oa, iv xf, iv xi, iv xn] [])) t := by
    intro t k
    refine pre0 t ?_
    show own_K p e below m T0 5 #[rv oa, iv xf, iv xi, iv xn] [] _
    refine XS.iloadN X0.here hx rfl (hb hby d5_5) rfl ?_
    show own_K p e below m T0 6 #[rv oa, iv xf, iv xi, iv xn] [(.int xi)] _
    refine XS.iloadN X0.here hx rfl (hb hby d5_6) rfl ?_
    show own_K p e below m T0 7 #[rv oa, iv xf, iv xi, iv xn] [(.int xn), (.int xi)] _
    refine XS.icmpYes X0.here hx rfl (pc0 := 7) (pc' := 20) rfl (hb hby d5_7) rfl (flt (own_inlt hi hn bi (by omega))).2.1 (by decide) (by decide) ?_
    exact k
  exact ⟨_, _, X0, N0, e0, fun t k => pre1 t k⟩


set_option maxHeartbeats 4000000 in
theorem loop_fi {p : Program} {l : Launch} {e : Env} {R : Room} {s : State} {m : MethodId} {args : Array Value} {below : List Frame} {meth : Method} {c : Code} {cells slots : Nat} {Z : State} {a0 : Array Value} {n0 : Nat} {oa : Addr} {xf : Int32} {xn : Int32} {rk : ClassId} {nN : Nat}
    (hx : p.tables.exec = Jvm.exec) (hZ : Z.Warmed39 s.vm) (hw : ∀ d ∈ tables_1, d.before a0 Z = true) (hby : c.code = jdk_65_method_103_code) (hml : c.maxLocals = 4) (hown : s.vm.findClass "java/util/Arrays" = some m.cls)
    (g_ : n0 ≤ oa) (hn : xn = Int32.ofNat nN) (bn : nN ≤ 31) :
    ∀ (k iN : Nat) (xi : Int32) (T0 : State) (locs : List Loc) (h0 : Heap) (vs : List Value), iN + k = nN → xi = Int32.ofNat iN → vs.length = nN → Stand p l e R s m args below meth c T0 locs cells slots → T0.heap = h0 → Fr n0 locs → n0 ≤ h0.size →
      Arv Z h0 oa rk .int xn vs (.int (0 : Int32)) →
      ∃ (xi' : Int32) (vs' : List Value) (T' : State) (h' : Heap) (l' : List Loc), Stand p l e R s m args below meth c T' l' cells slots ∧ Fr n0 l' ∧ T'.heap = h' ∧ Keep h0 h' [oa] ∧ Arv Z h' oa rk .int xn vs' (.int (0 : Int32)) ∧
        ∀ t, Steps p.tables e below (T'.setTop (mkF m 20 #[.val (.ref oa), .val (.int xf), .val (.int xi'), .val (.int xn)] [])) t → Steps p.tables e below (T0.setTop (mkF m 5 #[.val (.ref oa), .val (.int xf), .val (.int xi), .val (.int xn)] [])) t := by
  intro k
  induction k with
  | zero =>
    intro iN xi T0 locs h0 vs hk hi hl X0 e0 N0 Z0 V
    obtain ⟨T1, l1, X1, N1, e1, st1⟩ := tn_fix (oa := oa) (xf := xf) X0 hx hZ hw hby hml hown e0 N0 Z0 hi hn (by omega) bn
    exact ⟨xi, vs, T1, h0, l1, X1, N1, e1, Keep.refl _ _, V, st1⟩
  | succ k ih =>
    intro iN xi T0 locs h0 vs hk hi hl X0 e0 N0 Z0 V
    obtain ⟨T1, h1, l1, X1, N1, e1, K1, V1, st1⟩ := tn_fi (xf := xf) X0 hx hZ hw hby hml hown e0 N0 Z0 V g_ hi hn bn (by omega) hl
    obtain ⟨xi', vs', T2, h2, l2, X2, N2, e2, K2, V2, st2⟩ := ih (iN + 1) (xi + 1) T1 l1 h1 _ (by omega) (own_inc hi) (by rw [List.length_set]; exact hl) X1 e1 N1 (Nat.le_trans Z0 K1.1) V1
    exact ⟨xi', vs', T2, h2, l2, X2, N2, e2, K1.trans K2 (fun x hx => Or.inl hx), V2, fun t k => st1 t (st2 t k)⟩

theorem d5_0 : decode jdk_65_method_103_code 0 = .ok (.iconst 0, 1) := by decide +kernel
theorem d5_1 : decode jdk_65_method_103_code 1 = .ok (.istore_n 2, 1) := by decide +kernel
theorem d5_2 : decode jdk_65_method_103_code 2 = .ok (.aload_n 0, 1) := by decide +kernel
theorem d5_3 : decode jdk_65_method_103_code 3 = .ok (.arraylength, 1) := by decide +kernel
theorem d5_4 : decode jdk_65_method_103_code 4 = .ok (.istore_n 3, 1) := by decide +kernel
theorem d5_20 : decode jdk_65_method_103_code 20 = .ok (.return_, 1) := by decide +kernel
theorem ef_5 (m : MethodId) (x0 : Addr) (x1 : Int32) : entryFrame m #[(.ref x0), (.int x1)] 4 = mkF m 0 #[rv x0, iv x1, .unset, .unset] [] := by first | (simp [entryFrame, mkF, argsToLocals, Value.category]; done) | rfl
def Q5 (Z : State) (oa : Addr) (xf : Int32) (rk : ClassId) (xn : Int32) (vs : List Value) (nN : Nat) (h0 : Heap) (n0 : Nat) (rv_ : Option Value) (h_ : Heap) (L_ : List Loc) : Prop := ∃ (vq : List Value), rv_ = none ∧ Fr n0 L_ ∧ Keep h0 h_ [oa] ∧ Arv Z h_ oa rk .int xn vq (.int (0 : Int32))
set_option maxRecDepth 65536 in
set_option maxHeartbeats 40000000 in
theorem rm5 (l : Launch) (Z : State) (a0 : Array Value) (hw : ∀ d ∈ tables_1, d.before a0 Z = true) (ws : List Jvm.Cond) (oa : Addr) (xf : Int32) (rk : ClassId) (xn : Int32) (vs : List Value) (nN : Nat) (h0 : Heap) (n0 : Nat) (Z0 : n0 ≤ h0.size) (Va : Arv Z h0 oa rk .int xn vs (.int (0 : Int32))) (g_ : n0 ≤ oa) (hn : xn = Int32.ofNat nN) (bn : nN ≤ 31) (hl : vs.length = nN) :
    MetFree l (⟨"java/util/Arrays", "fill", "([II)V"⟩ : MethodName) (head1 (Jvm.Cond.code (⟨"java/util/Arrays", "fill", "([II)V"⟩ : MethodName) jdk_65_method_103_code 4 none :: ws) ({ frames := 0, cells := 0, slots := 0, locals := 0 } : Room)) (fun a U => a = #[(.ref oa), (.int xf)] ∧ Z.Warmed39 U.vm ∧ U.heap = h0) (fun _ _ _ _ _ => True) (fun _ U o U' => ∃ v L, o = .returned v ∧ Q5 Z oa xf rk xn vs nN h0 n0 v U'.heap L ∧ FrameEnd U o U' L ({ frames := 0, cells := 0, slots := 0, locals := 0 } : Room).cells ({ frames := 0, cells := 0, slots := 0, locals := 0 } : Room).slots) := by
  refine MetFree.of_bodySF (plainFor_of_name pn_0) hisR ?_
  intro p e s m args below meth c s₁ Bd hml0 hP hK
  obtain ⟨rfl, hZ, hh⟩ := hP
  have hx := Bd.exec
  have hby := Bd.bytes
  have hml : c.maxLocals = 4 := hml0
  have hown : s.vm.findClass "java/util/Arrays" = some m.cls := findClass_of_methodNamed Bd.named
  have hnm := (name_of_methodNamed Bd.named Bd.method).1
  have X0 : Stand p l e ({ frames := 0, cells := 0, slots := 0, locals := 0 } : Room) s m #[(.ref oa), (.int xf)] below meth c s₁ [] 0 0 := Stand.of_body Bd
  have e0 : s₁.heap = h0 := by rw [← hh, Bd.state]; rfl
  have N0 := Fr.nil n0
  obtain ⟨G, hG, pre0⟩ : ∃ G : State → Prop, (∀ t, G t → Steps p.tables e below (s₁.setTop (entryFrame m #[(.ref oa), (.int xf)] 4)) t) ∧ ∀ t, own_K p e below m s₁ 0 #[rv oa, iv xf, .unset, .unset] [] t → G t := ⟨fun t => Steps p.tables e below (s₁.setTop (entryFrame m #[(.ref oa), (.int xf)] 4)) t, fun _ k => k, fun t k => castTop (ef_5 m oa xf) k⟩
  have pre2 : ∀ t, own_K p e below m s₁ 5 #[rv oa, iv xf, iv (0 : Int32), iv xn] [] t → G t := by
    intro t k
    refine pre0 t ?_
    show own_K p e below m s₁ 0 #[rv oa, iv xf, .unset, .unset] [] _
    refine XS.iconst X0.here hx rfl (hb hby d5_0) ?_
    show own_K p e below m s₁ 1 #[rv oa, iv xf, .unset, .unset] [(.int (0 : Int32))] _
    refine XS.istoreN X0.here hx rfl (hb hby d5_1) rfl (l' := #[rv oa, iv xf, iv (0 : Int32), .unset]) rfl ?_
    show own_K p e below m s₁ 2 #[rv oa, iv xf, iv (0 : Int32), .unset] [] _
    refine XS.aloadN X0.here hx rfl (hb hby d5_2) rfl rfl ?_
    show own_K p e below m s₁ 3 #[rv oa, iv xf, iv (0 : Int32), .unset] [(.ref oa)] _
    refine own_len X0 hx hZ e0 Va (g := (mkF m 3 #[rv oa, iv xf, iv (0 : Int32), .unset] [(.ref oa)])) rfl rfl (hb hby d5_3) _ ?_
    show own_K p e below m s₁ 4 #[rv oa, iv xf, iv (0 : Int32), .unset] [(.int xn)] _
    refine XS.istoreN X0.here hx rfl (hb hby d5_4) rfl (l' := #[rv oa, iv xf, iv (0 : Int32), iv xn]) rfl ?_
    exact k
  obtain ⟨xi3, vs3, T3, h3, l3, X3, N3, e3, Kc3, V3, st3⟩ := loop_fi (xf := xf) hx hZ hw hby hml hown g_ hn bn nN 0 (0 : Int32) s₁ _ _ _ (by omega) rfl hl X0 e0 N0 Z0 Va
  have pre4 : ∀ t, own_K p e below m T3 20 #[rv oa, iv xf, iv xi3, iv xn] [] t → G t := fun t k => pre2 t (st3 t k)
  have K3 : Keep h0 h3 [oa] := (Keep.refl h0 [oa]).trans Kc3 (fun x hx => Or.inl hx)
  obtain ⟨fs, hr, hrun, hended, hW, hsame⟩ := X3.leave (v := none) (fun _ => rfl)
  refine ⟨_, _, hG _ (pre4 _ ?_), hrun, hended, _, _, rfl, ?_, ⟨_, rfl⟩, hW, hsame.mono (by decide) (by decide)⟩
  · show own_K p e below m T3 20 #[rv oa, iv xf, iv xi3, iv xn] [] _
    exact X3.returnOut hx Bd.returns (hb hby d5_20) hr
  · show Q5 Z oa xf rk xn vs nN h0 n0 _ T3.heap _
    rw [e3]
    exact ⟨vs3, rfl, N3, K3, V3⟩

theorem d7_0 : decode jdk_30_method_1_code 0 = .ok (.aload_n 0, 1) := by decide +kernel
theorem d7_1 : decode jdk_30_method_1_code 1 = .ok (.invokespecial 1, 3) := by decide +kernel
theorem d7_4 : decode jdk_30_method_1_code 4 = .ok (.return_, 1) := by decide +kernel
theorem pn_1 : plainName "java/lang/Record" = true := by first | (simp [plainName, overriddenIn]; done) | decide +kernel
theorem ef_7 (m : MethodId) (x0 : Addr) : entryFrame m #[(.ref x0)] 1 = mkF m 0 #[rv x0] [] := by first | (simp [entryFrame, mkF, argsToLocals, Value.category]; done) | rfl
def Q7 (Z : State) (oa : Addr) (h0 : Heap) (n0 : Nat) (rv_ : Option Value) (h_ : Heap) (L_ : List Loc) : Prop := rv_ = none ∧ Fr n0 L_ ∧ h_ = h0
set_option maxRecDepth 65536 in
set_option maxHeartbeats 40000000 in
theorem rm7 (l : Launch) (Z : State) (a0 : Array Value) (hw : ∀ d ∈ tables_1, d.before a0 Z = true) (ws : List Jvm.Cond) (oa : Addr) (h0 : Heap) (n0 : Nat) (Z0 : n0 ≤ h0.size) :
    MetFree l (⟨"java/lang/Record", "<init>", "()V"⟩ : MethodName) (head1 (Jvm.Cond.code (⟨"java/lang/Record", "<init>", "()V"⟩ : MethodName) jdk_30_method_1_code 1 none :: ws) ({ frames := 1, cells := 0, slots := 0, locals := 12 } : Room)) (fun a U => a = #[(.ref oa)] ∧ Z.Warmed39 U.vm ∧ U.heap = h0) (fun _ _ _ _ _ => True) (fun _ U o U' => ∃ v L, o = .returned v ∧ Q7 Z oa h0 n0 v U'.heap L ∧ FrameEnd U o U' L ({ frames := 1, cells := 0, slots := 0, locals := 12 } : Room).cells ({ frames := 1, cells := 0, slots := 0, locals := 12 } : Room).slots) := by
  refine MetFree.of_bodySF (plainFor_of_name pn_1) hisR ?_
  intro p e s m args below meth c s₁ Bd hml0 hP hK
  obtain ⟨rfl, hZ, hh⟩ := hP
  have hx := Bd.exec
  have hby := Bd.bytes
  have hml : c.maxLocals = 1 := hml0
  have hown : s.vm.findClass "java/lang/Record" = some m.cls := findClass_of_methodNamed Bd.named
  have hnm := (name_of_methodNamed Bd.named Bd.method).1
  have X0 : Stand p l e ({ frames := 1, cells := 0, slots := 0, locals := 12 } : Room) s m #[(.ref oa)] below meth c s₁ [] 0 0 := Stand.of_body Bd
  have e0 : s₁.heap = h0 := by rw [← hh, Bd.state]; rfl
  have N0 := Fr.nil n0
  obtain ⟨G, hG, pre0⟩ : ∃ G : State → Prop, (∀ t, G t → Steps p.tables e below (s₁.setTop (entryFrame m #[(.ref oa)] 1)) t) ∧ ∀ t, own_K p e below m s₁ 0 #[rv oa] [] t → G t := ⟨fun t => Steps p.tables e below (s₁.setTop (entryFrame m #[(.ref oa)] 1)) t, fun _ k => k, fun t k => castTop (ef_7 m oa) k⟩
  obtain ⟨T1, X1, e1, st1⟩ := initO X0 hx hZ hown (hw _ (List.mem_of_getElem? (i := 45) rfl)) (hw _ (List.mem_of_getElem? (i := 15) rfl)) (hw _ (List.mem_of_getElem? (i := 16) rfl)) e0 (g := (mkF m 1 #[rv oa] [(.ref oa)])) rfl (by rw [hml]; rfl) rfl (hb hby d7_1) (by decide) (W := 0) (by show 2 * 0 + _ ≤ _; exact Nat.le_of_eq rfl) (by decide)
  have pre2 : ∀ t, own_K p e below m T1 4 #[rv oa] [] t → G t := by
    intro t k
    refine pre0 t ?_
    show own_K p e below m s₁ 0 #[rv oa] [] _
    refine XS.aloadN X0.here hx rfl (hb hby d7_0) rfl rfl ?_
    show own_K p e below m s₁ 1 #[rv oa] [(.ref oa)] _
    refine st1 _ ?_
    exact k
  obtain ⟨fs, hr, hrun, hended, hW, hsame⟩ := X1.leave (v := none) (fun _ => rfl)
  refine ⟨_, _, hG _ (pre2 _ ?_), hrun, hended, _, _, rfl, ?_, ⟨_, rfl⟩, hW, hsame.mono (by decide) (by decide)⟩
  · show own_K p e below m T1 4 #[rv oa] [] _
    exact X1.returnOut hx Bd.returns (hb hby d7_4) hr
  · show Q7 Z oa h0 n0 _ T1.heap _
    rw [e1]
    exact ⟨rfl, N0, rfl⟩

theorem d2_0 : decode prog_70_method_2_code 0 = .ok (.aload_n 0, 1) := by decide +kernel
theorem d2_1 : decode prog_70_method_2_code 1 = .ok (.invokespecial 24, 3) := by decide +kernel
theorem d2_4 : decode prog_70_method_2_code 4 = .ok (.aload_n 0, 1) := by decide +kernel
theorem d2_5 : decode prog_70_method_2_code 5 = .ok (.aload_n 1, 1) := by decide +kernel
theorem d2_6 : decode prog_70_method_2_code 6 = .ok (.putfield 7, 3) := by decide +kernel
theorem d2_9 : decode prog_70_method_2_code 9 = .ok (.aload_n 0, 1) := by decide +kernel
theorem d2_10 : decode prog_70_method_2_code 10 = .ok (.aload_n 2, 1) := by decide +kernel
theorem d2_11 : decode prog_70_method_2_code 11 = .ok (.putfield 17, 3) := by decide +kernel
theorem d2_14 : decode prog_70_method_2_code 14 = .ok (.aload_n 0, 1) := by decide +kernel
theorem d2_15 : decode prog_70_method_2_code 15 = .ok (.iload_n 3, 1) := by decide +kernel
theorem d2_16 : decode prog_70_method_2_code 16 = .ok (.putfield 29, 3) := by decide +kernel
theorem d2_19 : decode prog_70_method_2_code 19 = .ok (.aload_n 0, 1) := by decide +kernel
theorem d2_20 : decode prog_70_method_2_code 20 = .ok (.iload 4, 2) := by decide +kernel
theorem d2_22 : decode prog_70_method_2_code 22 = .ok (.putfield 33, 3) := by decide +kernel
theorem d2_25 : decode prog_70_method_2_code 25 = .ok (.aload_n 0, 1) := by decide +kernel
theorem d2_26 : decode prog_70_method_2_code 26 = .ok (.iload 5, 2) := by decide +kernel
theorem d2_28 : decode prog_70_method_2_code 28 = .ok (.putfield 36, 3) := by decide +kernel
theorem d2_31 : decode prog_70_method_2_code 31 = .ok (.return_, 1) := by decide +kernel
theorem pn_2 : plainName "com/example/tiercast/tiercast/protocol/Knots" = true := by first | (simp [plainName, overriddenIn]; done) | decide +kernel
theorem ef_2 (m : MethodId) (x0 : Addr) (x1 : Addr) (x2 : Addr) (x3 : Int32) (x4 : Int32) (x5 : Int32) : entryFrame m #[(.ref x0), (.ref x1), (.ref x2), (.int x3), (.int x4), (.int x5)] 6 = mkF m 0 #[rv x0, rv x1, rv x2, iv x3, iv x4, iv x5] [] := by first | (simp [entryFrame, mkF, argsToLocals, Value.category]; done) | rfl
def Q2 (Z : State) (oa : Addr) (op : Addr) (ot : Addr) (x1 : Int32) (x2 : Int32) (x3 : Int32) (u0 : Value) (u1 : Value) (u2 : Value) (u3 : Value) (u4 : Value) (h0 : Heap) (n0 : Nat) (rv_ : Option Value) (h_ : Heap) (L_ : List Loc) : Prop := rv_ = none ∧ Fr n0 L_ ∧ Keep h0 h_ [oa] ∧ Fld Z h_ oa "com/example/tiercast/tiercast/protocol/Knots" "places" "[F" (.ref op) ∧ Fld Z h_ oa "com/example/tiercast/tiercast/protocol/Knots" "ties" "[I" (.ref ot)
set_option maxRecDepth 65536 in
set_option maxHeartbeats 40000000 in
theorem rm2 (l : Launch) (Z : State) (a0 : Array Value) (hw : ∀ d ∈ tables_1, d.before a0 Z = true) (ws : List Jvm.Cond) (oa : Addr) (op : Addr) (ot : Addr) (x1 : Int32) (x2 : Int32) (x3 : Int32) (u0 : Value) (u1 : Value) (u2 : Value) (u3 : Value) (u4 : Value) (h0 : Heap) (n0 : Nat) (Z0 : n0 ≤ h0.size) (E_ : Exa Z h0 oa "com/example/tiercast/tiercast/protocol/Knots") (F0 : Fld Z h0 oa "com/example/tiercast/tiercast/protocol/Knots" "places" "[F" u0) (F1 : Fld Z h0 oa "com/example/tiercast/tiercast/protocol/Knots" "ties" "[I" u1) (F2 : Fld Z h0 oa "com/example/tiercast/tiercast/protocol/Knots" "lowest" "I" u2) (F3 : Fld Z h0 oa "com/example/tiercast/tiercast/protocol/Knots" "highest" "I" u3) (F4 : Fld Z h0 oa "com/example/tiercast/tiercast/protocol/Knots" "weight" "I" u4) (g_ : n0 ≤ oa) :
    MetFree l (⟨"com/example/tiercast/tiercast/protocol/Knots", "<init>", "([F[IIII)V"⟩ : MethodName) (head1 (Jvm.Cond.code (⟨"com/example/tiercast/tiercast/protocol/Knots", "<init>", "([F[IIII)V"⟩ : MethodName) prog_70_method_2_code 6 none :: ws) ({ frames := 1, cells := 0, slots := 0, locals := 12 } : Room)) (fun a U => a = #[(.ref oa), (.ref op), (.ref ot), (.int x1), (.int x2), (.int x3)] ∧ Z.Warmed39 U.vm ∧ U.heap = h0) (fun _ _ _ _ _ => True) (fun _ U o U' => ∃ v L, o = .returned v ∧ Q2 Z oa op ot x1 x2 x3 u0 u1 u2 u3 u4 h0 n0 v U'.heap L ∧ FrameEnd U o U' L ({ frames := 1, cells := 0, slots := 0, locals := 12 } : Room).cells ({ frames := 1, cells := 0, slots := 0, locals := 12 } : Room).slots) := by
  refine MetFree.of_bodySF (plainFor_of_name pn_2) hisR ?_
  intro p e s m args below meth c s₁ Bd hml0 hP hK
  obtain ⟨rfl, hZ, hh⟩ := hP
  have hx := Bd.exec
  have hby := Bd.bytes
  have hml : c.maxLocals = 6 := hml0
  have hown : s.vm.findClass "com/example/tiercast/tiercast/protocol/Knots" = some m.cls := findClass_of_methodNamed Bd.named
  have hnm := (name_of_methodNamed Bd.named Bd.method).1
  have X0 : Stand p l e ({ frames := 1, cells := 0, slots := 0, locals := 12 } : Room) s m #[(.ref oa), (.ref op), (.ref ot), (.int x1), (.int x2), (.int x3)] below meth c s₁ [] 0 0 := Stand.of_body Bd
  have e0 : s₁.heap = h0 := by rw [← hh, Bd.state]; rfl
  have N0 := Fr.nil n0
  obtain ⟨G, hG, pre0⟩ : ∃ G : State → Prop, (∀ t, G t → Steps p.tables e below (s₁.setTop (entryFrame m #[(.ref oa), (.ref op), (.ref ot), (.int x1), (.int x2), (.int x3)] 6)) t) ∧ ∀ t, own_K p e below m s₁ 0 #[rv oa, rv op, rv ot, iv x1, iv x2, iv x3] [] t → G t := ⟨fun t => Steps p.tables e below (s₁.setTop (entryFrame m #[(.ref oa), (.ref op), (.ref ot), (.int x1), (.int x2), (.int x3)] 6)) t, fun _ k => k, fun t k => castTop (ef_2 m oa op ot x1 x2 x3) k⟩
  obtain ⟨T1, X1, e1, st1⟩ := initO X0 hx hZ hown (hw _ (List.mem_of_getElem? (i := 14) rfl)) (hw _ (List.mem_of_getElem? (i := 15) rfl)) (hw _ (List.mem_of_getElem? (i := 16) rfl)) e0 (g := (mkF m 1 #[rv oa, rv op, rv ot, iv x1, iv x2, iv x3] [(.ref oa)])) rfl (by rw [hml]; rfl) rfl (hb hby d2_1) (by decide) (W := 0) (by show 2 * 0 + _ ≤ _; exact Nat.le_of_eq rfl) (by decide)
  obtain ⟨T2, h2, X2, e2, W2, st2⟩ := putF X1 hx hZ hown (host := "") (Or.inl (hw _ (List.mem_of_getElem? (i := 17) rfl))) Via.refl e1 F0 E_ (Or.inr ⟨(hw _ (List.mem_of_getElem? (i := 18) rfl)), rfl, hnm⟩) (hw _ (List.mem_of_getElem? (i := 4) rfl)) (ty := (.array .float)) (by decide) rfl rfl (g := (mkF m 6 #[rv oa, rv op, rv ot, iv x1, iv x2, iv x3] [(.ref op), (.ref oa)])) rfl rfl (hb hby d2_6)
  have f2w := F0.same W2
  have K2 : Keep h0 h2 [oa] := (Keep.refl h0 [oa]).wr W2 (Or.inl (List.mem_of_getElem? (i := 0) rfl))
  have N2 := Fr.snoc X2 N0 g_
  have sz2 : n0 ≤ h2.size := Nat.le_trans Z0 (Keep.of_wr W2).1
  have f4 : Fld Z h2 oa "com/example/tiercast/tiercast/protocol/Knots" "ties" "[I" u1 := (F1.other W2 (Or.inr (slot_ne (Or.inr (hw _ (List.mem_of_getElem? (i := 20) rfl))) (Or.inr (hw _ (List.mem_of_getElem? (i := 18) rfl))) (by decide) (t := (.array .int)) (t' := (.array .float)) (by decide) (by decide))))
  have f5 : Exa Z h2 oa "com/example/tiercast/tiercast/protocol/Knots" := (E_.wr W2)
  obtain ⟨T3, h3, X3, e3, W3, st3⟩ := putF X2 hx hZ hown (host := "") (Or.inl (hw _ (List.mem_of_getElem? (i := 19) rfl))) Via.refl e2 f4 f5 (Or.inr ⟨(hw _ (List.mem_of_getElem? (i := 20) rfl)), rfl, hnm⟩) (hw _ (List.mem_of_getElem? (i := 4) rfl)) (ty := (.array .int)) (by decide) rfl rfl (g := (mkF m 11 #[rv oa, rv op, rv ot, iv x1, iv x2, iv x3] [(.ref ot), (.ref oa)])) rfl rfl (hb hby d2_11)
  have f3w := f4.same W3
  have K3 : Keep h0 h3 [oa] := K2.wr W3 (Or.inl (List.mem_of_getElem? (i := 0) rfl))
  have N3 := Fr.snoc X3 N2 g_
  have sz3 : n0 ≤ h3.size := Nat.le_trans sz2 (Keep.of_wr W3).1
  have f7 : Fld Z h3 oa "com/example/tiercast/tiercast/protocol/Knots" "lowest" "I" u2 := ((F2.other W2 (Or.inr (slot_ne (Or.inl (hw _ (List.mem_of_getElem? (i := 22) rfl))) (Or.inr (hw _ (List.mem_of_getElem? (i := 18) rfl))) (by decide) (t := .int) (t' := (.array .float)) (by decide) (by decide)))).other W3 (Or.inr (slot_ne (Or.inl (hw _ (List.mem_of_getElem? (i := 22) rfl))) (Or.inr (hw _ (List.mem_of_getElem? (i := 20) rfl))) (by decide) (t := .int) (t' := (.array .int)) (by decide) (by decide))))
  have f8 : Exa Z h3 oa "com/example/tiercast/tiercast/protocol/Knots" := (f5.wr W3)
  obtain ⟨T6, h6, X6, e6, W6, st6⟩ := putF X3 hx hZ hown (host := "") (Or.inl (hw _ (List.mem_of_getElem? (i := 21) rfl))) Via.refl e3 f7 f8 (Or.inl (hw _ (List.mem_of_getElem? (i := 22) rfl))) (hw _ (List.mem_of_getElem? (i := 4) rfl)) (ty := .int) (by decide) rfl rfl (g := (mkF m 16 #[rv oa, rv op, rv ot, iv x1, iv x2, iv x3] [(.int x1), (.ref oa)])) rfl rfl (hb hby d2_16)
  have f6w := f7.same W6
  have K6 : Keep h0 h6 [oa] := K3.wr W6 (Or.inl (List.mem_of_getElem? (i := 0) rfl))
  have N6 := Fr.snoc X6 N3 g_
  have sz6 : n0 ≤ h6.size := Nat.le_trans sz3 (Keep.of_wr W6).1
  have f10 : Fld Z h6 oa "com/example/tiercast/tiercast/protocol/Knots" "highest" "I" u3 := (((F3.other W2 (Or.inr (slot_ne (Or.inl (hw _ (List.mem_of_getElem? (i := 24) rfl))) (Or.inr (hw _ (List.mem_of_getElem? (i := 18) rfl))) (by decide) (t := .int) (t' := (.array .float)) (by decide) (by decide)))).other W3 (Or.inr (slot_ne (Or.inl (hw _ (List.mem_of_getElem? (i := 24) rfl))) (Or.inr (hw _ (List.mem_of_getElem? (i := 20) rfl))) (by decide) (t := .int) (t' := (.array .int)) (by decide) (by decide)))).other W6 (Or.inr (slot_ne (Or.inl (hw _ (List.mem_of_getElem? (i := 24) rfl))) (Or.inl (hw _ (List.mem_of_getElem? (i := 22) rfl))) (by decide) (t := .int) (t' := .int) (by decide) (by decide))))
  have f11 : Exa Z h6 oa "com/example/tiercast/tiercast/protocol/Knots" := (f8.wr W6)
  obtain ⟨T9, h9, X9, e9, W9, st9⟩ := putF X6 hx hZ hown (host := "") (Or.inl (hw _ (List.mem_of_getElem? (i := 23) rfl))) Via.refl e6 f10 f11 (Or.inl (hw _ (List.mem_of_getElem? (i := 24) rfl))) (hw _ (List.mem_of_getElem? (i := 4) rfl)) (ty := .int) (by decide) rfl rfl (g := (mkF m 22 #[rv oa, rv op, rv ot, iv x1, iv x2, iv x3] [(.int x2), (.ref oa)])) rfl rfl (hb hby d2_22)
  have f9w := f10.same W9
  have K9 : Keep h0 h9 [oa] := K6.wr W9 (Or.inl (List.mem_of_getElem? (i := 0) rfl))
  have N9 := Fr.snoc X9 N6 g_
  have sz9 : n0 ≤ h9.size := Nat.le_trans sz6 (Keep.of_wr W9).1
  have f13 : Fld Z h9 oa "com/example/tiercast/tiercast/protocol/Knots" "weight" "I" u4 := ((((F4.other W2 (Or.inr (slot_ne (Or.inl (hw _ (List.mem_of_getElem? (i := 26) rfl))) (Or.inr (hw _ (List.mem_of_getElem? (i := 18) rfl))) (by decide) (t := .int) (t' := (.array .float)) (by decide) (by decide)))).other W3 (Or.inr (slot_ne (Or.inl (hw _ (List.mem_of_getElem? (i := 26) rfl))) (Or.inr (hw _ (List.mem_of_getElem? (i := 20) rfl))) (by decide) (t := .int) (t' := (.array .int)) (by decide) (by decide)))).other W6 (Or.inr (slot_ne (Or.inl (hw _ (List.mem_of_getElem? (i := 26) rfl))) (Or.inl (hw _ (List.mem_of_getElem? (i := 22) rfl))) (by decide) (t := .int) (t' := .int) (by decide) (by decide)))).other W9 (Or.inr (slot_ne (Or.inl (hw _ (List.mem_of_getElem? (i := 26) rfl))) (Or.inl (hw _ (List.mem_of_getElem? (i := 24) rfl))) (by decide) (t := .int) (t' := .int) (by decide) (by decide))))
  have f14 : Exa Z h9 oa "com/example/tiercast/tiercast/protocol/Knots" := (f11.wr W9)
  obtain ⟨T12, h12, X12, e12, W12, st12⟩ := putF X9 hx hZ hown (host := "") (Or.inl (hw _ (List.mem_of_getElem? (i := 25) rfl))) Via.refl e9 f13 f14 (Or.inl (hw _ (List.mem_of_getElem? (i := 26) rfl))) (hw _ (List.mem_of_getElem? (i := 4) rfl)) (ty := .int) (by decide) rfl rfl (g := (mkF m 28 #[rv oa, rv op, rv ot, iv x1, iv x2, iv x3] [(.int x3), (.ref oa)])) rfl rfl (hb hby d2_28)
  have f12w := f13.same W12
  have K12 : Keep h0 h12 [oa] := K9.wr W12 (Or.inl (List.mem_of_getElem? (i := 0) rfl))
  have N12 := Fr.snoc X12 N9 g_
  have sz12 : n0 ≤ h12.size := Nat.le_trans sz9 (Keep.of_wr W12).1
  have pre15 : ∀ t, own_K p e below m T12 31 #[rv oa, rv op, rv ot, iv x1, iv x2, iv x3] [] t → G t := by
    intro t k
    refine pre0 t ?_
    show own_K p e below m s₁ 0 #[rv oa, rv op, rv ot, iv x1, iv x2, iv x3] [] _
    refine XS.aloadN X0.here hx rfl (hb hby d2_0) rfl rfl ?_
    show own_K p e below m s₁ 1 #[rv oa, rv op, rv ot, iv x1, iv x2, iv x3] [(.ref oa)] _
    refine st1 _ ?_
    show own_K p e below m T1 4 #[rv oa, rv op, rv ot, iv x1, iv x2, iv x3] [] _
    refine XS.aloadN X1.here hx rfl (hb hby d2_4) rfl rfl ?_
    show own_K p e below m T1 5 #[rv oa, rv op, rv ot, iv x1, iv x2, iv x3] [(.ref oa)] _
    refine XS.aloadN X1.here hx rfl (hb hby d2_5) rfl rfl ?_
    show own_K p e below m T1 6 #[rv oa, rv op, rv ot, iv x1, iv x2, iv x3] [(.ref op), (.ref oa)] _
    refine st2 _ ?_
    show own_K p e below m T2 9 #[rv oa, rv op, rv ot, iv x1, iv x2, iv x3] [] _
    refine XS.aloadN X2.here hx rfl (hb hby d2_9) rfl rfl ?_
    show own_K p e below m T2 10 #[rv oa, rv op, rv ot, iv x1, iv x2, iv x3] [(.ref oa)] _
    refine XS.aloadN X2.here hx rfl (hb hby d2_10) rfl rfl ?_
    show own_K p e below m T2 11 #[rv oa, rv op, rv ot, iv x1, iv x2, iv x3] [(.ref ot), (.ref oa)] _
    refine st3 _ ?_
    show own_K p e below m T3 14 #[rv oa, rv op, rv ot, iv x1, iv x2, iv x3] [] _
    refine XS.aloadN X3.here hx rfl (hb hby d2_14) rfl rfl ?_
    show own_K p e below m T3 15 #[rv oa, rv op, rv ot, iv x1, iv x2, iv x3] [(.ref oa)] _
    refine XS.iloadN X3.here hx rfl (hb hby d2_15) rfl ?_
    show own_K p e below m T3 16 #[rv oa, rv op, rv ot, iv x1, iv x2, iv x3] [(.int x1), (.ref oa)] _
    refine st6 _ ?_
    show own_K p e below m T6 19 #[rv oa, rv op, rv ot, iv x1, iv x2, iv x3] [] _
    refine XS.aloadN X6.here hx rfl (hb hby d2_19) rfl rfl ?_
    show own_K p e below m T6 20 #[rv oa, rv op, rv ot, iv x1, iv x2, iv x3] [(.ref oa)] _
    refine XS.iload X6.here hx rfl (hb hby d2_20) rfl ?_
    show own_K p e below m T6 22 #[rv oa, rv op, rv ot, iv x1, iv x2, iv x3] [(.int x2), (.ref oa)] _
    refine st9 _ ?_
    show own_K p e below m T9 25 #[rv oa, rv op, rv ot, iv x1, iv x2, iv x3] [] _
    refine XS.aloadN X9.here hx rfl (hb hby d2_25) rfl rfl ?_
    show own_K p e below m T9 26 #[rv oa, rv op, rv ot, iv x1, iv x2, iv x3] [(.ref oa)] _
    refine XS.iload X9.here hx rfl (hb hby d2_26) rfl ?_
    show own_K p e below m T9 28 #[rv oa, rv op, rv ot, iv x1, iv x2, iv x3] [(.int x3), (.ref oa)] _
    refine st12 _ ?_
    exact k
  have f16 : Fld Z h12 oa "com/example/tiercast/tiercast/protocol/Knots" "places" "[F" (.ref op) := ((((f2w.other W3 (Or.inr (slot_ne (Or.inr (hw _ (List.mem_of_getElem? (i := 18) rfl))) (Or.inr (hw _ (List.mem_of_getElem? (i := 20) rfl))) (by decide) (t := (.array .float)) (t' := (.array .int)) (by decide) (by decide)))).other W6 (Or.inr (slot_ne (Or.inr (hw _ (List.mem_of_getElem? (i := 18) rfl))) (Or.inl (hw _ (List.mem_of_getElem? (i := 22) rfl))) (by decide) (t := (.array .float)) (t' := .int) (by decide) (by decide)))).other W9 (Or.inr (slot_ne (Or.inr (hw _ (List.mem_of_getElem? (i := 18) rfl))) (Or.inl (hw _ (List.mem_of_getElem? (i := 24) rfl))) (by decide) (t := (.array .float)) (t' := .int) (by decide) (by decide)))).other W12 (Or.inr (slot_ne (Or.inr (hw _ (List.mem_of_getElem? (i := 18) rfl))) (Or.inl (hw _ (List.mem_of_getElem? (i := 26) rfl))) (by decide) (t := (.array .float)) (t' := .int) (by decide) (by decide))))
  have f17 : Fld Z h12 oa "com/example/tiercast/tiercast/protocol/Knots" "ties" "[I" (.ref ot) := (((f3w.other W6 (Or.inr (slot_ne (Or.inr (hw _ (List.mem_of_getElem? (i := 20) rfl))) (Or.inl (hw _ (List.mem_of_getElem? (i := 22) rfl))) (by decide) (t := (.array .int)) (t' := .int) (by decide) (by decide)))).other W9 (Or.inr (slot_ne (Or.inr (hw _ (List.mem_of_getElem? (i := 20) rfl))) (Or.inl (hw _ (List.mem_of_getElem? (i := 24) rfl))) (by decide) (t := (.array .int)) (t' := .int) (by decide) (by decide)))).other W12 (Or.inr (slot_ne (Or.inr (hw _ (List.mem_of_getElem? (i := 20) rfl))) (Or.inl (hw _ (List.mem_of_getElem? (i := 26) rfl))) (by decide) (t := (.array .int)) (t' := .int) (by decide) (by decide))))
  obtain ⟨fs, hr, hrun, hended, hW, hsame⟩ := X12.leave (v := none) (fun _ => rfl)
  refine ⟨_, _, hG _ (pre15 _ ?_), hrun, hended, _, _, rfl, ?_, ⟨_, rfl⟩, hW, hsame.mono (by decide) (by decide)⟩
  · show own_K p e below m T12 31 #[rv oa, rv op, rv ot, iv x1, iv x2, iv x3] [] _
    exact X12.returnOut hx Bd.returns (hb hby d2_31) hr
  · show Q2 Z oa op ot x1 x2 x3 u0 u1 u2 u3 u4 h0 n0 _ T12.heap _
    rw [e12]
    exact ⟨rfl, N12, K12, f16, f17⟩

theorem d1_0 : decode prog_70_method_1_code 0 = .ok (.aload_n 0, 1) := by decide +kernel
theorem d1_1 : decode prog_70_method_1_code 1 = .ok (.iload_n 1, 1) := by decide +kernel
theorem d1_2 : decode prog_70_method_1_code 2 = .ok (.newarray .float, 2) := by decide +kernel
theorem d1_4 : decode prog_70_method_1_code 4 = .ok (.iload_n 1, 1) := by decide +kernel
theorem d1_5 : decode prog_70_method_1_code 5 = .ok (.newarray .int, 2) := by decide +kernel
theorem d1_7 : decode prog_70_method_1_code 7 = .ok (.iload_n 3, 1) := by decide +kernel
theorem d1_8 : decode prog_70_method_1_code 8 = .ok (.iload_n 3, 1) := by decide +kernel
theorem d1_9 : decode prog_70_method_1_code 9 = .ok (.iconst 1, 1) := by decide +kernel
theorem d1_10 : decode prog_70_method_1_code 10 = .ok (.invokespecial 1, 3) := by decide +kernel
theorem pd_0 : parseMethodDescriptor "([F[IIII)V" = some ⟨[(.array .float), (.array .int), .int, .int, .int], none⟩ := by decide +kernel
theorem d1_13 : decode prog_70_method_1_code 13 = .ok (.aload_n 0, 1) := by decide +kernel
theorem d1_14 : decode prog_70_method_1_code 14 = .ok (.getfield 7, 3) := by decide +kernel
theorem d1_17 : decode prog_70_method_1_code 17 = .ok (.fload_n 2, 1) := by decide +kernel
theorem d1_18 : decode prog_70_method_1_code 18 = .ok (.invokestatic 11, 3) := by decide +kernel
theorem pd_1 : parseMethodDescriptor "([FF)V" = some ⟨[(.array .float), .float], none⟩ := by decide +kernel
theorem d1_21 : decode prog_70_method_1_code 21 = .ok (.aload_n 0, 1) := by decide +kernel
theorem d1_22 : decode prog_70_method_1_code 22 = .ok (.getfield 17, 3) := by decide +kernel
theorem d1_25 : decode prog_70_method_1_code 25 = .ok (.iload_n 3, 1) := by decide +kernel
theorem d1_26 : decode prog_70_method_1_code 26 = .ok (.invokestatic 21, 3) := by decide +kernel
theorem pd_2 : parseMethodDescriptor "([II)V" = some ⟨[(.array .int), .int], none⟩ := by decide +kernel
theorem d1_29 : decode prog_70_method_1_code 29 = .ok (.return_, 1) := by decide +kernel
theorem ef_1 (m : MethodId) (x0 : Addr) (x1 : Int32) (x2 : UInt32) (x3 : Int32) : entryFrame m #[(.ref x0), (.int x1), (.float x2), (.int x3)] 4 = mkF m 0 #[rv x0, iv x1, .val (.float x2), iv x3] [] := by first | (simp [entryFrame, mkF, argsToLocals, Value.category]; done) | rfl
def Q1 (Z : State) (oa : Addr) (xn : Int32) (xf : UInt32) (xt : Int32) (u0 : Value) (u1 : Value) (u2 : Value) (u3 : Value) (u4 : Value) (nN : Nat) (h0 : Heap) (n0 : Nat) (rv_ : Option Value) (h_ : Heap) (L_ : List Loc) : Prop := ∃ (pl : Addr) (kp : ClassId) (vp : List Value), rv_ = none ∧ Fr n0 L_ ∧ Keep h0 h_ [oa] ∧ Fld Z h_ oa "com/example/tiercast/tiercast/protocol/Knots" "places" "[F" (.ref pl) ∧ Arv Z h_ pl kp .float xn vp (.float (0 : UInt32)) ∧ n0 ≤ pl
set_option maxRecDepth 65536 in
set_option maxHeartbeats 40000000 in
theorem rm1 (l : Launch) (Z : State) (a0 : Array Value) (hw : ∀ d ∈ tables_1, d.before a0 Z = true) (ws : List Jvm.Cond) (oa : Addr) (xn : Int32) (xf : UInt32) (xt : Int32) (u0 : Value) (u1 : Value) (u2 : Value) (u3 : Value) (u4 : Value) (nN : Nat) (h0 : Heap) (n0 : Nat) (Z0 : n0 ≤ h0.size) (E_ : Exa Z h0 oa "com/example/tiercast/tiercast/protocol/Knots") (F0 : Fld Z h0 oa "com/example/tiercast/tiercast/protocol/Knots" "places" "[F" u0) (F1 : Fld Z h0 oa "com/example/tiercast/tiercast/protocol/Knots" "ties" "[I" u1) (F2 : Fld Z h0 oa "com/example/tiercast/tiercast/protocol/Knots" "lowest" "I" u2) (F3 : Fld Z h0 oa "com/example/tiercast/tiercast/protocol/Knots" "highest" "I" u3) (F4 : Fld Z h0 oa "com/example/tiercast/tiercast/protocol/Knots" "weight" "I" u4) (g_ : n0 ≤ oa) (hn : xn = Int32.ofNat nN) (bn : nN ≤ 31) :
    MetFree l (⟨"com/example/tiercast/tiercast/protocol/Knots", "<init>", "(IFI)V"⟩ : MethodName) (head1 (Jvm.Cond.code (⟨"com/example/tiercast/tiercast/protocol/Knots", "<init>", "(IFI)V"⟩ : MethodName) prog_70_method_1_code 4 none :: ws) ({ frames := 2, cells := 2, slots := 62, locals := 29 } : Room)) (fun a U => a = #[(.ref oa), (.int xn), (.float xf), (.int xt)] ∧ Z.Warmed39 U.vm ∧ U.heap = h0) (fun _ _ _ _ _ => True) (fun _ U o U' => ∃ v L, o = .returned v ∧ Q1 Z oa xn xf xt u0 u1 u2 u3 u4 nN h0 n0 v U'.heap L ∧ FrameEnd U o U' L ({ frames := 2, cells := 2, slots := 62, locals := 29 } : Room).cells ({ frames := 2, cells := 2, slots := 62, locals := 29 } : Room).slots) := by
  refine MetFree.of_bodySF (plainFor_of_name pn_2) hisR ?_
  intro p e s m args below meth c s₁ Bd hml0 hP hK
  obtain ⟨rfl, hZ, hh⟩ := hP
  have hx := Bd.exec
  have hby := Bd.bytes
  have hml : c.maxLocals = 4 := hml0
  have hown : s.vm.findClass "com/example/tiercast/tiercast/protocol/Knots" = some m.cls := findClass_of_methodNamed Bd.named
  have hnm := (name_of_methodNamed Bd.named Bd.method).1
  have X0 : Stand p l e ({ frames := 2, cells := 2, slots := 62, locals := 29 } : Room) s m #[(.ref oa), (.int xn), (.float xf), (.int xt)] below meth c s₁ [] 0 0 := Stand.of_body Bd
  have e0 : s₁.heap = h0 := by rw [← hh, Bd.state]; rfl
  have N0 := Fr.nil n0
  obtain ⟨G, hG, pre0⟩ : ∃ G : State → Prop, (∀ t, G t → Steps p.tables e below (s₁.setTop (entryFrame m #[(.ref oa), (.int xn), (.float xf), (.int xt)] 4)) t) ∧ ∀ t, own_K p e below m s₁ 0 #[rv oa, iv xn, .val (.float xf), iv xt] [] t → G t := ⟨fun t => Steps p.tables e below (s₁.setTop (entryFrame m #[(.ref oa), (.int xn), (.float xf), (.int xt)] 4)) t, fun _ k => k, fun t k => castTop (ef_1 m oa xn xf xt) k⟩
  obtain ⟨T1, h1, k1, X1, e1, E1, A1, st1⟩ := newP X0 hx hZ (hw _ (List.mem_of_getElem? (i := 9) rfl)) e0 (g := (mkF m 2 #[rv oa, iv xn, .val (.float xf), iv xt] [(.int xn), (.ref oa)])) rfl (hb hby d1_2) rfl (own_nn hn (by omega)) (cap := 31) (by rw [own_nat hn (by omega)]; omega) (by decide) (by decide) (by decide)
  obtain ⟨b1, g1⟩ : ∃ z, z = h0.size := ⟨_, rfl⟩
  rw [← g1] at A1 st1
  have ne1_oa : oa ≠ b1 := Nat.ne_of_lt (Nat.lt_of_lt_of_le E_.lt (Nat.le_of_eq g1.symm))
  have ge_b1 : n0 ≤ b1 := Nat.le_trans Z0 (Nat.le_of_eq g1.symm)
  have sz_b1 : h0.size ≤ b1 := Nat.le_trans (Keep.refl h0 [oa]).1 (Nat.le_of_eq g1.symm)
  have K1 : Keep h0 h1 [oa] := (Keep.refl h0 [oa]).ext E1
  have sz1 : n0 ≤ h1.size := Nat.le_trans Z0 E1.1
  have V1 : Arv Z h1 b1 k1 .float xn (List.replicate xn.toNatClampNeg (.float (0 : UInt32))) (.float (0 : UInt32)) := (Arv.new A1 (own_nn hn (by omega))).pad (pad_rep [] (.float (0 : UInt32)) _)
  obtain ⟨T2, h2, k2, X2, e2, E2, A2, st2⟩ := newP X1 hx hZ (hw _ (List.mem_of_getElem? (i := 10) rfl)) e1 (g := (mkF m 5 #[rv oa, iv xn, .val (.float xf), iv xt] [(.int xn), (.ref b1), (.ref oa)])) rfl (hb hby d1_5) rfl (own_nn hn (by omega)) (cap := 31) (by rw [own_nat hn (by omega)]; omega) (by decide) (by decide) (by decide)
  obtain ⟨b2, g2⟩ : ∃ z, z = h1.size := ⟨_, rfl⟩
  rw [← g2] at A2 st2
  have f3 : Exa Z h1 oa "com/example/tiercast/tiercast/protocol/Knots" := (E_.ext E1)
  have ne2_oa : oa ≠ b2 := Nat.ne_of_lt (Nat.lt_of_lt_of_le f3.lt (Nat.le_of_eq g2.symm))
  have ne2_b1 : b1 ≠ b2 := Nat.ne_of_lt (Nat.lt_of_lt_of_le V1.lt (Nat.le_of_eq g2.symm))
  have ge_b2 : n0 ≤ b2 := Nat.le_trans sz1 (Nat.le_of_eq g2.symm)
  have sz_b2 : h0.size ≤ b2 := Nat.le_trans K1.1 (Nat.le_of_eq g2.symm)
  have K2 : Keep h0 h2 [oa] := K1.ext E2
  have sz2 : n0 ≤ h2.size := Nat.le_trans sz1 E2.1
  have V2 : Arv Z h2 b2 k2 .int xn (List.replicate xn.toNatClampNeg (.int (0 : Int32))) (.int (0 : Int32)) := (Arv.new A2 (own_nn hn (by omega))).pad (pad_rep [] (.int (0 : Int32)) _)
  have f5 : Exa Z h2 oa "com/example/tiercast/tiercast/protocol/Knots" := (f3.ext E2)
  have f6 : Fld Z h2 oa "com/example/tiercast/tiercast/protocol/Knots" "places" "[F" u0 := ((F0.ext E1).ext E2)
  have f7 : Fld Z h2 oa "com/example/tiercast/tiercast/protocol/Knots" "ties" "[I" u1 := ((F1.ext E1).ext E2)
  have f8 : Fld Z h2 oa "com/example/tiercast/tiercast/protocol/Knots" "lowest" "I" u2 := ((F2.ext E1).ext E2)
  have f9 : Fld Z h2 oa "com/example/tiercast/tiercast/protocol/Knots" "highest" "I" u3 := ((F3.ext E1).ext E2)
  have f10 : Fld Z h2 oa "com/example/tiercast/tiercast/protocol/Knots" "weight" "I" u4 := ((F4.ext E1).ext E2)
  obtain ⟨_, _, ⟨T4, L4, k4, n4⟩, -, X4, ⟨Lc4, hQ4, l4, y4, z4⟩, st4⟩ := X2.specialBack hx (y := (⟨"com/example/tiercast/tiercast/protocol/Knots", "<init>", "([F[IIII)V"⟩ : MethodName)) rfl hown (mvT hZ (hw _ (List.mem_of_getElem? (i := 11) rfl))) (mvT hZ (hw _ (List.mem_of_getElem? (i := 12) rfl))) (mvT hZ (hw _ (List.mem_of_getElem? (i := 13) rfl))) (by decide) (backOf (W := 0) (rm2 l Z a0 hw [] oa b1 b2 xt xt (1 : Int32) u0 u1 u2 u3 u4 h2 n0 sz2 f5 f6 f7 f8 f9 f10 g_) hZ (hw _ (List.mem_of_getElem? (i := 13) rfl)) (hw _ (List.mem_of_getElem? (i := 5) rfl)) (by decide) (by decide)) (g := (mkF m 10 #[rv oa, iv xn, .val (.float xf), iv xt] [(.int (1 : Int32)), (.int xt), (.int xt), (.ref b2), (.ref b1), (.ref oa)])) rfl (by rw [hml]; rfl) (Steps.refl _) (a := oa) (argsL := [(.ref b1), (.ref b2), (.int xt), (.int xt), (.int (1 : Int32))]) (rest := []) (lenOf pd_0 rfl) rfl (by show 2 * 0 + _ ≤ _; exact Nat.le_of_eq rfl) (hb hby d1_10) (fun _ _ => ⟨rfl, e2, (by decide : 2 + 0 ≤ _), (by decide : 62 + 0 ≤ _)⟩)
  dsimp only [Pt.U, Pt.locs, Pt.cells, Pt.slots] at X4 l4 y4 z4 st4 hQ4
  subst l4 y4 z4
  obtain ⟨rfl, Nq4, Kc4, Fp_4, Ft_4⟩ := hQ4
  have N4 := Fr.app N0 Nq4
  have K4 : Keep h0 T4.heap [oa] := K2.trans Kc4 (allS (Or.inl (List.mem_of_getElem? (i := 0) rfl)) all0)
  have sz4 : n0 ≤ T4.heap.size := Nat.le_trans sz2 Kc4.1
  obtain ⟨T11, X11, e11, st11⟩ := getF X4 hx hZ hown (host := "") (Or.inl (hw _ (List.mem_of_getElem? (i := 17) rfl))) Via.refl rfl Fp_4 (g := (mkF m 14 #[rv oa, iv xn, .val (.float xf), iv xt] [(.ref oa)])) rfl rfl (hb hby d1_14)
  have f13 : Arv Z T4.heap b1 k1 .float xn (List.replicate xn.toNatClampNeg (.float (0 : UInt32))) (.float (0 : UInt32)) := ((V1.ext E2).keep Kc4 (ninS (Ne.symm ne1_oa) nin0))
  obtain ⟨_, _, ⟨T12, L12, k12, n12⟩, -, X12, ⟨Lc12, hQ12, l12, y12, z12⟩, st12⟩ := Jvm.LawKit.callS X11 hx (y := (⟨"java/util/Arrays", "fill", "([FF)V"⟩ : MethodName)) hown (mvT hZ (hw _ (List.mem_of_getElem? (i := 27) rfl))) (mvT hZ (hw _ (List.mem_of_getElem? (i := 28) rfl))) (mvT hZ (hw _ (List.mem_of_getElem? (i := 29) rfl))) (mvT hZ (hw _ (List.mem_of_getElem? (i := 30) rfl))) (by decide) (backOf (W := 0) (rm4 l Z a0 hw [] b1 xf k1 xn (List.replicate xn.toNatClampNeg (.float (0 : UInt32))) nN T4.heap n0 sz4 f13 ge_b1 hn bn (by rw [List.length_replicate, hn]; exact own_nat rfl (by omega))) hZ (hw _ (List.mem_of_getElem? (i := 30) rfl)) (hw _ (List.mem_of_getElem? (i := 29) rfl)) (by decide) (by decide)) (g := (mkF m 18 #[rv oa, iv xn, .val (.float xf), iv xt] [(.float xf), (.ref b1)])) rfl (by rw [hml]; rfl) (argsL := [(.ref b1), (.float xf)]) (rest := []) (lenOf pd_1 rfl) rfl (by show 2 * 0 + _ ≤ _; exact Nat.le_of_eq rfl) (hb hby d1_18) (fun _ _ => ⟨rfl, e11, (by decide : 2 + 0 ≤ _), (by decide : 62 + 0 ≤ _)⟩)
  dsimp only [Pt.U, Pt.locs, Pt.cells, Pt.slots] at X12 l12 y12 z12 st12 hQ12
  subst l12 y12 z12
  obtain ⟨vq12, rfl, Nq12, Kc12, Vq_12⟩ := hQ12
  have N12 := Fr.app N4 Nq12
  have K12 : Keep h0 T12.heap [oa] := K4.trans Kc12 (allS (Or.inr sz_b1) all0)
  have sz12 : n0 ≤ T12.heap.size := Nat.le_trans sz4 Kc12.1
  have f15 : Fld Z T12.heap oa "com/example/tiercast/tiercast/protocol/Knots" "ties" "[I" (.ref b2) := (Ft_4.keep Kc12 (ninS ne1_oa nin0))
  obtain ⟨T14, X14, e14, st14⟩ := getF X12 hx hZ hown (host := "") (Or.inl (hw _ (List.mem_of_getElem? (i := 19) rfl))) Via.refl rfl f15 (g := (mkF m 22 #[rv oa, iv xn, .val (.float xf), iv xt] [(.ref oa)])) rfl rfl (hb hby d1_22)
  have f17 : Arv Z T12.heap b2 k2 .int xn (List.replicate xn.toNatClampNeg (.int (0 : Int32))) (.int (0 : Int32)) := ((V2.keep Kc4 (ninS (Ne.symm ne2_oa) nin0)).keep Kc12 (ninS (Ne.symm ne2_b1) nin0))
  obtain ⟨_, _, ⟨T16, L16, k16, n16⟩, -, X16, ⟨Lc16, hQ16, l16, y16, z16⟩, st16⟩ := Jvm.LawKit.callS X14 hx (y := (⟨"java/util/Arrays", "fill", "([II)V"⟩ : MethodName)) hown (mvT hZ (hw _ (List.mem_of_getElem? (i := 31) rfl))) (mvT hZ (hw _ (List.mem_of_getElem? (i := 32) rfl))) (mvT hZ (hw _ (List.mem_of_getElem? (i := 29) rfl))) (mvT hZ (hw _ (List.mem_of_getElem? (i := 33) rfl))) (by decide) (backOf (W := 0) (rm5 l Z a0 hw [] b2 xt k2 xn (List.replicate xn.toNatClampNeg (.int (0 : Int32))) nN T12.heap n0 sz12 f17 ge_b2 hn bn (by rw [List.length_replicate, hn]; exact own_nat rfl (by omega))) hZ (hw _ (List.mem_of_getElem? (i := 33) rfl)) (hw _ (List.mem_of_getElem? (i := 29) rfl)) (by decide) (by decide)) (g := (mkF m 26 #[rv oa, iv xn, .val (.float xf), iv xt] [(.int xt), (.ref b2)])) rfl (by rw [hml]; rfl) (argsL := [(.ref b2), (.int xt)]) (rest := []) (lenOf pd_2 rfl) rfl (by show 2 * 0 + _ ≤ _; exact Nat.le_of_eq rfl) (hb hby d1_26) (fun _ _ => ⟨rfl, e14, (by decide : 2 + 0 ≤ _), (by decide : 62 + 0 ≤ _)⟩)
  dsimp only [Pt.U, Pt.locs, Pt.cells, Pt.slots] at X16 l16 y16 z16 st16 hQ16
  subst l16 y16 z16
  obtain ⟨vq16, rfl, Nq16, Kc16, Vq_16⟩ := hQ16
  have N16 := Fr.app N12 Nq16
  have K16 : Keep h0 T16.heap [oa] := K12.trans Kc16 (allS (Or.inr sz_b2) all0)
  have sz16 : n0 ≤ T16.heap.size := Nat.le_trans sz12 Kc16.1
  have pre18 : ∀ t, own_K p e below m T16 29 #[rv oa, iv xn, .val (.float xf), iv xt] [] t → G t := by
    intro t k
    refine pre0 t ?_
    show own_K p e below m s₁ 0 #[rv oa, iv xn, .val (.float xf), iv xt] [] _
    refine XS.aloadN X0.here hx rfl (hb hby d1_0) rfl rfl ?_
    show own_K p e below m s₁ 1 #[rv oa, iv xn, .val (.float xf), iv xt] [(.ref oa)] _
    refine XS.iloadN X0.here hx rfl (hb hby d1_1) rfl ?_
    show own_K p e below m s₁ 2 #[rv oa, iv xn, .val (.float xf), iv xt] [(.int xn), (.ref oa)] _
    refine st1 _ ?_
    show own_K p e below m T1 4 #[rv oa, iv xn, .val (.float xf), iv xt] [(.ref b1), (.ref oa)] _
    refine XS.iloadN X1.here hx rfl (hb hby d1_4) rfl ?_
    show own_K p e below m T1 5 #[rv oa, iv xn, .val (.float xf), iv xt] [(.int xn), (.ref b1), (.ref oa)] _
    refine st2 _ ?_
    show own_K p e below m T2 7 #[rv oa, iv xn, .val (.float xf), iv xt] [(.ref b2), (.ref b1), (.ref oa)] _
    refine XS.iloadN X2.here hx rfl (hb hby d1_7) rfl ?_
    show own_K p e below m T2 8 #[rv oa, iv xn, .val (.float xf), iv xt] [(.int xt), (.ref b2), (.ref b1), (.ref oa)] _
    refine XS.iloadN X2.here hx rfl (hb hby d1_8) rfl ?_
    show own_K p e below m T2 9 #[rv oa, iv xn, .val (.float xf), iv xt] [(.int xt), (.int xt), (.ref b2), (.ref b1), (.ref oa)] _
    refine XS.iconst X2.here hx rfl (hb hby d1_9) ?_
    show own_K p e below m T2 10 #[rv oa, iv xn, .val (.float xf), iv xt] [(.int (1 : Int32)), (.int xt), (.int xt), (.ref b2), (.ref b1), (.ref oa)] _
    refine st4.trans ?_
    show own_K p e below m T4 13 #[rv oa, iv xn, .val (.float xf), iv xt] [] _
    refine XS.aloadN X4.here hx rfl (hb hby d1_13) rfl rfl ?_
    show own_K p e below m T4 14 #[rv oa, iv xn, .val (.float xf), iv xt] [(.ref oa)] _
    refine st11 _ ?_
    show own_K p e below m T11 17 #[rv oa, iv xn, .val (.float xf), iv xt] [(.ref b1)] _
    refine XT.floadN X11.here hx rfl (hb hby d1_17) rfl ?_
    show own_K p e below m T11 18 #[rv oa, iv xn, .val (.float xf), iv xt] [(.float xf), (.ref b1)] _
    refine st12 _ ?_
    show own_K p e below m T12 21 #[rv oa, iv xn, .val (.float xf), iv xt] [] _
    refine XS.aloadN X12.here hx rfl (hb hby d1_21) rfl rfl ?_
    show own_K p e below m T12 22 #[rv oa, iv xn, .val (.float xf), iv xt] [(.ref oa)] _
    refine st14 _ ?_
    show own_K p e below m T14 25 #[rv oa, iv xn, .val (.float xf), iv xt] [(.ref b2)] _
    refine XS.iloadN X14.here hx rfl (hb hby d1_25) rfl ?_
    show own_K p e below m T14 26 #[rv oa, iv xn, .val (.float xf), iv xt] [(.int xt), (.ref b2)] _
    refine st16 _ ?_
    exact k
  have f19 : Fld Z T16.heap oa "com/example/tiercast/tiercast/protocol/Knots" "places" "[F" (.ref b1) := ((Fp_4.keep Kc12 (ninS ne1_oa nin0)).keep Kc16 (ninS ne2_oa nin0))
  have f20 : Arv Z T16.heap b1 k1 .float xn vq12 (.float (0 : UInt32)) := (Vq_12.keep Kc16 (ninS ne2_b1 nin0))
  obtain ⟨fs, hr, hrun, hended, hW, hsame⟩ := X16.leave (v := none) (fun _ => rfl)
  refine ⟨_, _, hG _ (pre18 _ ?_), hrun, hended, _, _, rfl, ?_, ⟨_, rfl⟩, hW, hsame.mono (by decide) (by decide)⟩
  · show own_K p e below m T16 29 #[rv oa, iv xn, .val (.float xf), iv xt] [] _
    exact X16.returnOut hx Bd.returns (hb hby d1_29) hr
  · show Q1 Z oa xn xf xt u0 u1 u2 u3 u4 nN h0 n0 _ T16.heap _
    exact ⟨b1, k1, vq12, rfl, N16, K16, f19, f20, ge_b1⟩

theorem d6_0 : decode prog_63_method_1_code 0 = .ok (.aload_n 0, 1) := by decide +kernel
theorem d6_1 : decode prog_63_method_1_code 1 = .ok (.invokespecial 3, 3) := by decide +kernel
theorem pd_3 : parseMethodDescriptor "()V" = some ⟨[], none⟩ := by decide +kernel
theorem d6_4 : decode prog_63_method_1_code 4 = .ok (.aload_n 0, 1) := by decide +kernel
theorem d6_5 : decode prog_63_method_1_code 5 = .ok (.aload_n 1, 1) := by decide +kernel
theorem d6_6 : decode prog_63_method_1_code 6 = .ok (.putfield 9, 3) := by decide +kernel
theorem d6_9 : decode prog_63_method_1_code 9 = .ok (.aload_n 0, 1) := by decide +kernel
theorem d6_10 : decode prog_63_method_1_code 10 = .ok (.aload_n 2, 1) := by decide +kernel
theorem d6_11 : decode prog_63_method_1_code 11 = .ok (.putfield 15, 3) := by decide +kernel
theorem d6_14 : decode prog_63_method_1_code 14 = .ok (.aload_n 0, 1) := by decide +kernel
theorem d6_15 : decode prog_63_method_1_code 15 = .ok (.aload_n 3, 1) := by decide +kernel
theorem d6_16 : decode prog_63_method_1_code 16 = .ok (.putfield 19, 3) := by decide +kernel
theorem d6_19 : decode prog_63_method_1_code 19 = .ok (.aload_n 0, 1) := by decide +kernel
theorem d6_20 : decode prog_63_method_1_code 20 = .ok (.iload 4, 2) := by decide +kernel
theorem d6_22 : decode prog_63_method_1_code 22 = .ok (.putfield 23, 3) := by decide +kernel
theorem d6_25 : decode prog_63_method_1_code 25 = .ok (.aload_n 0, 1) := by decide +kernel
theorem d6_26 : decode prog_63_method_1_code 26 = .ok (.iload 5, 2) := by decide +kernel
theorem d6_28 : decode prog_63_method_1_code 28 = .ok (.putfield 27, 3) := by decide +kernel
theorem d6_31 : decode prog_63_method_1_code 31 = .ok (.aload_n 0, 1) := by decide +kernel
theorem d6_32 : decode prog_63_method_1_code 32 = .ok (.iload 6, 2) := by decide +kernel
theorem d6_34 : decode prog_63_method_1_code 34 = .ok (.putfield 30, 3) := by decide +kernel
theorem d6_37 : decode prog_63_method_1_code 37 = .ok (.return_, 1) := by decide +kernel
theorem pn_3 : plainName "com/example/tiercast/tiercast/protocol/Boundaries$Summary" = true := by first | (simp [plainName, overriddenIn]; done) | decide +kernel
theorem ef_6n (m : MethodId) (x0 : Addr) (x1 : Addr) (x3 : Addr) (x4 : Int32) (x5 : Int32) (x6 : Int32) : entryFrame m #[(.ref x0), (.ref x1), .null, (.ref x3), (.int x4), (.int x5), (.int x6)] 7 = mkF m 0 #[rv x0, rv x1, .val .null, rv x3, iv x4, iv x5, iv x6] [] := by first | (simp [entryFrame, mkF, argsToLocals, Value.category]; done) | rfl
def Q6n (Z : State) (oa : Addr) (oy : Addr) (od : Addr) (x1 : Int32) (x2 : Int32) (x3 : Int32) (u0 : Value) (u1 : Value) (u2 : Value) (u3 : Value) (u4 : Value) (u5 : Value) (h0 : Heap) (n0 : Nat) (rv_ : Option Value) (h_ : Heap) (L_ : List Loc) : Prop := rv_ = none ∧ Fr n0 L_ ∧ Keep h0 h_ [oa] ∧ Fld Z h_ oa "com/example/tiercast/tiercast/protocol/Boundaries$Summary" "knots" "Lcom/example/tiercast/tiercast/protocol/Knots;" .null
set_option maxRecDepth 65536 in
set_option maxHeartbeats 40000000 in
theorem rm6n (l : Launch) (Z : State) (a0 : Array Value) (hw : ∀ d ∈ tables_1, d.before a0 Z = true) (ws : List Jvm.Cond) (oa : Addr) (oy : Addr) (od : Addr) (x1 : Int32) (x2 : Int32) (x3 : Int32) (u0 : Value) (u1 : Value) (u2 : Value) (u3 : Value) (u4 : Value) (u5 : Value) (h0 : Heap) (n0 : Nat) (Z0 : n0 ≤ h0.size) (E_ : Exa Z h0 oa "com/example/tiercast/tiercast/protocol/Boundaries$Summary") (F0 : Fld Z h0 oa "com/example/tiercast/tiercast/protocol/Boundaries$Summary" "type" "Lcom/example/tiercast/tiercast/model/MessageType;" u0) (F1 : Fld Z h0 oa "com/example/tiercast/tiercast/protocol/Boundaries$Summary" "knots" "Lcom/example/tiercast/tiercast/protocol/Knots;" u1) (F2 : Fld Z h0 oa "com/example/tiercast/tiercast/protocol/Boundaries$Summary" "deviationSteps" "[I" u2) (F3 : Fld Z h0 oa "com/example/tiercast/tiercast/protocol/Boundaries$Summary" "massSteps" "I" u3) (F4 : Fld Z h0 oa "com/example/tiercast/tiercast/protocol/Boundaries$Summary" "squaresSteps" "I" u4) (F5 : Fld Z h0 oa "com/example/tiercast/tiercast/protocol/Boundaries$Summary" "epoch" "I" u5) (g_ : n0 ≤ oa) :
    MetFree l (⟨"com/example/tiercast/tiercast/protocol/Boundaries$Summary", "<init>", "(Lcom/example/tiercast/tiercast/model/MessageType;Lcom/example/tiercast/tiercast/protocol/Knots;[IIII)V"⟩ : MethodName) (head1 (Jvm.Cond.code (⟨"com/example/tiercast/tiercast/protocol/Boundaries$Summary", "<init>", "(Lcom/example/tiercast/tiercast/model/MessageType;Lcom/example/tiercast/tiercast/protocol/Knots;[IIII)V"⟩ : MethodName) prog_63_method_1_code 7 none :: ws) ({ frames := 2, cells := 0, slots := 0, locals := 24 } : Room)) (fun a U => a = #[(.ref oa), (.ref oy), .null, (.ref od), (.int x1), (.int x2), (.int x3)] ∧ Z.Warmed39 U.vm ∧ U.heap = h0) (fun _ _ _ _ _ => True) (fun _ U o U' => ∃ v L, o = .returned v ∧ Q6n Z oa oy od x1 x2 x3 u0 u1 u2 u3 u4 u5 h0 n0 v U'.heap L ∧ FrameEnd U o U' L ({ frames := 2, cells := 0, slots := 0, locals := 24 } : Room).cells ({ frames := 2, cells := 0, slots := 0, locals := 24 } : Room).slots) := by
  refine MetFree.of_bodySF (plainFor_of_name pn_3) hisR ?_
  intro p e s m args below meth c s₁ Bd hml0 hP hK
  obtain ⟨rfl, hZ, hh⟩ := hP
  have hx := Bd.exec
  have hby := Bd.bytes
  have hml : c.maxLocals = 7 := hml0
  have hown : s.vm.findClass "com/example/tiercast/tiercast/protocol/Boundaries$Summary" = some m.cls := findClass_of_methodNamed Bd.named
  have hnm := (name_of_methodNamed Bd.named Bd.method).1
  have X0 : Stand p l e ({ frames := 2, cells := 0, slots := 0, locals := 24 } : Room) s m #[(.ref oa), (.ref oy), .null, (.ref od), (.int x1), (.int x2), (.int x3)] below meth c s₁ [] 0 0 := Stand.of_body Bd
  have e0 : s₁.heap = h0 := by rw [← hh, Bd.state]; rfl
  have N0 := Fr.nil n0
  obtain ⟨G, hG, pre0⟩ : ∃ G : State → Prop, (∀ t, G t → Steps p.tables e below (s₁.setTop (entryFrame m #[(.ref oa), (.ref oy), .null, (.ref od), (.int x1), (.int x2), (.int x3)] 7)) t) ∧ ∀ t, own_K p e below m s₁ 0 #[rv oa, rv oy, .val .null, rv od, iv x1, iv x2, iv x3] [] t → G t := ⟨fun t => Steps p.tables e below (s₁.setTop (entryFrame m #[(.ref oa), (.ref oy), .null, (.ref od), (.int x1), (.int x2), (.int x3)] 7)) t, fun _ k => k, fun t k => castTop (ef_6n m oa oy od x1 x2 x3) k⟩
  obtain ⟨_, _, ⟨T1, L1, k1, n1⟩, -, X1, ⟨Lc1, hQ1, l1, y1, z1⟩, st1⟩ := X0.specialBack hx (y := (⟨"java/lang/Record", "<init>", "()V"⟩ : MethodName)) rfl hown (mvT hZ (hw _ (List.mem_of_getElem? (i := 40) rfl))) (mvT hZ (hw _ (List.mem_of_getElem? (i := 41) rfl))) (mvT hZ (hw _ (List.mem_of_getElem? (i := 44) rfl))) (by decide) (backOf (W := 0) (rm7 l Z a0 hw [] oa h0 n0 Z0 ) hZ (hw _ (List.mem_of_getElem? (i := 44) rfl)) (hw _ (List.mem_of_getElem? (i := 43) rfl)) (by decide) (by decide)) (g := (mkF m 1 #[rv oa, rv oy, .val .null, rv od, iv x1, iv x2, iv x3] [(.ref oa)])) rfl (by rw [hml]; rfl) (Steps.refl _) (a := oa) (argsL := []) (rest := []) (lenOf pd_3 rfl) rfl (by show 2 * 0 + _ ≤ _; exact Nat.le_of_eq rfl) (hb hby d6_1) (fun _ _ => ⟨rfl, e0, (by decide : 0 + 0 ≤ _), (by decide : 0 + 0 ≤ _)⟩)
  dsimp only [Pt.U, Pt.locs, Pt.cells, Pt.slots] at X1 l1 y1 z1 st1 hQ1
  subst l1 y1 z1
  obtain ⟨rfl, Nq1, eh1⟩ := hQ1
  have N1 := Fr.app N0 Nq1
  obtain ⟨T2, h2, X2, e2, W2, st2⟩ := putF X1 hx hZ hown (host := "") (Or.inl (hw _ (List.mem_of_getElem? (i := 46) rfl))) Via.refl eh1 F0 E_ (Or.inr ⟨(hw _ (List.mem_of_getElem? (i := 47) rfl)), rfl, hnm⟩) (hw _ (List.mem_of_getElem? (i := 35) rfl)) (ty := (.object "com/example/tiercast/tiercast/model/MessageType")) (by decide) rfl rfl (g := (mkF m 6 #[rv oa, rv oy, .val .null, rv od, iv x1, iv x2, iv x3] [(.ref oy), (.ref oa)])) rfl rfl (hb hby d6_6)
  have f2w := F0.same W2
  have K2 : Keep h0 h2 [oa] := (Keep.refl h0 [oa]).wr W2 (Or.inl (List.mem_of_getElem? (i := 0) rfl))
  have N2 := Fr.snoc X2 N1 g_
  have sz2 : n0 ≤ h2.size := Nat.le_trans Z0 (Keep.of_wr W2).1
  have f4 : Fld Z h2 oa "com/example/tiercast/tiercast/protocol/Boundaries$Summary" "knots" "Lcom/example/tiercast/tiercast/protocol/Knots;" u1 := (F1.other W2 (Or.inr (slot_ne (Or.inr (hw _ (List.mem_of_getElem? (i := 49) rfl))) (Or.inr (hw _ (List.mem_of_getElem? (i := 47) rfl))) (by decide) (t := (.object "com/example/tiercast/tiercast/protocol/Knots")) (t' := (.object "com/example/tiercast/tiercast/model/MessageType")) (by decide) (by decide))))
  have f5 : Exa Z h2 oa "com/example/tiercast/tiercast/protocol/Boundaries$Summary" := (E_.wr W2)
  obtain ⟨T3, h3, X3, e3, W3, st3⟩ := putF X2 hx hZ hown (host := "") (Or.inl (hw _ (List.mem_of_getElem? (i := 48) rfl))) Via.refl e2 f4 f5 (Or.inr ⟨(hw _ (List.mem_of_getElem? (i := 49) rfl)), rfl, hnm⟩) (hw _ (List.mem_of_getElem? (i := 35) rfl)) (ty := (.object "com/example/tiercast/tiercast/protocol/Knots")) (by decide) rfl rfl (g := (mkF m 11 #[rv oa, rv oy, .val .null, rv od, iv x1, iv x2, iv x3] [.null, (.ref oa)])) rfl rfl (hb hby d6_11)
  have f3w := f4.same W3
  have K3 : Keep h0 h3 [oa] := K2.wr W3 (Or.inl (List.mem_of_getElem? (i := 0) rfl))
  have N3 := Fr.snoc X3 N2 g_
  have sz3 : n0 ≤ h3.size := Nat.le_trans sz2 (Keep.of_wr W3).1
  have f7 : Fld Z h3 oa "com/example/tiercast/tiercast/protocol/Boundaries$Summary" "deviationSteps" "[I" u2 := ((F2.other W2 (Or.inr (slot_ne (Or.inr (hw _ (List.mem_of_getElem? (i := 51) rfl))) (Or.inr (hw _ (List.mem_of_getElem? (i := 47) rfl))) (by decide) (t := (.array .int)) (t' := (.object "com/example/tiercast/tiercast/model/MessageType")) (by decide) (by decide)))).other W3 (Or.inr (slot_ne (Or.inr (hw _ (List.mem_of_getElem? (i := 51) rfl))) (Or.inr (hw _ (List.mem_of_getElem? (i := 49) rfl))) (by decide) (t := (.array .int)) (t' := (.object "com/example/tiercast/tiercast/protocol/Knots")) (by decide) (by decide))))
  have f8 : Exa Z h3 oa "com/example/tiercast/tiercast/protocol/Boundaries$Summary" := (f5.wr W3)
  obtain ⟨T6, h6, X6, e6, W6, st6⟩ := putF X3 hx hZ hown (host := "") (Or.inl (hw _ (List.mem_of_getElem? (i := 50) rfl))) Via.refl e3 f7 f8 (Or.inr ⟨(hw _ (List.mem_of_getElem? (i := 51) rfl)), rfl, hnm⟩) (hw _ (List.mem_of_getElem? (i := 35) rfl)) (ty := (.array .int)) (by decide) rfl rfl (g := (mkF m 16 #[rv oa, rv oy, .val .null, rv od, iv x1, iv x2, iv x3] [(.ref od), (.ref oa)])) rfl rfl (hb hby d6_16)
  have f6w := f7.same W6
  have K6 : Keep h0 h6 [oa] := K3.wr W6 (Or.inl (List.mem_of_getElem? (i := 0) rfl))
  have N6 := Fr.snoc X6 N3 g_
  have sz6 : n0 ≤ h6.size := Nat.le_trans sz3 (Keep.of_wr W6).1
  have f10 : Fld Z h6 oa "com/example/tiercast/tiercast/protocol/Boundaries$Summary" "massSteps" "I" u3 := (((F3.other W2 (Or.inr (slot_ne (Or.inr (hw _ (List.mem_of_getElem? (i := 53) rfl))) (Or.inr (hw _ (List.mem_of_getElem? (i := 47) rfl))) (by decide) (t := .int) (t' := (.object "com/example/tiercast/tiercast/model/MessageType")) (by decide) (by decide)))).other W3 (Or.inr (slot_ne (Or.inr (hw _ (List.mem_of_getElem? (i := 53) rfl))) (Or.inr (hw _ (List.mem_of_getElem? (i := 49) rfl))) (by decide) (t := .int) (t' := (.object "com/example/tiercast/tiercast/protocol/Knots")) (by decide) (by decide)))).other W6 (Or.inr (slot_ne (Or.inr (hw _ (List.mem_of_getElem? (i := 53) rfl))) (Or.inr (hw _ (List.mem_of_getElem? (i := 51) rfl))) (by decide) (t := .int) (t' := (.array .int)) (by decide) (by decide))))
  have f11 : Exa Z h6 oa "com/example/tiercast/tiercast/protocol/Boundaries$Summary" := (f8.wr W6)
  obtain ⟨T9, h9, X9, e9, W9, st9⟩ := putF X6 hx hZ hown (host := "") (Or.inl (hw _ (List.mem_of_getElem? (i := 52) rfl))) Via.refl e6 f10 f11 (Or.inr ⟨(hw _ (List.mem_of_getElem? (i := 53) rfl)), rfl, hnm⟩) (hw _ (List.mem_of_getElem? (i := 35) rfl)) (ty := .int) (by decide) rfl rfl (g := (mkF m 22 #[rv oa, rv oy, .val .null, rv od, iv x1, iv x2, iv x3] [(.int x1), (.ref oa)])) rfl rfl (hb hby d6_22)
  have f9w := f10.same W9
  have K9 : Keep h0 h9 [oa] := K6.wr W9 (Or.inl (List.mem_of_getElem? (i := 0) rfl))
  have N9 := Fr.snoc X9 N6 g_
  have sz9 : n0 ≤ h9.size := Nat.le_trans sz6 (Keep.of_wr W9).1
  have f13 : Fld Z h9 oa "com/example/tiercast/tiercast/protocol/Boundaries$Summary" "squaresSteps" "I" u4 := ((((F4.other W2 (Or.inr (slot_ne (Or.inr (hw _ (List.mem_of_getElem? (i := 55) rfl))) (Or.inr (hw _ (List.mem_of_getElem? (i := 47) rfl))) (by decide) (t := .int) (t' := (.object "com/example/tiercast/tiercast/model/MessageType")) (by decide) (by decide)))).other W3 (Or.inr (slot_ne (Or.inr (hw _ (List.mem_of_getElem? (i := 55) rfl))) (Or.inr (hw _ (List.mem_of_getElem? (i := 49) rfl))) (by decide) (t := .int) (t' := (.object "com/example/tiercast/tiercast/protocol/Knots")) (by decide) (by decide)))).other W6 (Or.inr (slot_ne (Or.inr (hw _ (List.mem_of_getElem? (i := 55) rfl))) (Or.inr (hw _ (List.mem_of_getElem? (i := 51) rfl))) (by decide) (t := .int) (t' := (.array .int)) (by decide) (by decide)))).other W9 (Or.inr (slot_ne (Or.inr (hw _ (List.mem_of_getElem? (i := 55) rfl))) (Or.inr (hw _ (List.mem_of_getElem? (i := 53) rfl))) (by decide) (t := .int) (t' := .int) (by decide) (by decide))))
  have f14 : Exa Z h9 oa "com/example/tiercast/tiercast/protocol/Boundaries$Summary" := (f11.wr W9)
  obtain ⟨T12, h12, X12, e12, W12, st12⟩ := putF X9 hx hZ hown (host := "") (Or.inl (hw _ (List.mem_of_getElem? (i := 54) rfl))) Via.refl e9 f13 f14 (Or.inr ⟨(hw _ (List.mem_of_getElem? (i := 55) rfl)), rfl, hnm⟩) (hw _ (List.mem_of_getElem? (i := 35) rfl)) (ty := .int) (by decide) rfl rfl (g := (mkF m 28 #[rv oa, rv oy, .val .null, rv od, iv x1, iv x2, iv x3] [(.int x2), (.ref oa)])) rfl rfl (hb hby d6_28)
  have f12w := f13.same W12
  have K12 : Keep h0 h12 [oa] := K9.wr W12 (Or.inl (List.mem_of_getElem? (i := 0) rfl))
  have N12 := Fr.snoc X12 N9 g_
  have sz12 : n0 ≤ h12.size := Nat.le_trans sz9 (Keep.of_wr W12).1
  have f16 : Fld Z h12 oa "com/example/tiercast/tiercast/protocol/Boundaries$Summary" "epoch" "I" u5 := (((((F5.other W2 (Or.inr (slot_ne (Or.inr (hw _ (List.mem_of_getElem? (i := 57) rfl))) (Or.inr (hw _ (List.mem_of_getElem? (i := 47) rfl))) (by decide) (t := .int) (t' := (.object "com/example/tiercast/tiercast/model/MessageType")) (by decide) (by decide)))).other W3 (Or.inr (slot_ne (Or.inr (hw _ (List.mem_of_getElem? (i := 57) rfl))) (Or.inr (hw _ (List.mem_of_getElem? (i := 49) rfl))) (by decide) (t := .int) (t' := (.object "com/example/tiercast/tiercast/protocol/Knots")) (by decide) (by decide)))).other W6 (Or.inr (slot_ne (Or.inr (hw _ (List.mem_of_getElem? (i := 57) rfl))) (Or.inr (hw _ (List.mem_of_getElem? (i := 51) rfl))) (by decide) (t := .int) (t' := (.array .int)) (by decide) (by decide)))).other W9 (Or.inr (slot_ne (Or.inr (hw _ (List.mem_of_getElem? (i := 57) rfl))) (Or.inr (hw _ (List.mem_of_getElem? (i := 53) rfl))) (by decide) (t := .int) (t' := .int) (by decide) (by decide)))).other W12 (Or.inr (slot_ne (Or.inr (hw _ (List.mem_of_getElem? (i := 57) rfl))) (Or.inr (hw _ (List.mem_of_getElem? (i := 55) rfl))) (by decide) (t := .int) (t' := .int) (by decide) (by decide))))
  have f17 : Exa Z h12 oa "com/example/tiercast/tiercast/protocol/Boundaries$Summary" := (f14.wr W12)
  obtain ⟨T15, h15, X15, e15, W15, st15⟩ := putF X12 hx hZ hown (host := "") (Or.inl (hw _ (List.mem_of_getElem? (i := 56) rfl))) Via.refl e12 f16 f17 (Or.inr ⟨(hw _ (List.mem_of_getElem? (i := 57) rfl)), rfl, hnm⟩) (hw _ (List.mem_of_getElem? (i := 35) rfl)) (ty := .int) (by decide) rfl rfl (g := (mkF m 34 #[rv oa, rv oy, .val .null, rv od, iv x1, iv x2, iv x3] [(.int x3), (.ref oa)])) rfl rfl (hb hby d6_34)
  have f15w := f16.same W15
  have K15 : Keep h0 h15 [oa] := K12.wr W15 (Or.inl (List.mem_of_getElem? (i := 0) rfl))
  have N15 := Fr.snoc X15 N12 g_
  have sz15 : n0 ≤ h15.size := Nat.le_trans sz12 (Keep.of_wr W15).1
  have pre18 : ∀ t, own_K p e below m T15 37 #[rv oa, rv oy, .val .null, rv od, iv x1, iv x2, iv x3] [] t → G t := by
    intro t k
    refine pre0 t ?_
    show own_K p e below m s₁ 0 #[rv oa, rv oy, .val .null, rv od, iv x1, iv x2, iv x3] [] _
    refine XS.aloadN X0.here hx rfl (hb hby d6_0) rfl rfl ?_
    show own_K p e below m s₁ 1 #[rv oa, rv oy, .val .null, rv od, iv x1, iv x2, iv x3] [(.ref oa)] _
    refine st1.trans ?_
    show own_K p e below m T1 4 #[rv oa, rv oy, .val .null, rv od, iv x1, iv x2, iv x3] [] _
    refine XS.aloadN X1.here hx rfl (hb hby d6_4) rfl rfl ?_
    show own_K p e below m T1 5 #[rv oa, rv oy, .val .null, rv od, iv x1, iv x2, iv x3] [(.ref oa)] _
    refine XS.aloadN X1.here hx rfl (hb hby d6_5) rfl rfl ?_
    show own_K p e below m T1 6 #[rv oa, rv oy, .val .null, rv od, iv x1, iv x2, iv x3] [(.ref oy), (.ref oa)] _
    refine st2 _ ?_
    show own_K p e below m T2 9 #[rv oa, rv oy, .val .null, rv od, iv x1, iv x2, iv x3] [] _
    refine XS.aloadN X2.here hx rfl (hb hby d6_9) rfl rfl ?_
    show own_K p e below m T2 10 #[rv oa, rv oy, .val .null, rv od, iv x1, iv x2, iv x3] [(.ref oa)] _
    refine XS.aloadN X2.here hx rfl (hb hby d6_10) rfl rfl ?_
    show own_K p e below m T2 11 #[rv oa, rv oy, .val .null, rv od, iv x1, iv x2, iv x3] [.null, (.ref oa)] _
    refine st3 _ ?_
    show own_K p e below m T3 14 #[rv oa, rv oy, .val .null, rv od, iv x1, iv x2, iv x3] [] _
    refine XS.aloadN X3.here hx rfl (hb hby d6_14) rfl rfl ?_
    show own_K p e below m T3 15 #[rv oa, rv oy, .val .null, rv od, iv x1, iv x2, iv x3] [(.ref oa)] _
    refine XS.aloadN X3.here hx rfl (hb hby d6_15) rfl rfl ?_
    show own_K p e below m T3 16 #[rv oa, rv oy, .val .null, rv od, iv x1, iv x2, iv x3] [(.ref od), (.ref oa)] _
    refine st6 _ ?_
    show own_K p e below m T6 19 #[rv oa, rv oy, .val .null, rv od, iv x1, iv x2, iv x3] [] _
    refine XS.aloadN X6.here hx rfl (hb hby d6_19) rfl rfl ?_
    show own_K p e below m T6 20 #[rv oa, rv oy, .val .null, rv od, iv x1, iv x2, iv x3] [(.ref oa)] _
    refine XS.iload X6.here hx rfl (hb hby d6_20) rfl ?_
    show own_K p e below m T6 22 #[rv oa, rv oy, .val .null, rv od, iv x1, iv x2, iv x3] [(.int x1), (.ref oa)] _
    refine st9 _ ?_
    show own_K p e below m T9 25 #[rv oa, rv oy, .val .null, rv od, iv x1, iv x2, iv x3] [] _
    refine XS.aloadN X9.here hx rfl (hb hby d6_25) rfl rfl ?_
    show own_K p e below m T9 26 #[rv oa, rv oy, .val .null, rv od, iv x1, iv x2, iv x3] [(.ref oa)] _
    refine XS.iload X9.here hx rfl (hb hby d6_26) rfl ?_
    show own_K p e below m T9 28 #[rv oa, rv oy, .val .null, rv od, iv x1, iv x2, iv x3] [(.int x2), (.ref oa)] _
    refine st12 _ ?_
    show own_K p e below m T12 31 #[rv oa, rv oy, .val .null, rv od, iv x1, iv x2, iv x3] [] _
    refine XS.aloadN X12.here hx rfl (hb hby d6_31) rfl rfl ?_
    show own_K p e below m T12 32 #[rv oa, rv oy, .val .null, rv od, iv x1, iv x2, iv x3] [(.ref oa)] _
    refine XS.iload X12.here hx rfl (hb hby d6_32) rfl ?_
    show own_K p e below m T12 34 #[rv oa, rv oy, .val .null, rv od, iv x1, iv x2, iv x3] [(.int x3), (.ref oa)] _
    refine st15 _ ?_
    exact k
  have f19 : Fld Z h15 oa "com/example/tiercast/tiercast/protocol/Boundaries$Summary" "knots" "Lcom/example/tiercast/tiercast/protocol/Knots;" .null := ((((f3w.other W6 (Or.inr (slot_ne (Or.inr (hw _ (List.mem_of_getElem? (i := 49) rfl))) (Or.inr (hw _ (List.mem_of_getElem? (i := 51) rfl))) (by decide) (t := (.object "com/example/tiercast/tiercast/protocol/Knots")) (t' := (.array .int)) (by decide) (by decide)))).other W9 (Or.inr (slot_ne (Or.inr (hw _ (List.mem_of_getElem? (i := 49) rfl))) (Or.inr (hw _ (List.mem_of_getElem? (i := 53) rfl))) (by decide) (t := (.object "com/example/tiercast/tiercast/protocol/Knots")) (t' := .int) (by decide) (by decide)))).other W12 (Or.inr (slot_ne (Or.inr (hw _ (List.mem_of_getElem? (i := 49) rfl))) (Or.inr (hw _ (List.mem_of_getElem? (i := 55) rfl))) (by decide) (t := (.object "com/example/tiercast/tiercast/protocol/Knots")) (t' := .int) (by decide) (by decide)))).other W15 (Or.inr (slot_ne (Or.inr (hw _ (List.mem_of_getElem? (i := 49) rfl))) (Or.inr (hw _ (List.mem_of_getElem? (i := 57) rfl))) (by decide) (t := (.object "com/example/tiercast/tiercast/protocol/Knots")) (t' := .int) (by decide) (by decide))))
  obtain ⟨fs, hr, hrun, hended, hW, hsame⟩ := X15.leave (v := none) (fun _ => rfl)
  refine ⟨_, _, hG _ (pre18 _ ?_), hrun, hended, _, _, rfl, ?_, ⟨_, rfl⟩, hW, hsame.mono (by decide) (by decide)⟩
  · show own_K p e below m T15 37 #[rv oa, rv oy, .val .null, rv od, iv x1, iv x2, iv x3] [] _
    exact X15.returnOut hx Bd.returns (hb hby d6_37) hr
  · show Q6n Z oa oy od x1 x2 x3 u0 u1 u2 u3 u4 u5 h0 n0 _ T15.heap _
    rw [e15]
    exact ⟨rfl, N15, K15, f19⟩

theorem ef_6 (m : MethodId) (x0 : Addr) (x1 : Addr) (x2 : Addr) (x3 : Addr) (x4 : Int32) (x5 : Int32) (x6 : Int32) : entryFrame m #[(.ref x0), (.ref x1), (.ref x2), (.ref x3), (.int x4), (.int x5), (.int x6)] 7 = mkF m 0 #[rv x0, rv x1, rv x2, rv x3, iv x4, iv x5, iv x6] [] := by first | (simp [entryFrame, mkF, argsToLocals, Value.category]; done) | rfl
def Q6 (Z : State) (oa : Addr) (oy : Addr) (ok : Addr) (od : Addr) (x1 : Int32) (x2 : Int32) (x3 : Int32) (u0 : Value) (u1 : Value) (u2 : Value) (u3 : Value) (u4 : Value) (u5 : Value) (h0 : Heap) (n0 : Nat) (rv_ : Option Value) (h_ : Heap) (L_ : List Loc) : Prop := rv_ = none ∧ Fr n0 L_ ∧ Keep h0 h_ [oa] ∧ Fld Z h_ oa "com/example/tiercast/tiercast/protocol/Boundaries$Summary" "knots" "Lcom/example/tiercast/tiercast/protocol/Knots;" (.ref ok)
set_option maxRecDepth 65536 in
set_option maxHeartbeats 40000000 in
theorem rm6 (l : Launch) (Z : State) (a0 : Array Value) (hw : ∀ d ∈ tables_1, d.before a0 Z = true) (ws : List Jvm.Cond) (oa : Addr) (oy : Addr) (ok : Addr) (od : Addr) (x1 : Int32) (x2 : Int32) (x3 : Int32) (u0 : Value) (u1 : Value) (u2 : Value) (u3 : Value) (u4 : Value) (u5 : Value) (h0 : Heap) (n0 : Nat) (Z0 : n0 ≤ h0.size) (E_ : Exa Z h0 oa "com/example/tiercast/tiercast/protocol/Boundaries$Summary") (F0 : Fld Z h0 oa "com/example/tiercast/tiercast/protocol/Boundaries$Summary" "type" "Lcom/example/tiercast/tiercast/model/MessageType;" u0) (F1 : Fld Z h0 oa "com/example/tiercast/tiercast/protocol/Boundaries$Summary" "knots" "Lcom/example/tiercast/tiercast/protocol/Knots;" u1) (F2 : Fld Z h0 oa "com/example/tiercast/tiercast/protocol/Boundaries$Summary" "deviationSteps" "[I" u2) (F3 : Fld Z h0 oa "com/example/tiercast/tiercast/protocol/Boundaries$Summary" "massSteps" "I" u3) (F4 : Fld Z h0 oa "com/example/tiercast/tiercast/protocol/Boundaries$Summary" "squaresSteps" "I" u4) (F5 : Fld Z h0 oa "com/example/tiercast/tiercast/protocol/Boundaries$Summary" "epoch" "I" u5) (g_ : n0 ≤ oa) :
    MetFree l (⟨"com/example/tiercast/tiercast/protocol/Boundaries$Summary", "<init>", "(Lcom/example/tiercast/tiercast/model/MessageType;Lcom/example/tiercast/tiercast/protocol/Knots;[IIII)V"⟩ : MethodName) (head1 (Jvm.Cond.code (⟨"com/example/tiercast/tiercast/protocol/Boundaries$Summary", "<init>", "(Lcom/example/tiercast/tiercast/model/MessageType;Lcom/example/tiercast/tiercast/protocol/Knots;[IIII)V"⟩ : MethodName) prog_63_method_1_code 7 none :: ws) ({ frames := 2, cells := 0, slots := 0, locals := 24 } : Room)) (fun a U => a = #[(.ref oa), (.ref oy), (.ref ok), (.ref od), (.int x1), (.int x2), (.int x3)] ∧ Z.Warmed39 U.vm ∧ U.heap = h0) (fun _ _ _ _ _ => True) (fun _ U o U' => ∃ v L, o = .returned v ∧ Q6 Z oa oy ok od x1 x2 x3 u0 u1 u2 u3 u4 u5 h0 n0 v U'.heap L ∧ FrameEnd U o U' L ({ frames := 2, cells := 0, slots := 0, locals := 24 } : Room).cells ({ frames := 2, cells := 0, slots := 0, locals := 24 } : Room).slots) := by
  refine MetFree.of_bodySF (plainFor_of_name pn_3) hisR ?_
  intro p e s m args below meth c s₁ Bd hml0 hP hK
  obtain ⟨rfl, hZ, hh⟩ := hP
  have hx := Bd.exec
  have hby := Bd.bytes
  have hml : c.maxLocals = 7 := hml0
  have hown : s.vm.findClass "com/example/tiercast/tiercast/protocol/Boundaries$Summary" = some m.cls := findClass_of_methodNamed Bd.named
  have hnm := (name_of_methodNamed Bd.named Bd.method).1
  have X0 : Stand p l e ({ frames := 2, cells := 0, slots := 0, locals := 24 } : Room) s m #[(.ref oa), (.ref oy), (.ref ok), (.ref od), (.int x1), (.int x2), (.int x3)] below meth c s₁ [] 0 0 := Stand.of_body Bd
  have e0 : s₁.heap = h0 := by rw [← hh, Bd.state]; rfl
  have N0 := Fr.nil n0
  obtain ⟨G, hG, pre0⟩ : ∃ G : State → Prop, (∀ t, G t → Steps p.tables e below (s₁.setTop (entryFrame m #[(.ref oa), (.ref oy), (.ref ok), (.ref od), (.int x1), (.int x2), (.int x3)] 7)) t) ∧ ∀ t, own_K p e below m s₁ 0 #[rv oa, rv oy, rv ok, rv od, iv x1, iv x2, iv x3] [] t → G t := ⟨fun t => Steps p.tables e below (s₁.setTop (entryFrame m #[(.ref oa), (.ref oy), (.ref ok), (.ref od), (.int x1), (.int x2), (.int x3)] 7)) t, fun _ k => k, fun t k => castTop (ef_6 m oa oy ok od x1 x2 x3) k⟩
  obtain ⟨_, _, ⟨T1, L1, k1, n1⟩, -, X1, ⟨Lc1, hQ1, l1, y1, z1⟩, st1⟩ := X0.specialBack hx (y := (⟨"java/lang/Record", "<init>", "()V"⟩ : MethodName)) rfl hown (mvT hZ (hw _ (List.mem_of_getElem? (i := 40) rfl))) (mvT hZ (hw _ (List.mem_of_getElem? (i := 41) rfl))) (mvT hZ (hw _ (List.mem_of_getElem? (i := 44) rfl))) (by decide) (backOf (W := 0) (rm7 l Z a0 hw [] oa h0 n0 Z0 ) hZ (hw _ (List.mem_of_getElem? (i := 44) rfl)) (hw _ (List.mem_of_getElem? (i := 43) rfl)) (by decide) (by decide)) (g := (mkF m 1 #[rv oa, rv oy, rv ok, rv od, iv x1, iv x2, iv x3] [(.ref oa)])) rfl (by rw [hml]; rfl) (Steps.refl _) (a := oa) (argsL := []) (rest := []) (lenOf pd_3 rfl) rfl (by show 2 * 0 + _ ≤ _; exact Nat.le_of_eq rfl) (hb hby d6_1) (fun _ _ => ⟨rfl, e0, (by decide : 0 + 0 ≤ _), (by decide : 0 + 0 ≤ _)⟩)
  dsimp only [Pt.U, Pt.locs, Pt.cells, Pt.slots] at X1 l1 y1 z1 st1 hQ1
  subst l1 y1 z1
  obtain ⟨rfl, Nq1, eh1⟩ := hQ1
  have N1 := Fr.app N0 Nq1
  obtain ⟨T2, h2, X2, e2, W2, st2⟩ := putF X1 hx hZ hown (host := "") (Or.inl (hw _ (List.mem_of_getElem? (i := 46) rfl))) Via.refl eh1 F0 E_ (Or.inr ⟨(hw _ (List.mem_of_getElem? (i := 47) rfl)), rfl, hnm⟩) (hw _ (List.mem_of_getElem? (i := 35) rfl)) (ty := (.object "com/example/tiercast/tiercast/model/MessageType")) (by decide) rfl rfl (g := (mkF m 6 #[rv oa, rv oy, rv ok, rv od, iv x1, iv x2, iv x3] [(.ref oy), (.ref oa)])) rfl rfl (hb hby d6_6)
  have f2w := F0.same W2
  have K2 : Keep h0 h2 [oa] := (Keep.refl h0 [oa]).wr W2 (Or.inl (List.mem_of_getElem? (i := 0) rfl))
  have N2 := Fr.snoc X2 N1 g_
  have sz2 : n0 ≤ h2.size := Nat.le_trans Z0 (Keep.of_wr W2).1
  have f4 : Fld Z h2 oa "com/example/tiercast/tiercast/protocol/Boundaries$Summary" "knots" "Lcom/example/tiercast/tiercast/protocol/Knots;" u1 := (F1.other W2 (Or.inr (slot_ne (Or.inr (hw _ (List.mem_of_getElem? (i := 49) rfl))) (Or.inr (hw _ (List.mem_of_getElem? (i := 47) rfl))) (by decide) (t := (.object "com/example/tiercast/tiercast/protocol/Knots")) (t' := (.object "com/example/tiercast/tiercast/model/MessageType")) (by decide) (by decide))))
  have f5 : Exa Z h2 oa "com/example/tiercast/tiercast/protocol/Boundaries$Summary" := (E_.wr W2)
  obtain ⟨T3, h3, X3, e3, W3, st3⟩ := putF X2 hx hZ hown (host := "") (Or.inl (hw _ (List.mem_of_getElem? (i := 48) rfl))) Via.refl e2 f4 f5 (Or.inr ⟨(hw _ (List.mem_of_getElem? (i := 49) rfl)), rfl, hnm⟩) (hw _ (List.mem_of_getElem? (i := 35) rfl)) (ty := (.object "com/example/tiercast/tiercast/protocol/Knots")) (by decide) rfl rfl (g := (mkF m 11 #[rv oa, rv oy, rv ok, rv od, iv x1, iv x2, iv x3] [(.ref ok), (.ref oa)])) rfl rfl (hb hby d6_11)
  have f3w := f4.same W3
  have K3 : Keep h0 h3 [oa] := K2.wr W3 (Or.inl (List.mem_of_getElem? (i := 0) rfl))
  have N3 := Fr.snoc X3 N2 g_
  have sz3 : n0 ≤ h3.size := Nat.le_trans sz2 (Keep.of_wr W3).1
  have f7 : Fld Z h3 oa "com/example/tiercast/tiercast/protocol/Boundaries$Summary" "deviationSteps" "[I" u2 := ((F2.other W2 (Or.inr (slot_ne (Or.inr (hw _ (List.mem_of_getElem? (i := 51) rfl))) (Or.inr (hw _ (List.mem_of_getElem? (i := 47) rfl))) (by decide) (t := (.array .int)) (t' := (.object "com/example/tiercast/tiercast/model/MessageType")) (by decide) (by decide)))).other W3 (Or.inr (slot_ne (Or.inr (hw _ (List.mem_of_getElem? (i := 51) rfl))) (Or.inr (hw _ (List.mem_of_getElem? (i := 49) rfl))) (by decide) (t := (.array .int)) (t' := (.object "com/example/tiercast/tiercast/protocol/Knots")) (by decide) (by decide))))
  have f8 : Exa Z h3 oa "com/example/tiercast/tiercast/protocol/Boundaries$Summary" := (f5.wr W3)
  obtain ⟨T6, h6, X6, e6, W6, st6⟩ := putF X3 hx hZ hown (host := "") (Or.inl (hw _ (List.mem_of_getElem? (i := 50) rfl))) Via.refl e3 f7 f8 (Or.inr ⟨(hw _ (List.mem_of_getElem? (i := 51) rfl)), rfl, hnm⟩) (hw _ (List.mem_of_getElem? (i := 35) rfl)) (ty := (.array .int)) (by decide) rfl rfl (g := (mkF m 16 #[rv oa, rv oy, rv ok, rv od, iv x1, iv x2, iv x3] [(.ref od), (.ref oa)])) rfl rfl (hb hby d6_16)
  have f6w := f7.same W6
  have K6 : Keep h0 h6 [oa] := K3.wr W6 (Or.inl (List.mem_of_getElem? (i := 0) rfl))
  have N6 := Fr.snoc X6 N3 g_
  have sz6 : n0 ≤ h6.size := Nat.le_trans sz3 (Keep.of_wr W6).1
  have f10 : Fld Z h6 oa "com/example/tiercast/tiercast/protocol/Boundaries$Summary" "massSteps" "I" u3 := (((F3.other W2 (Or.inr (slot_ne (Or.inr (hw _ (List.mem_of_getElem? (i := 53) rfl))) (Or.inr (hw _ (List.mem_of_getElem? (i := 47) rfl))) (by decide) (t := .int) (t' := (.object "com/example/tiercast/tiercast/model/MessageType")) (by decide) (by decide)))).other W3 (Or.inr (slot_ne (Or.inr (hw _ (List.mem_of_getElem? (i := 53) rfl))) (Or.inr (hw _ (List.mem_of_getElem? (i := 49) rfl))) (by decide) (t := .int) (t' := (.object "com/example/tiercast/tiercast/protocol/Knots")) (by decide) (by decide)))).other W6 (Or.inr (slot_ne (Or.inr (hw _ (List.mem_of_getElem? (i := 53) rfl))) (Or.inr (hw _ (List.mem_of_getElem? (i := 51) rfl))) (by decide) (t := .int) (t' := (.array .int)) (by decide) (by decide))))
  have f11 : Exa Z h6 oa "com/example/tiercast/tiercast/protocol/Boundaries$Summary" := (f8.wr W6)
  obtain ⟨T9, h9, X9, e9, W9, st9⟩ := putF X6 hx hZ hown (host := "") (Or.inl (hw _ (List.mem_of_getElem? (i := 52) rfl))) Via.refl e6 f10 f11 (Or.inr ⟨(hw _ (List.mem_of_getElem? (i := 53) rfl)), rfl, hnm⟩) (hw _ (List.mem_of_getElem? (i := 35) rfl)) (ty := .int) (by decide) rfl rfl (g := (mkF m 22 #[rv oa, rv oy, rv ok, rv od, iv x1, iv x2, iv x3] [(.int x1), (.ref oa)])) rfl rfl (hb hby d6_22)
  have f9w := f10.same W9
  have K9 : Keep h0 h9 [oa] := K6.wr W9 (Or.inl (List.mem_of_getElem? (i := 0) rfl))
  have N9 := Fr.snoc X9 N6 g_
  have sz9 : n0 ≤ h9.size := Nat.le_trans sz6 (Keep.of_wr W9).1
  have f13 : Fld Z h9 oa "com/example/tiercast/tiercast/protocol/Boundaries$Summary" "squaresSteps" "I" u4 := ((((F4.other W2 (Or.inr (slot_ne (Or.inr (hw _ (List.mem_of_getElem? (i := 55) rfl))) (Or.inr (hw _ (List.mem_of_getElem? (i := 47) rfl))) (by decide) (t := .int) (t' := (.object "com/example/tiercast/tiercast/model/MessageType")) (by decide) (by decide)))).other W3 (Or.inr (slot_ne (Or.inr (hw _ (List.mem_of_getElem? (i := 55) rfl))) (Or.inr (hw _ (List.mem_of_getElem? (i := 49) rfl))) (by decide) (t := .int) (t' := (.object "com/example/tiercast/tiercast/protocol/Knots")) (by decide) (by decide)))).other W6 (Or.inr (slot_ne (Or.inr (hw _ (List.mem_of_getElem? (i := 55) rfl))) (Or.inr (hw _ (List.mem_of_getElem? (i := 51) rfl))) (by decide) (t := .int) (t' := (.array .int)) (by decide) (by decide)))).other W9 (Or.inr (slot_ne (Or.inr (hw _ (List.mem_of_getElem? (i := 55) rfl))) (Or.inr (hw _ (List.mem_of_getElem? (i := 53) rfl))) (by decide) (t := .int) (t' := .int) (by decide) (by decide))))
  have f14 : Exa Z h9 oa "com/example/tiercast/tiercast/protocol/Boundaries$Summary" := (f11.wr W9)
  obtain ⟨T12, h12, X12, e12, W12, st12⟩ := putF X9 hx hZ hown (host := "") (Or.inl (hw _ (List.mem_of_getElem? (i := 54) rfl))) Via.refl e9 f13 f14 (Or.inr ⟨(hw _ (List.mem_of_getElem? (i := 55) rfl)), rfl, hnm⟩) (hw _ (List.mem_of_getElem? (i := 35) rfl)) (ty := .int) (by decide) rfl rfl (g := (mkF m 28 #[rv oa, rv oy, rv ok, rv od, iv x1, iv x2, iv x3] [(.int x2), (.ref oa)])) rfl rfl (hb hby d6_28)
  have f12w := f13.same W12
  have K12 : Keep h0 h12 [oa] := K9.wr W12 (Or.inl (List.mem_of_getElem? (i := 0) rfl))
  have N12 := Fr.snoc X12 N9 g_
  have sz12 : n0 ≤ h12.size := Nat.le_trans sz9 (Keep.of_wr W12).1
  have f16 : Fld Z h12 oa "com/example/tiercast/tiercast/protocol/Boundaries$Summary" "epoch" "I" u5 := (((((F5.other W2 (Or.inr (slot_ne (Or.inr (hw _ (List.mem_of_getElem? (i := 57) rfl))) (Or.inr (hw _ (List.mem_of_getElem? (i := 47) rfl))) (by decide) (t := .int) (t' := (.object "com/example/tiercast/tiercast/model/MessageType")) (by decide) (by decide)))).other W3 (Or.inr (slot_ne (Or.inr (hw _ (List.mem_of_getElem? (i := 57) rfl))) (Or.inr (hw _ (List.mem_of_getElem? (i := 49) rfl))) (by decide) (t := .int) (t' := (.object "com/example/tiercast/tiercast/protocol/Knots")) (by decide) (by decide)))).other W6 (Or.inr (slot_ne (Or.inr (hw _ (List.mem_of_getElem? (i := 57) rfl))) (Or.inr (hw _ (List.mem_of_getElem? (i := 51) rfl))) (by decide) (t := .int) (t' := (.array .int)) (by decide) (by decide)))).other W9 (Or.inr (slot_ne (Or.inr (hw _ (List.mem_of_getElem? (i := 57) rfl))) (Or.inr (hw _ (List.mem_of_getElem? (i := 53) rfl))) (by decide) (t := .int) (t' := .int) (by decide) (by decide)))).other W12 (Or.inr (slot_ne (Or.inr (hw _ (List.mem_of_getElem? (i := 57) rfl))) (Or.inr (hw _ (List.mem_of_getElem? (i := 55) rfl))) (by decide) (t := .int) (t' := .int) (by decide) (by decide))))
  have f17 : Exa Z h12 oa "com/example/tiercast/tiercast/protocol/Boundaries$Summary" := (f14.wr W12)
  obtain ⟨T15, h15, X15, e15, W15, st15⟩ := putF X12 hx hZ hown (host := "") (Or.inl (hw _ (List.mem_of_getElem? (i := 56) rfl))) Via.refl e12 f16 f17 (Or.inr ⟨(hw _ (List.mem_of_getElem? (i := 57) rfl)), rfl, hnm⟩) (hw _ (List.mem_of_getElem? (i := 35) rfl)) (ty := .int) (by decide) rfl rfl (g := (mkF m 34 #[rv oa, rv oy, rv ok, rv od, iv x1, iv x2, iv x3] [(.int x3), (.ref oa)])) rfl rfl (hb hby d6_34)
  have f15w := f16.same W15
  have K15 : Keep h0 h15 [oa] := K12.wr W15 (Or.inl (List.mem_of_getElem? (i := 0) rfl))
  have N15 := Fr.snoc X15 N12 g_
  have sz15 : n0 ≤ h15.size := Nat.le_trans sz12 (Keep.of_wr W15).1
  have pre18 : ∀ t, own_K p e below m T15 37 #[rv oa, rv oy, rv ok, rv od, iv x1, iv x2, iv x3] [] t → G t := by
    intro t k
    refine pre0 t ?_
    show own_K p e below m s₁ 0 #[rv oa, rv oy, rv ok, rv od, iv x1, iv x2, iv x3] [] _
    refine XS.aloadN X0.here hx rfl (hb hby d6_0) rfl rfl ?_
    show own_K p e below m s₁ 1 #[rv oa, rv oy, rv ok, rv od, iv x1, iv x2, iv x3] [(.ref oa)] _
    refine st1.trans ?_
    show own_K p e below m T1 4 #[rv oa, rv oy, rv ok, rv od, iv x1, iv x2, iv x3] [] _
    refine XS.aloadN X1.here hx rfl (hb hby d6_4) rfl rfl ?_
    show own_K p e below m T1 5 #[rv oa, rv oy, rv ok, rv od, iv x1, iv x2, iv x3] [(.ref oa)] _
    refine XS.aloadN X1.here hx rfl (hb hby d6_5) rfl rfl ?_
    show own_K p e below m T1 6 #[rv oa, rv oy, rv ok, rv od, iv x1, iv x2, iv x3] [(.ref oy), (.ref oa)] _
    refine st2 _ ?_
    show own_K p e below m T2 9 #[rv oa, rv oy, rv ok, rv od, iv x1, iv x2, iv x3] [] _
    refine XS.aloadN X2.here hx rfl (hb hby d6_9) rfl rfl ?_
    show own_K p e below m T2 10 #[rv oa, rv oy, rv ok, rv od, iv x1, iv x2, iv x3] [(.ref oa)] _
    refine XS.aloadN X2.here hx rfl (hb hby d6_10) rfl rfl ?_
    show own_K p e below m T2 11 #[rv oa, rv oy, rv ok, rv od, iv x1, iv x2, iv x3] [(.ref ok), (.ref oa)] _
    refine st3 _ ?_
    show own_K p e below m T3 14 #[rv oa, rv oy, rv ok, rv od, iv x1, iv x2, iv x3] [] _
    refine XS.aloadN X3.here hx rfl (hb hby d6_14) rfl rfl ?_
    show own_K p e below m T3 15 #[rv oa, rv oy, rv ok, rv od, iv x1, iv x2, iv x3] [(.ref oa)] _
    refine XS.aloadN X3.here hx rfl (hb hby d6_15) rfl rfl ?_
    show own_K p e below m T3 16 #[rv oa, rv oy, rv ok, rv od, iv x1, iv x2, iv x3] [(.ref od), (.ref oa)] _
    refine st6 _ ?_
    show own_K p e below m T6 19 #[rv oa, rv oy, rv ok, rv od, iv x1, iv x2, iv x3] [] _
    refine XS.aloadN X6.here hx rfl (hb hby d6_19) rfl rfl ?_
    show own_K p e below m T6 20 #[rv oa, rv oy, rv ok, rv od, iv x1, iv x2, iv x3] [(.ref oa)] _
    refine XS.iload X6.here hx rfl (hb hby d6_20) rfl ?_
    show own_K p e below m T6 22 #[rv oa, rv oy, rv ok, rv od, iv x1, iv x2, iv x3] [(.int x1), (.ref oa)] _
    refine st9 _ ?_
    show own_K p e below m T9 25 #[rv oa, rv oy, rv ok, rv od, iv x1, iv x2, iv x3] [] _
    refine XS.aloadN X9.here hx rfl (hb hby d6_25) rfl rfl ?_
    show own_K p e below m T9 26 #[rv oa, rv oy, rv ok, rv od, iv x1, iv x2, iv x3] [(.ref oa)] _
    refine XS.iload X9.here hx rfl (hb hby d6_26) rfl ?_
    show own_K p e below m T9 28 #[rv oa, rv oy, rv ok, rv od, iv x1, iv x2, iv x3] [(.int x2), (.ref oa)] _
    refine st12 _ ?_
    show own_K p e below m T12 31 #[rv oa, rv oy, rv ok, rv od, iv x1, iv x2, iv x3] [] _
    refine XS.aloadN X12.here hx rfl (hb hby d6_31) rfl rfl ?_
    show own_K p e below m T12 32 #[rv oa, rv oy, rv ok, rv od, iv x1, iv x2, iv x3] [(.ref oa)] _
    refine XS.iload X12.here hx rfl (hb hby d6_32) rfl ?_
    show own_K p e below m T12 34 #[rv oa, rv oy, rv ok, rv od, iv x1, iv x2, iv x3] [(.int x3), (.ref oa)] _
    refine st15 _ ?_
    exact k
  have f19 : Fld Z h15 oa "com/example/tiercast/tiercast/protocol/Boundaries$Summary" "knots" "Lcom/example/tiercast/tiercast/protocol/Knots;" (.ref ok) := ((((f3w.other W6 (Or.inr (slot_ne (Or.inr (hw _ (List.mem_of_getElem? (i := 49) rfl))) (Or.inr (hw _ (List.mem_of_getElem? (i := 51) rfl))) (by decide) (t := (.object "com/example/tiercast/tiercast/protocol/Knots")) (t' := (.array .int)) (by decide) (by decide)))).other W9 (Or.inr (slot_ne (Or.inr (hw _ (List.mem_of_getElem? (i := 49) rfl))) (Or.inr (hw _ (List.mem_of_getElem? (i := 53) rfl))) (by decide) (t := (.object "com/example/tiercast/tiercast/protocol/Knots")) (t' := .int) (by decide) (by decide)))).other W12 (Or.inr (slot_ne (Or.inr (hw _ (List.mem_of_getElem? (i := 49) rfl))) (Or.inr (hw _ (List.mem_of_getElem? (i := 55) rfl))) (by decide) (t := (.object "com/example/tiercast/tiercast/protocol/Knots")) (t' := .int) (by decide) (by decide)))).other W15 (Or.inr (slot_ne (Or.inr (hw _ (List.mem_of_getElem? (i := 49) rfl))) (Or.inr (hw _ (List.mem_of_getElem? (i := 57) rfl))) (by decide) (t := (.object "com/example/tiercast/tiercast/protocol/Knots")) (t' := .int) (by decide) (by decide))))
  obtain ⟨fs, hr, hrun, hended, hW, hsame⟩ := X15.leave (v := none) (fun _ => rfl)
  refine ⟨_, _, hG _ (pre18 _ ?_), hrun, hended, _, _, rfl, ?_, ⟨_, rfl⟩, hW, hsame.mono (by decide) (by decide)⟩
  · show own_K p e below m T15 37 #[rv oa, rv oy, rv ok, rv od, iv x1, iv x2, iv x3] [] _
    exact X15.returnOut hx Bd.returns (hb hby d6_37) hr
  · show Q6 Z oa oy ok od x1 x2 x3 u0 u1 u2 u3 u4 u5 h0 n0 _ T15.heap _
    rw [e15]
    exact ⟨rfl, N15, K15, f19⟩

theorem d8_0 : decode prog_63_method_6_code 0 = .ok (.aload_n 0, 1) := by decide +kernel
theorem d8_1 : decode prog_63_method_6_code 1 = .ok (.getfield 15, 3) := by decide +kernel
theorem d8_4 : decode prog_63_method_6_code 4 = .ok (.ifnonnull 7, 3) := by decide +kernel
theorem d8_7 : decode prog_63_method_6_code 7 = .ok (.iconst 0, 1) := by decide +kernel
theorem d8_8 : decode prog_63_method_6_code 8 = .ok (.goto 11, 3) := by decide +kernel
theorem d8_19 : decode prog_63_method_6_code 19 = .ok (.ireturn, 1) := by decide +kernel
theorem ef_8n (m : MethodId) (x0 : Addr) : entryFrame m #[(.ref x0)] 1 = mkF m 0 #[rv x0] [] := by first | (simp [entryFrame, mkF, argsToLocals, Value.category]; done) | rfl
def Q8n (Z : State) (oa : Addr) (h0 : Heap) (n0 : Nat) (rv_ : Option Value) (h_ : Heap) (L_ : List Loc) : Prop := rv_ = some (.int (0 : Int32)) ∧ Fr n0 L_ ∧ h_ = h0
set_option maxRecDepth 65536 in
set_option maxHeartbeats 40000000 in
theorem rm8n (l : Launch) (Z : State) (a0 : Array Value) (hw : ∀ d ∈ tables_1, d.before a0 Z = true) (ws : List Jvm.Cond) (oa : Addr) (h0 : Heap) (n0 : Nat) (Z0 : n0 ≤ h0.size) (Fk : Fld Z h0 oa "com/example/tiercast/tiercast/protocol/Boundaries$Summary" "knots" "Lcom/example/tiercast/tiercast/protocol/Knots;" .null) :
    MetFree l (⟨"com/example/tiercast/tiercast/protocol/Boundaries$Summary", "knotCount", "()I"⟩ : MethodName) (head1 (Jvm.Cond.code (⟨"com/example/tiercast/tiercast/protocol/Boundaries$Summary", "knotCount", "()I"⟩ : MethodName) prog_63_method_6_code 1 (some .int) :: ws) ({ frames := 0, cells := 0, slots := 0, locals := 0 } : Room)) (fun a U => a = #[(.ref oa)] ∧ Z.Warmed39 U.vm ∧ U.heap = h0) (fun _ _ _ _ _ => True) (fun _ U o U' => ∃ v L, o = .returned v ∧ Q8n Z oa h0 n0 v U'.heap L ∧ FrameEnd U o U' L ({ frames := 0, cells := 0, slots := 0, locals := 0 } : Room).cells ({ frames := 0, cells := 0, slots := 0, locals := 0 } : Room).slots) := by
  refine MetFree.of_bodySF (plainFor_of_name pn_3) hisR ?_
  intro p e s m args below meth c s₁ Bd hml0 hP hK
  obtain ⟨rfl, hZ, hh⟩ := hP
  have hx := Bd.exec
  have hby := Bd.bytes
  have hml : c.maxLocals = 1 := hml0
  have hown : s.vm.findClass "com/example/tiercast/tiercast/protocol/Boundaries$Summary" = some m.cls := findClass_of_methodNamed Bd.named
  have hnm := (name_of_methodNamed Bd.named Bd.method).1
  have X0 : Stand p l e ({ frames := 0, cells := 0, slots := 0, locals := 0 } : Room) s m #[(.ref oa)] below meth c s₁ [] 0 0 := Stand.of_body Bd
  have e0 : s₁.heap = h0 := by rw [← hh, Bd.state]; rfl
  have N0 := Fr.nil n0
  obtain ⟨G, hG, pre0⟩ : ∃ G : State → Prop, (∀ t, G t → Steps p.tables e below (s₁.setTop (entryFrame m #[(.ref oa)] 1)) t) ∧ ∀ t, own_K p e below m s₁ 0 #[rv oa] [] t → G t := ⟨fun t => Steps p.tables e below (s₁.setTop (entryFrame m #[(.ref oa)] 1)) t, fun _ k => k, fun t k => castTop (ef_8n m oa) k⟩
  obtain ⟨T1, X1, e1, st1⟩ := getF X0 hx hZ hown (host := "") (Or.inl (hw _ (List.mem_of_getElem? (i := 48) rfl))) Via.refl e0 Fk (g := (mkF m 1 #[rv oa] [(.ref oa)])) rfl rfl (hb hby d8_1)
  have pre2 : ∀ t, own_K p e below m T1 19 #[rv oa] [(.int (0 : Int32))] t → G t := by
    intro t k
    refine pre0 t ?_
    show own_K p e below m s₁ 0 #[rv oa] [] _
    refine XS.aloadN X0.here hx rfl (hb hby d8_0) rfl rfl ?_
    show own_K p e below m s₁ 1 #[rv oa] [(.ref oa)] _
    refine st1 _ ?_
    show own_K p e below m T1 4 #[rv oa] [.null] _
    refine XS.ifnonnullNo X1.here hx rfl (hb hby d8_4) rfl ?_
    show own_K p e below m T1 7 #[rv oa] [] _
    refine XS.iconst X1.here hx rfl (hb hby d8_7) ?_
    show own_K p e below m T1 8 #[rv oa] [(.int (0 : Int32))] _
    refine XS.goto X1.here hx rfl (pc0 := 8) (pc' := 19) rfl (hb hby d8_8) (by decide) (by decide) ?_
    exact k
  obtain ⟨fs, hr, hrun, hended, hW, hsame⟩ := X1.leave (v := some (.int (0 : Int32))) (fun h => by rw [Bd.returns] at h; cases h)
  refine ⟨_, _, hG _ (pre2 _ ?_), hrun, hended, _, _, rfl, ?_, ⟨_, rfl⟩, hW, hsame.mono (by decide) (by decide)⟩
  · show own_K p e below m T1 19 #[rv oa] [(.int (0 : Int32))] _
    exact retI X1 hx Bd.returns (hb hby d8_19) hr
  · show Q8n Z oa h0 n0 _ T1.heap _
    rw [e1]
    exact ⟨rfl, N0, rfl⟩

theorem d8_11 : decode prog_63_method_6_code 11 = .ok (.aload_n 0, 1) := by decide +kernel
theorem d8_12 : decode prog_63_method_6_code 12 = .ok (.getfield 15, 3) := by decide +kernel
theorem d8_15 : decode prog_63_method_6_code 15 = .ok (.getfield 93, 3) := by decide +kernel
theorem d8_18 : decode prog_63_method_6_code 18 = .ok (.arraylength, 1) := by decide +kernel
def Q8 (Z : State) (oa : Addr) (ok : Addr) (op : Addr) (kp : ClassId) (xn : Int32) (vs : List Value) (h0 : Heap) (n0 : Nat) (rv_ : Option Value) (h_ : Heap) (L_ : List Loc) : Prop := rv_ = some (.int xn) ∧ Fr n0 L_ ∧ h_ = h0
set_option maxRecDepth 65536 in
set_option maxHeartbeats 40000000 in
theorem rm8 (l : Launch) (Z : State) (a0 : Array Value) (hw : ∀ d ∈ tables_1, d.before a0 Z = true) (ws : List Jvm.Cond) (oa : Addr) (ok : Addr) (op : Addr) (kp : ClassId) (xn : Int32) (vs : List Value) (h0 : Heap) (n0 : Nat) (Z0 : n0 ≤ h0.size) (Fk : Fld Z h0 oa "com/example/tiercast/tiercast/protocol/Boundaries$Summary" "knots" "Lcom/example/tiercast/tiercast/protocol/Knots;" (.ref ok)) (Fp : Fld Z h0 ok "com/example/tiercast/tiercast/protocol/Knots" "places" "[F" (.ref op)) (Vp : Arv Z h0 op kp .float xn vs (.float (0 : UInt32))) :
    MetFree l (⟨"com/example/tiercast/tiercast/protocol/Boundaries$Summary", "knotCount", "()I"⟩ : MethodName) (head1 (Jvm.Cond.code (⟨"com/example/tiercast/tiercast/protocol/Boundaries$Summary", "knotCount", "()I"⟩ : MethodName) prog_63_method_6_code 1 (some .int) :: ws) ({ frames := 0, cells := 0, slots := 0, locals := 0 } : Room)) (fun a U => a = #[(.ref oa)] ∧ Z.Warmed39 U.vm ∧ U.heap = h0) (fun _ _ _ _ _ => True) (fun _ U o U' => ∃ v L, o = .returned v ∧ Q8 Z oa ok op kp xn vs h0 n0 v U'.heap L ∧ FrameEnd U o U' L ({ frames := 0, cells := 0, slots := 0, locals := 0 } : Room).cells ({ frames := 0, cells := 0, slots := 0, locals := 0 } : Room).slots) := by
  refine MetFree.of_bodySF (plainFor_of_name pn_3) hisR ?_
  intro p e s m args below meth c s₁ Bd hml0 hP hK
  obtain ⟨rfl, hZ, hh⟩ := hP
  have hx := Bd.exec
  have hby := Bd.bytes
  have hml : c.maxLocals = 1 := hml0
  have hown : s.vm.findClass "com/example/tiercast/tiercast/protocol/Boundaries$Summary" = some m.cls := findClass_of_methodNamed Bd.named
  have hnm := (name_of_methodNamed Bd.named Bd.method).1
  have X0 : Stand p l e ({ frames := 0, cells := 0, slots := 0, locals := 0 } : Room) s m #[(.ref oa)] below meth c s₁ [] 0 0 := Stand.of_body Bd
  have e0 : s₁.heap = h0 := by rw [← hh, Bd.state]; rfl
  have N0 := Fr.nil n0
  obtain ⟨G, hG, pre0⟩ : ∃ G : State → Prop, (∀ t, G t → Steps p.tables e below (s₁.setTop (entryFrame m #[(.ref oa)] 1)) t) ∧ ∀ t, own_K p e below m s₁ 0 #[rv oa] [] t → G t := ⟨fun t => Steps p.tables e below (s₁.setTop (entryFrame m #[(.ref oa)] 1)) t, fun _ k => k, fun t k => castTop (ef_8n m oa) k⟩
  obtain ⟨T1, X1, e1, st1⟩ := getF X0 hx hZ hown (host := "") (Or.inl (hw _ (List.mem_of_getElem? (i := 48) rfl))) Via.refl e0 Fk (g := (mkF m 1 #[rv oa] [(.ref oa)])) rfl rfl (hb hby d8_1)
  obtain ⟨T2, X2, e2, st2⟩ := getF X1 hx hZ hown (host := "") (Or.inl (hw _ (List.mem_of_getElem? (i := 48) rfl))) Via.refl e1 Fk (g := (mkF m 12 #[rv oa] [(.ref oa)])) rfl rfl (hb hby d8_12)
  obtain ⟨T3, X3, e3, st3⟩ := getF X2 hx hZ hown (host := "") (Or.inl (hw _ (List.mem_of_getElem? (i := 63) rfl))) Via.refl e2 Fp (g := (mkF m 15 #[rv oa] [(.ref ok)])) rfl rfl (hb hby d8_15)
  have pre5 : ∀ t, own_K p e below m T3 19 #[rv oa] [(.int xn)] t → G t := by
    intro t k
    refine pre0 t ?_
    show own_K p e below m s₁ 0 #[rv oa] [] _
    refine XS.aloadN X0.here hx rfl (hb hby d8_0) rfl rfl ?_
    show own_K p e below m s₁ 1 #[rv oa] [(.ref oa)] _
    refine st1 _ ?_
    show own_K p e below m T1 4 #[rv oa] [(.ref ok)] _
    refine XS.ifnonnullYes X1.here hx rfl (pc0 := 4) (pc' := 11) rfl (hb hby d8_4) rfl (by decide) (by decide) ?_
    show own_K p e below m T1 11 #[rv oa] [] _
    refine XS.aloadN X1.here hx rfl (hb hby d8_11) rfl rfl ?_
    show own_K p e below m T1 12 #[rv oa] [(.ref oa)] _
    refine st2 _ ?_
    show own_K p e below m T2 15 #[rv oa] [(.ref ok)] _
    refine st3 _ ?_
    show own_K p e below m T3 18 #[rv oa] [(.ref op)] _
    refine own_len X3 hx hZ e3 Vp (g := (mkF m 18 #[rv oa] [(.ref op)])) rfl rfl (hb hby d8_18) _ ?_
    exact k
  obtain ⟨fs, hr, hrun, hended, hW, hsame⟩ := X3.leave (v := some (.int xn)) (fun h => by rw [Bd.returns] at h; cases h)
  refine ⟨_, _, hG _ (pre5 _ ?_), hrun, hended, _, _, rfl, ?_, ⟨_, rfl⟩, hW, hsame.mono (by decide) (by decide)⟩
  · show own_K p e below m T3 19 #[rv oa] [(.int xn)] _
    exact retI X3 hx Bd.returns (hb hby d8_19) hr
  · show Q8 Z oa ok op kp xn vs h0 n0 _ T3.heap _
    rw [e3]
    exact ⟨rfl, N0, rfl⟩

theorem pd_4 : parseMethodDescriptor "(IFI)V" = some ⟨[.int, .float, .int], none⟩ := by decide +kernel
theorem pd_5 : parseMethodDescriptor "(Lcom/example/tiercast/tiercast/model/MessageType;Lcom/example/tiercast/tiercast/protocol/Knots;[IIII)V" = some ⟨[(.object "com/example/tiercast/tiercast/model/MessageType"), (.object "com/example/tiercast/tiercast/protocol/Knots"), (.array .int), .int, .int, .int], none⟩ := by decide +kernel
theorem pd_6 : parseMethodDescriptor "()I" = some ⟨[], some .int⟩ := by decide +kernel
theorem pn_4 : plainName "com/example/tiercast/tiercast/protocol/SummaryKnotCountPinLaw" = true := by first | (simp [plainName, overriddenIn]; done) | decide +kernel
theorem ef_0 (m : MethodId) (x0 : Int32) (x1 : Int32) (x2 : Int32) (x3 : Int32) (x4 : Int32) (x5 : Int32) : entryFrame m #[(.int x0), (.int x1), (.int x2), (.int x3), (.int x4), (.int x5)] maxLocals = mkF m 0 #[iv x0, iv x1, iv x2, iv x3, iv x4, iv x5, .unset, .unset, .unset, .unset, .unset, .unset, .unset] [] := by first | (simp [entryFrame, mkF, argsToLocals, Value.category, maxLocals]; done) | rfl
def Q0 (Z : State) (p1 : Int32) (p2 : Int32) (p3 : Int32) (p4 : Int32) (p5 : Int32) (p6 : Int32) (c1 : Addr) (c2 : Addr) (h0 : Heap) (n0 : Nat) (rv_ : Option Value) (h_ : Heap) (L_ : List Loc) : Prop := rv_ = some (.int (1 : Int32)) ∧ Fr n0 L_ ∧ Keep h0 h_ []
set_option maxRecDepth 65536 in
set_option maxHeartbeats 40000000 in
theorem rm0 (l : Launch) (Z : State) (a0 : Array Value) (hw : ∀ d ∈ tables_1, d.before a0 Z = true) (ws : List Jvm.Cond) (p1 : Int32) (p2 : Int32) (p3 : Int32) (p4 : Int32) (p5 : Int32) (p6 : Int32) (c1 : Addr) (c2 : Addr) (h0 : Heap) (n0 : Nat) (Z0 : n0 ≤ h0.size) (O_ : Old Z n0 h0) (S1 : Sta Z Z.heap "com/example/tiercast/tiercast/model/MessageType" "SUMMARY_REQUEST" "Lcom/example/tiercast/tiercast/model/MessageType;" (.ref c1)) (S2 : Sta Z Z.heap "com/example/tiercast/tiercast/model/MessageType" "SUMMARY_ANSWER" "Lcom/example/tiercast/tiercast/model/MessageType;" (.ref c2)) :
    MetFree l x (head1 (Jvm.Cond.code x code maxLocals ret :: ws) room_1) (fun a U => a = #[(.int p1), (.int p2), (.int p3), (.int p4), (.int p5), (.int p6)] ∧ Z.Warmed39 U.vm ∧ U.heap = h0) (fun _ _ _ _ _ => True) (fun _ U o U' => ∃ v L, o = .returned v ∧ Q0 Z p1 p2 p3 p4 p5 p6 c1 c2 h0 n0 v U'.heap L ∧ FrameEnd U o U' L 5 80) := by
  refine MetFree.of_bodySF (plainFor_of_name pn_4) hisR ?_
  intro p e s m args below meth c s₁ Bd hml0 hP hK
  obtain ⟨rfl, hZ, hh⟩ := hP
  have hx := Bd.exec
  have hby := Bd.bytes
  have hml : c.maxLocals = 13 := hml0
  have hown : s.vm.findClass "com/example/tiercast/tiercast/protocol/SummaryKnotCountPinLaw" = some m.cls := findClass_of_methodNamed Bd.named
  have hnm := (name_of_methodNamed Bd.named Bd.method).1
  have X0 : Stand p l e room_1 s m #[(.int p1), (.int p2), (.int p3), (.int p4), (.int p5), (.int p6)] below meth c s₁ [] 0 0 := Stand.of_body Bd
  have e0 : s₁.heap = h0 := by rw [← hh, Bd.state]; rfl
  have N0 := Fr.nil n0
  obtain ⟨G, hG, pre0⟩ : ∃ G : State → Prop, (∀ t, G t → Steps p.tables e below (s₁.setTop (entryFrame m #[(.int p1), (.int p2), (.int p3), (.int p4), (.int p5), (.int p6)] maxLocals)) t) ∧ ∀ t, own_K p e below m s₁ 0 #[iv p1, iv p2, iv p3, iv p4, iv p5, iv p6, .unset, .unset, .unset, .unset, .unset, .unset, .unset] [] t → G t := ⟨fun t => Steps p.tables e below (s₁.setTop (entryFrame m #[(.int p1), (.int p2), (.int p3), (.int p4), (.int p5), (.int p6)] maxLocals)) t, fun _ k => k, fun t k => castTop (ef_0 m p1 p2 p3 p4 p5 p6) k⟩
  have pre1 : ∀ t, own_K p e below m s₁ 4 #[iv p1, iv p2, iv p3, iv p4, iv p5, iv p6, .unset, .unset, .unset, .unset, .unset, .unset, .unset] [(.int (p1 &&& (31 : Int32)))] t → G t := by
    intro t k
    refine pre0 t ?_
    show own_K p e below m s₁ 0 #[iv p1, iv p2, iv p3, iv p4, iv p5, iv p6, .unset, .unset, .unset, .unset, .unset, .unset, .unset] [] _
    refine XS.iloadN X0.here hx rfl (hb hby at_0) rfl ?_
    show own_K p e below m s₁ 1 #[iv p1, iv p2, iv p3, iv p4, iv p5, iv p6, .unset, .unset, .unset, .unset, .unset, .unset, .unset] [(.int p1)] _
    refine XS.bipush X0.here hx rfl (hb hby at_1) ?_
    show own_K p e below m s₁ 3 #[iv p1, iv p2, iv p3, iv p4, iv p5, iv p6, .unset, .unset, .unset, .unset, .unset, .unset, .unset] [(.int (31 : Int32)), (.int p1)] _
    refine XS.iand X0.here hx rfl (hb hby at_3) rfl ?_
    exact k
  obtain ⟨xn, hxn⟩ : ∃ z : Int32, z = (p1 &&& (31 : Int32)) := ⟨_, rfl⟩
  have pre2 : ∀ t, own_K p e below m s₁ 4 #[iv p1, iv p2, iv p3, iv p4, iv p5, iv p6, .unset, .unset, .unset, .unset, .unset, .unset, .unset] [(.int xn)] t → G t := fun t k => pre1 t (by rw [hxn] at k; exact k)
  obtain ⟨nN, hn, bn⟩ := own_mask31 _ _ hxn
  have pre3 : ∀ t, own_K p e below m s₁ 10 #[iv p1, iv p2, iv p3, iv p4, iv p5, iv p6, iv xn, .unset, .unset, .unset, .unset, .unset, .unset] [(.int (p2 &&& (7 : Int32)))] t → G t := by
    intro t k
    refine pre2 t ?_
    show own_K p e below m s₁ 4 #[iv p1, iv p2, iv p3, iv p4, iv p5, iv p6, .unset, .unset, .unset, .unset, .unset, .unset, .unset] [(.int xn)] _
    refine XS.istore X0.here hx rfl (hb hby at_4) rfl (l' := #[iv p1, iv p2, iv p3, iv p4, iv p5, iv p6, iv xn, .unset, .unset, .unset, .unset, .unset, .unset]) rfl ?_
    show own_K p e below m s₁ 6 #[iv p1, iv p2, iv p3, iv p4, iv p5, iv p6, iv xn, .unset, .unset, .unset, .unset, .unset, .unset] [] _
    refine XS.iloadN X0.here hx rfl (hb hby at_6) rfl ?_
    show own_K p e below m s₁ 7 #[iv p1, iv p2, iv p3, iv p4, iv p5, iv p6, iv xn, .unset, .unset, .unset, .unset, .unset, .unset] [(.int p2)] _
    refine XS.bipush X0.here hx rfl (hb hby at_7) ?_
    show own_K p e below m s₁ 9 #[iv p1, iv p2, iv p3, iv p4, iv p5, iv p6, iv xn, .unset, .unset, .unset, .unset, .unset, .unset] [(.int (7 : Int32)), (.int p2)] _
    refine XS.iand X0.here hx rfl (hb hby at_9) rfl ?_
    exact k
  obtain ⟨xd, hxd⟩ : ∃ z : Int32, z = (p2 &&& (7 : Int32)) := ⟨_, rfl⟩
  have pre4 : ∀ t, own_K p e below m s₁ 10 #[iv p1, iv p2, iv p3, iv p4, iv p5, iv p6, iv xn, .unset, .unset, .unset, .unset, .unset, .unset] [(.int xd)] t → G t := fun t k => pre3 t (by rw [hxd] at k; exact k)
  obtain ⟨dN, hd, bd⟩ := own_mask7 _ _ hxd
  have pre5 : ∀ t, own_K p e below m s₁ 16 #[iv p1, iv p2, iv p3, iv p4, iv p5, iv p6, iv xn, iv xd, .unset, .unset, .unset, .unset, .unset] [(.int (p5 &&& (1 : Int32)))] t → G t := by
    intro t k
    refine pre4 t ?_
    show own_K p e below m s₁ 10 #[iv p1, iv p2, iv p3, iv p4, iv p5, iv p6, iv xn, .unset, .unset, .unset, .unset, .unset, .unset] [(.int xd)] _
    refine XS.istore X0.here hx rfl (hb hby at_10) rfl (l' := #[iv p1, iv p2, iv p3, iv p4, iv p5, iv p6, iv xn, iv xd, .unset, .unset, .unset, .unset, .unset]) rfl ?_
    show own_K p e below m s₁ 12 #[iv p1, iv p2, iv p3, iv p4, iv p5, iv p6, iv xn, iv xd, .unset, .unset, .unset, .unset, .unset] [] _
    refine XS.iload X0.here hx rfl (hb hby at_12) rfl ?_
    show own_K p e below m s₁ 14 #[iv p1, iv p2, iv p3, iv p4, iv p5, iv p6, iv xn, iv xd, .unset, .unset, .unset, .unset, .unset] [(.int p5)] _
    refine XS.iconst X0.here hx rfl (hb hby at_14) ?_
    show own_K p e below m s₁ 15 #[iv p1, iv p2, iv p3, iv p4, iv p5, iv p6, iv xn, iv xd, .unset, .unset, .unset, .unset, .unset] [(.int (1 : Int32)), (.int p5)] _
    refine XS.iand X0.here hx rfl (hb hby at_15) rfl ?_
    exact k
  obtain ⟨v9, hv9⟩ : ∃ z : Int32, z = (if (p5 &&& (1 : Int32)) = (0 : Int32) then (0 : Int32) else (1 : Int32)) := ⟨_, rfl⟩
  have pre10 : ∀ t, own_K p e below m s₁ 24 #[iv p1, iv p2, iv p3, iv p4, iv p5, iv p6, iv xn, iv xd, .unset, .unset, .unset, .unset, .unset] [(.int v9)] t → G t := by
    by_cases hc16_6 : (p5 &&& (1 : Int32)) = (0 : Int32)
    · have pre7 : ∀ t, own_K p e below m s₁ 24 #[iv p1, iv p2, iv p3, iv p4, iv p5, iv p6, iv xn, iv xd, .unset, .unset, .unset, .unset, .unset] [(.int (0 : Int32))] t → G t := by
        intro t k
        refine pre5 t ?_
        show own_K p e below m s₁ 16 #[iv p1, iv p2, iv p3, iv p4, iv p5, iv p6, iv xn, iv xd, .unset, .unset, .unset, .unset, .unset] [(.int (p5 &&& (1 : Int32)))] _
        refine XS.ifYes X0.here hx rfl (pc0 := 16) (pc' := 23) rfl (hb hby at_16) rfl ((if0 _ _).trans (teq hc16_6).1) (by decide) (by decide) ?_
        show own_K p e below m s₁ 23 #[iv p1, iv p2, iv p3, iv p4, iv p5, iv p6, iv xn, iv xd, .unset, .unset, .unset, .unset, .unset] [] _
        refine XS.iconst X0.here hx rfl (hb hby at_23) ?_
        exact k
      have hq := True.intro
      obtain rfl : v9 = (0 : Int32) := by simp only [hv9, if_pos hc16_6]
      exact fun t k => pre7 t k
    · have pre8 : ∀ t, own_K p e below m s₁ 24 #[iv p1, iv p2, iv p3, iv p4, iv p5, iv p6, iv xn, iv xd, .unset, .unset, .unset, .unset, .unset] [(.int (1 : Int32))] t → G t := by
        intro t k
        refine pre5 t ?_
        show own_K p e below m s₁ 16 #[iv p1, iv p2, iv p3, iv p4, iv p5, iv p6, iv xn, iv xd, .unset, .unset, .unset, .unset, .unset] [(.int (p5 &&& (1 : Int32)))] _
        refine XS.ifNo X0.here hx rfl (hb hby at_16) rfl ((if0 _ _).trans (feq hc16_6).1) ?_
        show own_K p e below m s₁ 19 #[iv p1, iv p2, iv p3, iv p4, iv p5, iv p6, iv xn, iv xd, .unset, .unset, .unset, .unset, .unset] [] _
        refine XS.iconst X0.here hx rfl (hb hby at_19) ?_
        show own_K p e below m s₁ 20 #[iv p1, iv p2, iv p3, iv p4, iv p5, iv p6, iv xn, iv xd, .unset, .unset, .unset, .unset, .unset] [(.int (1 : Int32))] _
        refine XS.goto X0.here hx rfl (pc0 := 20) (pc' := 24) rfl (hb hby at_20) (by decide) (by decide) ?_
        exact k
      have hq := True.intro
      obtain rfl : v9 = (1 : Int32) := by simp only [hv9, if_neg hc16_6]
      exact fun t k => pre8 t k
  have pre11 : ∀ t, own_K p e below m s₁ 30 #[iv p1, iv p2, iv p3, iv p4, iv p5, iv p6, iv xn, iv xd, iv v9, .unset, .unset, .unset, .unset] [(.int (p5 &&& (2 : Int32)))] t → G t := by
    intro t k
    refine pre10 t ?_
    show own_K p e below m s₁ 24 #[iv p1, iv p2, iv p3, iv p4, iv p5, iv p6, iv xn, iv xd, .unset, .unset, .unset, .unset, .unset] [(.int v9)] _
    refine XS.istore X0.here hx rfl (hb hby at_24) rfl (l' := #[iv p1, iv p2, iv p3, iv p4, iv p5, iv p6, iv xn, iv xd, iv v9, .unset, .unset, .unset, .unset]) rfl ?_
    show own_K p e below m s₁ 26 #[iv p1, iv p2, iv p3, iv p4, iv p5, iv p6, iv xn, iv xd, iv v9, .unset, .unset, .unset, .unset] [] _
    refine XS.iload X0.here hx rfl (hb hby at_26) rfl ?_
    show own_K p e below m s₁ 28 #[iv p1, iv p2, iv p3, iv p4, iv p5, iv p6, iv xn, iv xd, iv v9, .unset, .unset, .unset, .unset] [(.int p5)] _
    refine XS.iconst X0.here hx rfl (hb hby at_28) ?_
    show own_K p e below m s₁ 29 #[iv p1, iv p2, iv p3, iv p4, iv p5, iv p6, iv xn, iv xd, iv v9, .unset, .unset, .unset, .unset] [(.int (2 : Int32)), (.int p5)] _
    refine XS.iand X0.here hx rfl (hb hby at_29) rfl ?_
    exact k
  obtain ⟨v17, hv17⟩ : ∃ z : Addr, z = (if (p5 &&& (2 : Int32)) = (0 : Int32) then c1 else c2) := ⟨_, rfl⟩
  obtain ⟨T18, lo18, X18, N18, e18, pre18⟩ : ∃ (T' : State) (l' : List Loc), Stand p l e room_1 s m #[(.int p1), (.int p2), (.int p3), (.int p4), (.int p5), (.int p6)] below meth c T' l' 0 0 ∧ Fr n0 l' ∧ T'.heap = h0 ∧ ∀ t, own_K p e below m T' 42 #[iv p1, iv p2, iv p3, iv p4, iv p5, iv p6, iv xn, iv xd, iv v9, .unset, .unset, .unset, .unset] [(.ref v17)] t → G t := by
    by_cases hc30_12 : (p5 &&& (2 : Int32)) = (0 : Int32)
    · obtain ⟨T13, X13, e13, st13⟩ := getS2 X0 hx hZ hown (host := "") (Or.inl (hw _ (List.mem_of_getElem? (i := 0) rfl))) Via.refl e0 (Sta.ext O_.2 S1) (g := (mkF m 39 #[iv p1, iv p2, iv p3, iv p4, iv p5, iv p6, iv xn, iv xd, iv v9, .unset, .unset, .unset, .unset] [])) rfl (hb hby at_39)
      have pre14 : ∀ t, own_K p e below m T13 42 #[iv p1, iv p2, iv p3, iv p4, iv p5, iv p6, iv xn, iv xd, iv v9, .unset, .unset, .unset, .unset] [(.ref c1)] t → G t := by
        intro t k
        refine pre11 t ?_
        show own_K p e below m s₁ 30 #[iv p1, iv p2, iv p3, iv p4, iv p5, iv p6, iv xn, iv xd, iv v9, .unset, .unset, .unset, .unset] [(.int (p5 &&& (2 : Int32)))] _
        refine XS.ifYes X0.here hx rfl (pc0 := 30) (pc' := 39) rfl (hb hby at_30) rfl ((if0 _ _).trans (teq hc30_12).1) (by decide) (by decide) ?_
        show own_K p e below m s₁ 39 #[iv p1, iv p2, iv p3, iv p4, iv p5, iv p6, iv xn, iv xd, iv v9, .unset, .unset, .unset, .unset] [] _
        refine st13 _ ?_
        exact k
      have hq := True.intro
      obtain rfl : v17 = c1 := by simp only [hv17, if_pos hc30_12]
      exact ⟨_, _, X13, N0, e13, fun t k => pre14 t k⟩
    · obtain ⟨T15, X15, e15, st15⟩ := getS2 X0 hx hZ hown (host := "") (Or.inl (hw _ (List.mem_of_getElem? (i := 64) rfl))) Via.refl e0 (Sta.ext O_.2 S2) (g := (mkF m 33 #[iv p1, iv p2, iv p3, iv p4, iv p5, iv p6, iv xn, iv xd, iv v9, .unset, .unset, .unset, .unset] [])) rfl (hb hby at_33)
      have pre16 : ∀ t, own_K p e below m T15 42 #[iv p1, iv p2, iv p3, iv p4, iv p5, iv p6, iv xn, iv xd, iv v9, .unset, .unset, .unset, .unset] [(.ref c2)] t → G t := by
        intro t k
        refine pre11 t ?_
        show own_K p e below m s₁ 30 #[iv p1, iv p2, iv p3, iv p4, iv p5, iv p6, iv xn, iv xd, iv v9, .unset, .unset, .unset, .unset] [(.int (p5 &&& (2 : Int32)))] _
        refine XS.ifNo X0.here hx rfl (hb hby at_30) rfl ((if0 _ _).trans (feq hc30_12).1) ?_
        show own_K p e below m s₁ 33 #[iv p1, iv p2, iv p3, iv p4, iv p5, iv p6, iv xn, iv xd, iv v9, .unset, .unset, .unset, .unset] [] _
        refine st15 _ ?_
        show own_K p e below m T15 36 #[iv p1, iv p2, iv p3, iv p4, iv p5, iv p6, iv xn, iv xd, iv v9, .unset, .unset, .unset, .unset] [(.ref c2)] _
        refine XS.goto X15.here hx rfl (pc0 := 36) (pc' := 42) rfl (hb hby at_36) (by decide) (by decide) ?_
        exact k
      have hq := True.intro
      obtain rfl : v17 = c2 := by simp only [hv17, if_neg hc30_12]
      exact ⟨_, _, X15, N0, e15, fun t k => pre16 t k⟩
  have pre19 : ∀ t, own_K p e below m T18 46 #[iv p1, iv p2, iv p3, iv p4, iv p5, iv p6, iv xn, iv xd, iv v9, rv v17, .unset, .unset, .unset] [(.int v9)] t → G t := by
    intro t k
    refine pre18 t ?_
    show own_K p e below m T18 42 #[iv p1, iv p2, iv p3, iv p4, iv p5, iv p6, iv xn, iv xd, iv v9, .unset, .unset, .unset, .unset] [(.ref v17)] _
    refine XS.astore X18.here hx rfl (hb hby at_42) rfl rfl (l' := #[iv p1, iv p2, iv p3, iv p4, iv p5, iv p6, iv xn, iv xd, iv v9, rv v17, .unset, .unset, .unset]) rfl ?_
    show own_K p e below m T18 44 #[iv p1, iv p2, iv p3, iv p4, iv p5, iv p6, iv xn, iv xd, iv v9, rv v17, .unset, .unset, .unset] [] _
    refine XS.iload X18.here hx rfl (hb hby at_44) rfl ?_
    exact k
  by_cases hc46_20 : v9 = (0 : Int32)
  · obtain ⟨T21, h21, X21, e21, E21, A21, D21, -, st21⟩ := newO X18 hx hZ hown (hw _ (List.mem_of_getElem? (i := 3) rfl)) (hw _ (List.mem_of_getElem? (i := 4) rfl)) (hw _ (List.mem_of_getElem? (i := 5) rfl)) e18 (g := (mkF m 53 #[iv p1, iv p2, iv p3, iv p4, iv p5, iv p6, iv xn, iv xd, iv v9, rv v17, .unset, .unset, .unset] [])) rfl (hb hby at_53) (by decide) (by decide)
    obtain ⟨b21, g21⟩ : ∃ z, z = h0.size := ⟨_, rfl⟩
    rw [← g21] at A21 D21 st21
    have ge_b21 : n0 ≤ b21 := Nat.le_trans Z0 (Nat.le_of_eq g21.symm)
    have sz_b21 : h0.size ≤ b21 := Nat.le_trans (Keep.refl h0 []).1 (Nat.le_of_eq g21.symm)
    have K21 : Keep h0 h21 [] := (Keep.refl h0 []).ext E21
    have sz21 : n0 ≤ h21.size := Nat.le_trans Z0 E21.1
    have f22 : Fld Z h21 b21 "com/example/tiercast/tiercast/protocol/Knots" "places" "[F" .null := D21 (Or.inr (hw _ (List.mem_of_getElem? (i := 18) rfl))) (ty := (.array .float)) (by decide)
    have f23 : Fld Z h21 b21 "com/example/tiercast/tiercast/protocol/Knots" "ties" "[I" .null := D21 (Or.inr (hw _ (List.mem_of_getElem? (i := 20) rfl))) (ty := (.array .int)) (by decide)
    have f24 : Fld Z h21 b21 "com/example/tiercast/tiercast/protocol/Knots" "lowest" "I" (.int (0 : Int32)) := D21 (Or.inl (hw _ (List.mem_of_getElem? (i := 22) rfl))) (ty := .int) (by decide)
    have f25 : Fld Z h21 b21 "com/example/tiercast/tiercast/protocol/Knots" "highest" "I" (.int (0 : Int32)) := D21 (Or.inl (hw _ (List.mem_of_getElem? (i := 24) rfl))) (ty := .int) (by decide)
    have f26 : Fld Z h21 b21 "com/example/tiercast/tiercast/protocol/Knots" "weight" "I" (.int (0 : Int32)) := D21 (Or.inl (hw _ (List.mem_of_getElem? (i := 26) rfl))) (ty := .int) (by decide)
    obtain ⟨_, _, ⟨T27, L27, k27, n27⟩, -, X27, ⟨Lc27, hQ27, l27, y27, z27⟩, st27⟩ := X21.specialBack hx (y := (⟨"com/example/tiercast/tiercast/protocol/Knots", "<init>", "(IFI)V"⟩ : MethodName)) rfl hown (mvT hZ (hw _ (List.mem_of_getElem? (i := 6) rfl))) (mvT hZ (hw _ (List.mem_of_getElem? (i := 7) rfl))) (mvT hZ (hw _ (List.mem_of_getElem? (i := 8) rfl))) (by decide) (backOf (W := 1) (rm1 l Z a0 hw [] b21 xn (FP.i2f p3) p4 .null .null (.int (0 : Int32)) (.int (0 : Int32)) (.int (0 : Int32)) nN h21 n0 sz21 A21 f22 f23 f24 f25 f26 ge_b21 hn bn) hZ (hw _ (List.mem_of_getElem? (i := 8) rfl)) (hw _ (List.mem_of_getElem? (i := 5) rfl)) (by decide) (by decide)) (g := (mkF m 62 #[iv p1, iv p2, iv p3, iv p4, iv p5, iv p6, iv xn, iv xd, iv v9, rv v17, .unset, .unset, .unset] [(.int p4), (.float (FP.i2f p3)), (.int xn), (.ref b21), (.ref b21)])) rfl (by rw [hml]; rfl) (Steps.refl _) (a := b21) (argsL := [(.int xn), (.float (FP.i2f p3)), (.int p4)]) (rest := [(.ref b21)]) (lenOf pd_4 rfl) rfl (by show 2 * 0 + _ ≤ _; exact Nat.le_of_eq rfl) (hb hby at_62) (fun _ _ => ⟨rfl, e21, (by decide : 1 + 2 ≤ _), (by decide : 5 + 62 ≤ _)⟩)
    dsimp only [Pt.U, Pt.locs, Pt.cells, Pt.slots] at X27 l27 y27 z27 st27 hQ27
    subst l27 y27 z27
    obtain ⟨pl27, kp27, vp27, rfl, Nq27, Kc27, Fp_27, Vp_27, gp_27⟩ := hQ27
    have N27 := Fr.app N18 Nq27
    have K27 : Keep h0 T27.heap [] := K21.trans Kc27 (allS (Or.inr sz_b21) all0)
    have sz27 : n0 ≤ T27.heap.size := Nat.le_trans sz21 Kc27.1
    obtain ⟨T28, h28, X28, e28, E28, A28, D28, -, st28⟩ := newO X27 hx hZ hown (hw _ (List.mem_of_getElem? (i := 34) rfl)) (hw _ (List.mem_of_getElem? (i := 35) rfl)) (hw _ (List.mem_of_getElem? (i := 36) rfl)) rfl (g := (mkF m 67 #[iv p1, iv p2, iv p3, iv p4, iv p5, iv p6, iv xn, iv xd, iv v9, rv v17, rv b21, .unset, .unset] [])) rfl (hb hby at_67) (by decide) (by decide)
    obtain ⟨b28, g28⟩ : ∃ z, z = T27.heap.size := ⟨_, rfl⟩
    rw [← g28] at A28 D28 st28
    have f29 : Exa Z T27.heap b21 "com/example/tiercast/tiercast/protocol/Knots" := (A21.keep Kc27)
    have ne28_b21 : b21 ≠ b28 := Nat.ne_of_lt (Nat.lt_of_lt_of_le f29.lt (Nat.le_of_eq g28.symm))
    have ne28_pl27 : pl27 ≠ b28 := Nat.ne_of_lt (Nat.lt_of_lt_of_le Vp_27.lt (Nat.le_of_eq g28.symm))
    have ge_b28 : n0 ≤ b28 := Nat.le_trans sz27 (Nat.le_of_eq g28.symm)
    have sz_b28 : h0.size ≤ b28 := Nat.le_trans K27.1 (Nat.le_of_eq g28.symm)
    have K28 : Keep h0 h28 [] := K27.ext E28
    have sz28 : n0 ≤ h28.size := Nat.le_trans sz27 E28.1
    have f30 : Fld Z h28 b28 "com/example/tiercast/tiercast/protocol/Boundaries$Summary" "type" "Lcom/example/tiercast/tiercast/model/MessageType;" .null := D28 (Or.inr (hw _ (List.mem_of_getElem? (i := 47) rfl))) (ty := (.object "com/example/tiercast/tiercast/model/MessageType")) (by decide)
    have f31 : Fld Z h28 b28 "com/example/tiercast/tiercast/protocol/Boundaries$Summary" "knots" "Lcom/example/tiercast/tiercast/protocol/Knots;" .null := D28 (Or.inr (hw _ (List.mem_of_getElem? (i := 49) rfl))) (ty := (.object "com/example/tiercast/tiercast/protocol/Knots")) (by decide)
    have f32 : Fld Z h28 b28 "com/example/tiercast/tiercast/protocol/Boundaries$Summary" "deviationSteps" "[I" .null := D28 (Or.inr (hw _ (List.mem_of_getElem? (i := 51) rfl))) (ty := (.array .int)) (by decide)
    have f33 : Fld Z h28 b28 "com/example/tiercast/tiercast/protocol/Boundaries$Summary" "massSteps" "I" (.int (0 : Int32)) := D28 (Or.inr (hw _ (List.mem_of_getElem? (i := 53) rfl))) (ty := .int) (by decide)
    have f34 : Fld Z h28 b28 "com/example/tiercast/tiercast/protocol/Boundaries$Summary" "squaresSteps" "I" (.int (0 : Int32)) := D28 (Or.inr (hw _ (List.mem_of_getElem? (i := 55) rfl))) (ty := .int) (by decide)
    have f35 : Fld Z h28 b28 "com/example/tiercast/tiercast/protocol/Boundaries$Summary" "epoch" "I" (.int (0 : Int32)) := D28 (Or.inr (hw _ (List.mem_of_getElem? (i := 57) rfl))) (ty := .int) (by decide)
    obtain ⟨T36, h36, k36, X36, e36, E36, A36, st36⟩ := newP X28 hx hZ (hw _ (List.mem_of_getElem? (i := 10) rfl)) e28 (g := (mkF m 77 #[iv p1, iv p2, iv p3, iv p4, iv p5, iv p6, iv xn, iv xd, iv v9, rv v17, rv b21, .unset, .unset] [(.int xd), (.ref b21), (.ref v17), (.ref b28), (.ref b28)])) rfl (hb hby at_77) rfl (own_nn hd (by omega)) (cap := 7) (by rw [own_nat hd (by omega)]; omega) (by decide) (by decide) (by decide)
    obtain ⟨b36, g36⟩ : ∃ z, z = h28.size := ⟨_, rfl⟩
    rw [← g36] at A36 st36
    have f37 : Exa Z h28 b21 "com/example/tiercast/tiercast/protocol/Knots" := (f29.ext E28)
    have ne36_b21 : b21 ≠ b36 := Nat.ne_of_lt (Nat.lt_of_lt_of_le f37.lt (Nat.le_of_eq g36.symm))
    have f38 : Arv Z h28 pl27 kp27 .float xn vp27 (.float (0 : UInt32)) := (Vp_27.ext E28)
    have ne36_pl27 : pl27 ≠ b36 := Nat.ne_of_lt (Nat.lt_of_lt_of_le f38.lt (Nat.le_of_eq g36.symm))
    have ne36_b28 : b28 ≠ b36 := Nat.ne_of_lt (Nat.lt_of_lt_of_le A28.lt (Nat.le_of_eq g36.symm))
    have ge_b36 : n0 ≤ b36 := Nat.le_trans sz28 (Nat.le_of_eq g36.symm)
    have sz_b36 : h0.size ≤ b36 := Nat.le_trans K28.1 (Nat.le_of_eq g36.symm)
    have K36 : Keep h0 h36 [] := K28.ext E36
    have sz36 : n0 ≤ h36.size := Nat.le_trans sz28 E36.1
    have V36 : Arv Z h36 b36 k36 .int xd (List.replicate xd.toNatClampNeg (.int (0 : Int32))) (.int (0 : Int32)) := (Arv.new A36 (own_nn hd (by omega))).pad (pad_rep [] (.int (0 : Int32)) _)
    have f40 : Exa Z h36 b28 "com/example/tiercast/tiercast/protocol/Boundaries$Summary" := (A28.ext E36)
    have f41 : Fld Z h36 b28 "com/example/tiercast/tiercast/protocol/Boundaries$Summary" "type" "Lcom/example/tiercast/tiercast/model/MessageType;" .null := (f30.ext E36)
    have f42 : Fld Z h36 b28 "com/example/tiercast/tiercast/protocol/Boundaries$Summary" "knots" "Lcom/example/tiercast/tiercast/protocol/Knots;" .null := (f31.ext E36)
    have f43 : Fld Z h36 b28 "com/example/tiercast/tiercast/protocol/Boundaries$Summary" "deviationSteps" "[I" .null := (f32.ext E36)
    have f44 : Fld Z h36 b28 "com/example/tiercast/tiercast/protocol/Boundaries$Summary" "massSteps" "I" (.int (0 : Int32)) := (f33.ext E36)
    have f45 : Fld Z h36 b28 "com/example/tiercast/tiercast/protocol/Boundaries$Summary" "squaresSteps" "I" (.int (0 : Int32)) := (f34.ext E36)
    have f46 : Fld Z h36 b28 "com/example/tiercast/tiercast/protocol/Boundaries$Summary" "epoch" "I" (.int (0 : Int32)) := (f35.ext E36)
    obtain ⟨_, _, ⟨T39, L39, k39, n39⟩, -, X39, ⟨Lc39, hQ39, l39, y39, z39⟩, st39⟩ := X36.specialBack hx (y := (⟨"com/example/tiercast/tiercast/protocol/Boundaries$Summary", "<init>", "(Lcom/example/tiercast/tiercast/model/MessageType;Lcom/example/tiercast/tiercast/protocol/Knots;[IIII)V"⟩ : MethodName)) rfl hown (mvT hZ (hw _ (List.mem_of_getElem? (i := 37) rfl))) (mvT hZ (hw _ (List.mem_of_getElem? (i := 38) rfl))) (mvT hZ (hw _ (List.mem_of_getElem? (i := 39) rfl))) (by decide) (backOf (W := 1) (rm6 l Z a0 hw [] b28 v17 b21 b36 p6 p5 p4 .null .null .null (.int (0 : Int32)) (.int (0 : Int32)) (.int (0 : Int32)) h36 n0 sz36 f40 f41 f42 f43 f44 f45 f46 ge_b28) hZ (hw _ (List.mem_of_getElem? (i := 39) rfl)) (hw _ (List.mem_of_getElem? (i := 36) rfl)) (by decide) (by decide)) (g := (mkF m 84 #[iv p1, iv p2, iv p3, iv p4, iv p5, iv p6, iv xn, iv xd, iv v9, rv v17, rv b21, .unset, .unset] [(.int p4), (.int p5), (.int p6), (.ref b36), (.ref b21), (.ref v17), (.ref b28), (.ref b28)])) rfl (by rw [hml]; rfl) (Steps.refl _) (a := b28) (argsL := [(.ref v17), (.ref b21), (.ref b36), (.int p6), (.int p5), (.int p4)]) (rest := [(.ref b28)]) (lenOf pd_5 rfl) rfl (by show 2 * 0 + _ ≤ _; exact Nat.le_of_eq rfl) (hb hby at_84) (fun _ _ => ⟨rfl, e36, (by decide : 5 + 0 ≤ _), (by decide : 80 + 0 ≤ _)⟩)
    dsimp only [Pt.U, Pt.locs, Pt.cells, Pt.slots] at X39 l39 y39 z39 st39 hQ39
    subst l39 y39 z39
    obtain ⟨rfl, Nq39, Kc39, Fk_39⟩ := hQ39
    have N39 := Fr.app N27 Nq39
    have K39 : Keep h0 T39.heap [] := K36.trans Kc39 (allS (Or.inr sz_b28) all0)
    have sz39 : n0 ≤ T39.heap.size := Nat.le_trans sz36 Kc39.1
    have pre47 : ∀ t, own_K p e below m T39 91 #[iv p1, iv p2, iv p3, iv p4, iv p5, iv p6, iv xn, iv xd, iv v9, rv v17, rv b21, rv b28, .unset] [(.int v9)] t → G t := by
      intro t k
      refine pre19 t ?_
      show own_K p e below m T18 46 #[iv p1, iv p2, iv p3, iv p4, iv p5, iv p6, iv xn, iv xd, iv v9, rv v17, .unset, .unset, .unset] [(.int v9)] _
      refine XS.ifYes X18.here hx rfl (pc0 := 46) (pc' := 53) rfl (hb hby at_46) rfl ((if0 _ _).trans (teq hc46_20).1) (by decide) (by decide) ?_
      show own_K p e below m T18 53 #[iv p1, iv p2, iv p3, iv p4, iv p5, iv p6, iv xn, iv xd, iv v9, rv v17, .unset, .unset, .unset] [] _
      refine st21 _ ?_
      show own_K p e below m T21 56 #[iv p1, iv p2, iv p3, iv p4, iv p5, iv p6, iv xn, iv xd, iv v9, rv v17, .unset, .unset, .unset] [(.ref b21)] _
      refine XS.dup X21.here hx rfl (hb hby at_56) rfl rfl ?_
      show own_K p e below m T21 57 #[iv p1, iv p2, iv p3, iv p4, iv p5, iv p6, iv xn, iv xd, iv v9, rv v17, .unset, .unset, .unset] [(.ref b21), (.ref b21)] _
      refine XS.iload X21.here hx rfl (hb hby at_57) rfl ?_
      show own_K p e below m T21 59 #[iv p1, iv p2, iv p3, iv p4, iv p5, iv p6, iv xn, iv xd, iv v9, rv v17, .unset, .unset, .unset] [(.int xn), (.ref b21), (.ref b21)] _
      refine XS.iloadN X21.here hx rfl (hb hby at_59) rfl ?_
      show own_K p e below m T21 60 #[iv p1, iv p2, iv p3, iv p4, iv p5, iv p6, iv xn, iv xd, iv v9, rv v17, .unset, .unset, .unset] [(.int p3), (.int xn), (.ref b21), (.ref b21)] _
      refine own_i2f X21.here hx rfl (hb hby at_60) rfl ?_
      show own_K p e below m T21 61 #[iv p1, iv p2, iv p3, iv p4, iv p5, iv p6, iv xn, iv xd, iv v9, rv v17, .unset, .unset, .unset] [(.float (FP.i2f p3)), (.int xn), (.ref b21), (.ref b21)] _
      refine XS.iloadN X21.here hx rfl (hb hby at_61) rfl ?_
      show own_K p e below m T21 62 #[iv p1, iv p2, iv p3, iv p4, iv p5, iv p6, iv xn, iv xd, iv v9, rv v17, .unset, .unset, .unset] [(.int p4), (.float (FP.i2f p3)), (.int xn), (.ref b21), (.ref b21)] _
      refine st27.trans ?_
      show own_K p e below m T27 65 #[iv p1, iv p2, iv p3, iv p4, iv p5, iv p6, iv xn, iv xd, iv v9, rv v17, .unset, .unset, .unset] [(.ref b21)] _
      refine XS.astore X27.here hx rfl (hb hby at_65) rfl rfl (l' := #[iv p1, iv p2, iv p3, iv p4, iv p5, iv p6, iv xn, iv xd, iv v9, rv v17, rv b21, .unset, .unset]) rfl ?_
      show own_K p e below m T27 67 #[iv p1, iv p2, iv p3, iv p4, iv p5, iv p6, iv xn, iv xd, iv v9, rv v17, rv b21, .unset, .unset] [] _
      refine st28 _ ?_
      show own_K p e below m T28 70 #[iv p1, iv p2, iv p3, iv p4, iv p5, iv p6, iv xn, iv xd, iv v9, rv v17, rv b21, .unset, .unset] [(.ref b28)] _
      refine XS.dup X28.here hx rfl (hb hby at_70) rfl rfl ?_
      show own_K p e below m T28 71 #[iv p1, iv p2, iv p3, iv p4, iv p5, iv p6, iv xn, iv xd, iv v9, rv v17, rv b21, .unset, .unset] [(.ref b28), (.ref b28)] _
      refine XS.aload X28.here hx rfl (hb hby at_71) rfl rfl ?_
      show own_K p e below m T28 73 #[iv p1, iv p2, iv p3, iv p4, iv p5, iv p6, iv xn, iv xd, iv v9, rv v17, rv b21, .unset, .unset] [(.ref v17), (.ref b28), (.ref b28)] _
      refine XS.aload X28.here hx rfl (hb hby at_73) rfl rfl ?_
      show own_K p e below m T28 75 #[iv p1, iv p2, iv p3, iv p4, iv p5, iv p6, iv xn, iv xd, iv v9, rv v17, rv b21, .unset, .unset] [(.ref b21), (.ref v17), (.ref b28), (.ref b28)] _
      refine XS.iload X28.here hx rfl (hb hby at_75) rfl ?_
      show own_K p e below m T28 77 #[iv p1, iv p2, iv p3, iv p4, iv p5, iv p6, iv xn, iv xd, iv v9, rv v17, rv b21, .unset, .unset] [(.int xd), (.ref b21), (.ref v17), (.ref b28), (.ref b28)] _
      refine st36 _ ?_
      show own_K p e below m T36 79 #[iv p1, iv p2, iv p3, iv p4, iv p5, iv p6, iv xn, iv xd, iv v9, rv v17, rv b21, .unset, .unset] [(.ref b36), (.ref b21), (.ref v17), (.ref b28), (.ref b28)] _
      refine XS.iload X36.here hx rfl (hb hby at_79) rfl ?_
      show own_K p e below m T36 81 #[iv p1, iv p2, iv p3, iv p4, iv p5, iv p6, iv xn, iv xd, iv v9, rv v17, rv b21, .unset, .unset] [(.int p6), (.ref b36), (.ref b21), (.ref v17), (.ref b28), (.ref b28)] _
      refine XS.iload X36.here hx rfl (hb hby at_81) rfl ?_
      show own_K p e below m T36 83 #[iv p1, iv p2, iv p3, iv p4, iv p5, iv p6, iv xn, iv xd, iv v9, rv v17, rv b21, .unset, .unset] [(.int p5), (.int p6), (.ref b36), (.ref b21), (.ref v17), (.ref b28), (.ref b28)] _
      refine XS.iloadN X36.here hx rfl (hb hby at_83) rfl ?_
      show own_K p e below m T36 84 #[iv p1, iv p2, iv p3, iv p4, iv p5, iv p6, iv xn, iv xd, iv v9, rv v17, rv b21, .unset, .unset] [(.int p4), (.int p5), (.int p6), (.ref b36), (.ref b21), (.ref v17), (.ref b28), (.ref b28)] _
      refine st39.trans ?_
      show own_K p e below m T39 87 #[iv p1, iv p2, iv p3, iv p4, iv p5, iv p6, iv xn, iv xd, iv v9, rv v17, rv b21, .unset, .unset] [(.ref b28)] _
      refine XS.astore X39.here hx rfl (hb hby at_87) rfl rfl (l' := #[iv p1, iv p2, iv p3, iv p4, iv p5, iv p6, iv xn, iv xd, iv v9, rv v17, rv b21, rv b28, .unset]) rfl ?_
      show own_K p e below m T39 89 #[iv p1, iv p2, iv p3, iv p4, iv p5, iv p6, iv xn, iv xd, iv v9, rv v17, rv b21, rv b28, .unset] [] _
      refine XS.iload X39.here hx rfl (hb hby at_89) rfl ?_
      exact k
    have f50 : Fld Z T39.heap b21 "com/example/tiercast/tiercast/protocol/Knots" "places" "[F" (.ref pl27) := (((Fp_27.ext E28).ext E36).keep Kc39 (ninS ne28_b21 nin0))
    have f51 : Arv Z T39.heap pl27 kp27 .float xn vp27 (.float (0 : UInt32)) := ((f38.ext E36).keep Kc39 (ninS ne28_pl27 nin0))
    have f52 : Exa Z T39.heap b28 "com/example/tiercast/tiercast/protocol/Boundaries$Summary" := (f40.keep Kc39)
    obtain ⟨cq49, kq49, q49a, q49b, q49c⟩ := isOf hZ rfl f52
    obtain ⟨_, _, ⟨T49, L49, k49, n49⟩, -, X49, ⟨Lc49, hQ49, l49, y49, z49⟩, st49⟩ := X39.virtualBack hx (y := (⟨"com/example/tiercast/tiercast/protocol/Boundaries$Summary", "knotCount", "()I"⟩ : MethodName)) (z := (⟨"com/example/tiercast/tiercast/protocol/Boundaries$Summary", "knotCount", "()I"⟩ : MethodName)) hown (mvT hZ (hw _ (List.mem_of_getElem? (i := 58) rfl))) (mvT hZ (hw _ (List.mem_of_getElem? (i := 59) rfl))) (notFace_of_selects (args := #[]) (mvT hZ (hw _ (List.mem_of_getElem? (i := 61) rfl)))) (mvT hZ (hw _ (List.mem_of_getElem? (i := 61) rfl))) (mvT hZ (hw _ (List.mem_of_getElem? (i := 60) rfl))) (by decide) (backOf (W := 0) (rm8 l Z a0 hw [] b28 b21 pl27 kp27 xn vp27 T39.heap n0 sz39 Fk_39 f50 f51) hZ (hw _ (List.mem_of_getElem? (i := 62) rfl)) (hw _ (List.mem_of_getElem? (i := 36) rfl)) (by decide) (by decide)) q49a q49c (g := (mkF m 104 #[iv p1, iv p2, iv p3, iv p4, iv p5, iv p6, iv xn, iv xd, iv v9, rv v17, rv b21, rv b28, iv xn] [(.ref b28)])) rfl (by rw [hml]; rfl) (Steps.refl _) (argsL := []) (rest := []) (lenOf pd_6 rfl) rfl (by show 2 * 0 + _ ≤ _; exact Nat.le_of_eq rfl) (hb hby at_104) (fun _ _ => ⟨rfl, rfl, (by decide : 5 + 0 ≤ _), (by decide : 80 + 0 ≤ _)⟩)
    dsimp only [Pt.U, Pt.locs, Pt.cells, Pt.slots] at X49 l49 y49 z49 st49 hQ49
    subst l49 y49 z49
    obtain ⟨rfl, Nq49, eh49⟩ := hQ49
    have N49 := Fr.app N39 Nq49
    have pre53 : ∀ t, own_K p e below m T49 117 #[iv p1, iv p2, iv p3, iv p4, iv p5, iv p6, iv xn, iv xd, iv v9, rv v17, rv b21, rv b28, iv xn] [(.int (1 : Int32))] t → G t := by
      intro t k
      refine pre47 t ?_
      show own_K p e below m T39 91 #[iv p1, iv p2, iv p3, iv p4, iv p5, iv p6, iv xn, iv xd, iv v9, rv v17, rv b21, rv b28, .unset] [(.int v9)] _
      refine XS.ifYes X39.here hx rfl (pc0 := 91) (pc' := 98) rfl (hb hby at_91) rfl ((if0 _ _).trans (teq hc46_20).1) (by decide) (by decide) ?_
      show own_K p e below m T39 98 #[iv p1, iv p2, iv p3, iv p4, iv p5, iv p6, iv xn, iv xd, iv v9, rv v17, rv b21, rv b28, .unset] [] _
      refine XS.iload X39.here hx rfl (hb hby at_98) rfl ?_
      show own_K p e below m T39 100 #[iv p1, iv p2, iv p3, iv p4, iv p5, iv p6, iv xn, iv xd, iv v9, rv v17, rv b21, rv b28, .unset] [(.int xn)] _
      refine XS.istore X39.here hx rfl (hb hby at_100) rfl (l' := #[iv p1, iv p2, iv p3, iv p4, iv p5, iv p6, iv xn, iv xd, iv v9, rv v17, rv b21, rv b28, iv xn]) rfl ?_
      show own_K p e below m T39 102 #[iv p1, iv p2, iv p3, iv p4, iv p5, iv p6, iv xn, iv xd, iv v9, rv v17, rv b21, rv b28, iv xn] [] _
      refine XS.aload X39.here hx rfl (hb hby at_102) rfl rfl ?_
      show own_K p e below m T39 104 #[iv p1, iv p2, iv p3, iv p4, iv p5, iv p6, iv xn, iv xd, iv v9, rv v17, rv b21, rv b28, iv xn] [(.ref b28)] _
      refine st49.trans ?_
      show own_K p e below m T49 107 #[iv p1, iv p2, iv p3, iv p4, iv p5, iv p6, iv xn, iv xd, iv v9, rv v17, rv b21, rv b28, iv xn] [(.int xn)] _
      refine XS.iload X49.here hx rfl (hb hby at_107) rfl ?_
      show own_K p e below m T49 109 #[iv p1, iv p2, iv p3, iv p4, iv p5, iv p6, iv xn, iv xd, iv v9, rv v17, rv b21, rv b28, iv xn] [(.int xn), (.int xn)] _
      refine XS.icmpNo X49.here hx rfl (hb hby at_109) rfl (teq (rfl : xn = xn)).2 ?_
      show own_K p e below m T49 112 #[iv p1, iv p2, iv p3, iv p4, iv p5, iv p6, iv xn, iv xd, iv v9, rv v17, rv b21, rv b28, iv xn] [] _
      refine XS.iconst X49.here hx rfl (hb hby at_112) ?_
      show own_K p e below m T49 113 #[iv p1, iv p2, iv p3, iv p4, iv p5, iv p6, iv xn, iv xd, iv v9, rv v17, rv b21, rv b28, iv xn] [(.int (1 : Int32))] _
      refine XS.goto X49.here hx rfl (pc0 := 113) (pc' := 117) rfl (hb hby at_113) (by decide) (by decide) ?_
      exact k
    obtain ⟨fs, hr, hrun, hended, hW, hsame⟩ := X49.leave (v := some (.int (1 : Int32))) (fun h => by rw [Bd.returns] at h; cases h)
    refine ⟨_, _, hG _ (pre53 _ ?_), hrun, hended, _, _, rfl, ?_, ⟨_, rfl⟩, hW, hsame.mono (by decide) (by decide)⟩
    · show own_K p e below m T49 117 #[iv p1, iv p2, iv p3, iv p4, iv p5, iv p6, iv xn, iv xd, iv v9, rv v17, rv b21, rv b28, iv xn] [(.int (1 : Int32))] _
      exact retN X49 hx (t := .boolean) Bd.returns (by simp) (hb hby at_117) hr
    · show Q0 Z p1 p2 p3 p4 p5 p6 c1 c2 h0 n0 _ T49.heap _
      rw [eh49]
      exact ⟨rfl, N49, K39⟩
  · obtain ⟨T54, h54, X54, e54, E54, A54, D54, -, st54⟩ := newO X18 hx hZ hown (hw _ (List.mem_of_getElem? (i := 34) rfl)) (hw _ (List.mem_of_getElem? (i := 35) rfl)) (hw _ (List.mem_of_getElem? (i := 36) rfl)) e18 (g := (mkF m 67 #[iv p1, iv p2, iv p3, iv p4, iv p5, iv p6, iv xn, iv xd, iv v9, rv v17, .val .null, .unset, .unset] [])) rfl (hb hby at_67) (by decide) (by decide)
    obtain ⟨b54, g54⟩ : ∃ z, z = h0.size := ⟨_, rfl⟩
    rw [← g54] at A54 D54 st54
    have ge_b54 : n0 ≤ b54 := Nat.le_trans Z0 (Nat.le_of_eq g54.symm)
    have sz_b54 : h0.size ≤ b54 := Nat.le_trans (Keep.refl h0 []).1 (Nat.le_of_eq g54.symm)
    have K54 : Keep h0 h54 [] := (Keep.refl h0 []).ext E54
    have sz54 : n0 ≤ h54.size := Nat.le_trans Z0 E54.1
    have f55 : Fld Z h54 b54 "com/example/tiercast/tiercast/protocol/Boundaries$Summary" "type" "Lcom/example/tiercast/tiercast/model/MessageType;" .null := D54 (Or.inr (hw _ (List.mem_of_getElem? (i := 47) rfl))) (ty := (.object "com/example/tiercast/tiercast/model/MessageType")) (by decide)
    have f56 : Fld Z h54 b54 "com/example/tiercast/tiercast/protocol/Boundaries$Summary" "knots" "Lcom/example/tiercast/tiercast/protocol/Knots;" .null := D54 (Or.inr (hw _ (List.mem_of_getElem? (i := 49) rfl))) (ty := (.object "com/example/tiercast/tiercast/protocol/Knots")) (by decide)
    have f57 : Fld Z h54 b54 "com/example/tiercast/tiercast/protocol/Boundaries$Summary" "deviationSteps" "[I" .null := D54 (Or.inr (hw _ (List.mem_of_getElem? (i := 51) rfl))) (ty := (.array .int)) (by decide)
    have f58 : Fld Z h54 b54 "com/example/tiercast/tiercast/protocol/Boundaries$Summary" "massSteps" "I" (.int (0 : Int32)) := D54 (Or.inr (hw _ (List.mem_of_getElem? (i := 53) rfl))) (ty := .int) (by decide)
    have f59 : Fld Z h54 b54 "com/example/tiercast/tiercast/protocol/Boundaries$Summary" "squaresSteps" "I" (.int (0 : Int32)) := D54 (Or.inr (hw _ (List.mem_of_getElem? (i := 55) rfl))) (ty := .int) (by decide)
    have f60 : Fld Z h54 b54 "com/example/tiercast/tiercast/protocol/Boundaries$Summary" "epoch" "I" (.int (0 : Int32)) := D54 (Or.inr (hw _ (List.mem_of_getElem? (i := 57) rfl))) (ty := .int) (by decide)
    obtain ⟨T61, h61, k61, X61, e61, E61, A61, st61⟩ := newP X54 hx hZ (hw _ (List.mem_of_getElem? (i := 10) rfl)) e54 (g := (mkF m 77 #[iv p1, iv p2, iv p3, iv p4, iv p5, iv p6, iv xn, iv xd, iv v9, rv v17, .val .null, .unset, .unset] [(.int xd), .null, (.ref v17), (.ref b54), (.ref b54)])) rfl (hb hby at_77) rfl (own_nn hd (by omega)) (cap := 7) (by rw [own_nat hd (by omega)]; omega) (by decide) (by decide) (by decide)
    obtain ⟨b61, g61⟩ : ∃ z, z = h54.size := ⟨_, rfl⟩
    rw [← g61] at A61 st61
    have ne61_b54 : b54 ≠ b61 := Nat.ne_of_lt (Nat.lt_of_lt_of_le A54.lt (Nat.le_of_eq g61.symm))
    have ge_b61 : n0 ≤ b61 := Nat.le_trans sz54 (Nat.le_of_eq g61.symm)
    have sz_b61 : h0.size ≤ b61 := Nat.le_trans K54.1 (Nat.le_of_eq g61.symm)
    have K61 : Keep h0 h61 [] := K54.ext E61
    have sz61 : n0 ≤ h61.size := Nat.le_trans sz54 E61.1
    have V61 : Arv Z h61 b61 k61 .int xd (List.replicate xd.toNatClampNeg (.int (0 : Int32))) (.int (0 : Int32)) := (Arv.new A61 (own_nn hd (by omega))).pad (pad_rep [] (.int (0 : Int32)) _)
    have f63 : Exa Z h61 b54 "com/example/tiercast/tiercast/protocol/Boundaries$Summary" := (A54.ext E61)
    have f64 : Fld Z h61 b54 "com/example/tiercast/tiercast/protocol/Boundaries$Summary" "type" "Lcom/example/tiercast/tiercast/model/MessageType;" .null := (f55.ext E61)
    have f65 : Fld Z h61 b54 "com/example/tiercast/tiercast/protocol/Boundaries$Summary" "knots" "Lcom/example/tiercast/tiercast/protocol/Knots;" .null := (f56.ext E61)
    have f66 : Fld Z h61 b54 "com/example/tiercast/tiercast/protocol/Boundaries$Summary" "deviationSteps" "[I" .null := (f57.ext E61)
    have f67 : Fld Z h61 b54 "com/example/tiercast/tiercast/protocol/Boundaries$Summary" "massSteps" "I" (.int (0 : Int32)) := (f58.ext E61)
    have f68 : Fld Z h61 b54 "com/example/tiercast/tiercast/protocol/Boundaries$Summary" "squaresSteps" "I" (.int (0 : Int32)) := (f59.ext E61)
    have f69 : Fld Z h61 b54 "com/example/tiercast/tiercast/protocol/Boundaries$Summary" "epoch" "I" (.int (0 : Int32)) := (f60.ext E61)
    obtain ⟨_, _, ⟨T62, L62, k62, n62⟩, -, X62, ⟨Lc62, hQ62, l62, y62, z62⟩, st62⟩ := X61.specialBack hx (y := (⟨"com/example/tiercast/tiercast/protocol/Boundaries$Summary", "<init>", "(Lcom/example/tiercast/tiercast/model/MessageType;Lcom/example/tiercast/tiercast/protocol/Knots;[IIII)V"⟩ : MethodName)) rfl hown (mvT hZ (hw _ (List.mem_of_getElem? (i := 37) rfl))) (mvT hZ (hw _ (List.mem_of_getElem? (i := 38) rfl))) (mvT hZ (hw _ (List.mem_of_getElem? (i := 39) rfl))) (by decide) (backOf (W := 1) (rm6n l Z a0 hw [] b54 v17 b61 p6 p5 p4 .null .null .null (.int (0 : Int32)) (.int (0 : Int32)) (.int (0 : Int32)) h61 n0 sz61 f63 f64 f65 f66 f67 f68 f69 ge_b54) hZ (hw _ (List.mem_of_getElem? (i := 39) rfl)) (hw _ (List.mem_of_getElem? (i := 36) rfl)) (by decide) (by decide)) (g := (mkF m 84 #[iv p1, iv p2, iv p3, iv p4, iv p5, iv p6, iv xn, iv xd, iv v9, rv v17, .val .null, .unset, .unset] [(.int p4), (.int p5), (.int p6), (.ref b61), .null, (.ref v17), (.ref b54), (.ref b54)])) rfl (by rw [hml]; rfl) (Steps.refl _) (a := b54) (argsL := [(.ref v17), .null, (.ref b61), (.int p6), (.int p5), (.int p4)]) (rest := [(.ref b54)]) (lenOf pd_5 rfl) rfl (by show 2 * 0 + _ ≤ _; exact Nat.le_of_eq rfl) (hb hby at_84) (fun _ _ => ⟨rfl, e61, (by decide : 2 + 0 ≤ _), (by decide : 13 + 0 ≤ _)⟩)
    dsimp only [Pt.U, Pt.locs, Pt.cells, Pt.slots] at X62 l62 y62 z62 st62 hQ62
    subst l62 y62 z62
    obtain ⟨rfl, Nq62, Kc62, Fk_62⟩ := hQ62
    have N62 := Fr.app N18 Nq62
    have K62 : Keep h0 T62.heap [] := K61.trans Kc62 (allS (Or.inr sz_b54) all0)
    have sz62 : n0 ≤ T62.heap.size := Nat.le_trans sz61 Kc62.1
    have pre70 : ∀ t, own_K p e below m T62 91 #[iv p1, iv p2, iv p3, iv p4, iv p5, iv p6, iv xn, iv xd, iv v9, rv v17, .val .null, rv b54, .unset] [(.int v9)] t → G t := by
      intro t k
      refine pre19 t ?_
      show own_K p e below m T18 46 #[iv p1, iv p2, iv p3, iv p4, iv p5, iv p6, iv xn, iv xd, iv v9, rv v17, .unset, .unset, .unset] [(.int v9)] _
      refine XS.ifNo X18.here hx rfl (hb hby at_46) rfl ((if0 _ _).trans (feq hc46_20).1) ?_
      show own_K p e below m T18 49 #[iv p1, iv p2, iv p3, iv p4, iv p5, iv p6, iv xn, iv xd, iv v9, rv v17, .unset, .unset, .unset] [] _
      refine XS.aconstNull X18.here hx rfl (hb hby at_49) ?_
      show own_K p e below m T18 50 #[iv p1, iv p2, iv p3, iv p4, iv p5, iv p6, iv xn, iv xd, iv v9, rv v17, .unset, .unset, .unset] [.null] _
      refine XS.goto X18.here hx rfl (pc0 := 50) (pc' := 65) rfl (hb hby at_50) (by decide) (by decide) ?_
      show own_K p e below m T18 65 #[iv p1, iv p2, iv p3, iv p4, iv p5, iv p6, iv xn, iv xd, iv v9, rv v17, .unset, .unset, .unset] [.null] _
      refine XS.astore X18.here hx rfl (hb hby at_65) rfl rfl (l' := #[iv p1, iv p2, iv p3, iv p4, iv p5, iv p6, iv xn, iv xd, iv v9, rv v17, .val .null, .unset, .unset]) rfl ?_
      show own_K p e below m T18 67 #[iv p1, iv p2, iv p3, iv p4, iv p5, iv p6, iv xn, iv xd, iv v9, rv v17, .val .null, .unset, .unset] [] _
      refine st54 _ ?_
      show own_K p e below m T54 70 #[iv p1, iv p2, iv p3, iv p4, iv p5, iv p6, iv xn, iv xd, iv v9, rv v17, .val .null, .unset, .unset] [(.ref b54)] _
      refine XS.dup X54.here hx rfl (hb hby at_70) rfl rfl ?_
      show own_K p e below m T54 71 #[iv p1, iv p2, iv p3, iv p4, iv p5, iv p6, iv xn, iv xd, iv v9, rv v17, .val .null, .unset, .unset] [(.ref b54), (.ref b54)] _
      refine XS.aload X54.here hx rfl (hb hby at_71) rfl rfl ?_
      show own_K p e below m T54 73 #[iv p1, iv p2, iv p3, iv p4, iv p5, iv p6, iv xn, iv xd, iv v9, rv v17, .val .null, .unset, .unset] [(.ref v17), (.ref b54), (.ref b54)] _
      refine XS.aload X54.here hx rfl (hb hby at_73) rfl rfl ?_
      show own_K p e below m T54 75 #[iv p1, iv p2, iv p3, iv p4, iv p5, iv p6, iv xn, iv xd, iv v9, rv v17, .val .null, .unset, .unset] [.null, (.ref v17), (.ref b54), (.ref b54)] _
      refine XS.iload X54.here hx rfl (hb hby at_75) rfl ?_
      show own_K p e below m T54 77 #[iv p1, iv p2, iv p3, iv p4, iv p5, iv p6, iv xn, iv xd, iv v9, rv v17, .val .null, .unset, .unset] [(.int xd), .null, (.ref v17), (.ref b54), (.ref b54)] _
      refine st61 _ ?_
      show own_K p e below m T61 79 #[iv p1, iv p2, iv p3, iv p4, iv p5, iv p6, iv xn, iv xd, iv v9, rv v17, .val .null, .unset, .unset] [(.ref b61), .null, (.ref v17), (.ref b54), (.ref b54)] _
      refine XS.iload X61.here hx rfl (hb hby at_79) rfl ?_
      show own_K p e below m T61 81 #[iv p1, iv p2, iv p3, iv p4, iv p5, iv p6, iv xn, iv xd, iv v9, rv v17, .val .null, .unset, .unset] [(.int p6), (.ref b61), .null, (.ref v17), (.ref b54), (.ref b54)] _
      refine XS.iload X61.here hx rfl (hb hby at_81) rfl ?_
      show own_K p e below m T61 83 #[iv p1, iv p2, iv p3, iv p4, iv p5, iv p6, iv xn, iv xd, iv v9, rv v17, .val .null, .unset, .unset] [(.int p5), (.int p6), (.ref b61), .null, (.ref v17), (.ref b54), (.ref b54)] _
      refine XS.iloadN X61.here hx rfl (hb hby at_83) rfl ?_
      show own_K p e below m T61 84 #[iv p1, iv p2, iv p3, iv p4, iv p5, iv p6, iv xn, iv xd, iv v9, rv v17, .val .null, .unset, .unset] [(.int p4), (.int p5), (.int p6), (.ref b61), .null, (.ref v17), (.ref b54), (.ref b54)] _
      refine st62.trans ?_
      show own_K p e below m T62 87 #[iv p1, iv p2, iv p3, iv p4, iv p5, iv p6, iv xn, iv xd, iv v9, rv v17, .val .null, .unset, .unset] [(.ref b54)] _
      refine XS.astore X62.here hx rfl (hb hby at_87) rfl rfl (l' := #[iv p1, iv p2, iv p3, iv p4, iv p5, iv p6, iv xn, iv xd, iv v9, rv v17, .val .null, rv b54, .unset]) rfl ?_
      show own_K p e below m T62 89 #[iv p1, iv p2, iv p3, iv p4, iv p5, iv p6, iv xn, iv xd, iv v9, rv v17, .val .null, rv b54, .unset] [] _
      refine XS.iload X62.here hx rfl (hb hby at_89) rfl ?_
      exact k
    have f73 : Exa Z T62.heap b54 "com/example/tiercast/tiercast/protocol/Boundaries$Summary" := (f63.keep Kc62)
    obtain ⟨cq72, kq72, q72a, q72b, q72c⟩ := isOf hZ rfl f73
    obtain ⟨_, _, ⟨T72, L72, k72, n72⟩, -, X72, ⟨Lc72, hQ72, l72, y72, z72⟩, st72⟩ := X62.virtualBack hx (y := (⟨"com/example/tiercast/tiercast/protocol/Boundaries$Summary", "knotCount", "()I"⟩ : MethodName)) (z := (⟨"com/example/tiercast/tiercast/protocol/Boundaries$Summary", "knotCount", "()I"⟩ : MethodName)) hown (mvT hZ (hw _ (List.mem_of_getElem? (i := 58) rfl))) (mvT hZ (hw _ (List.mem_of_getElem? (i := 59) rfl))) (notFace_of_selects (args := #[]) (mvT hZ (hw _ (List.mem_of_getElem? (i := 61) rfl)))) (mvT hZ (hw _ (List.mem_of_getElem? (i := 61) rfl))) (mvT hZ (hw _ (List.mem_of_getElem? (i := 60) rfl))) (by decide) (backOf (W := 0) (rm8n l Z a0 hw [] b54 T62.heap n0 sz62 Fk_62) hZ (hw _ (List.mem_of_getElem? (i := 62) rfl)) (hw _ (List.mem_of_getElem? (i := 36) rfl)) (by decide) (by decide)) q72a q72c (g := (mkF m 104 #[iv p1, iv p2, iv p3, iv p4, iv p5, iv p6, iv xn, iv xd, iv v9, rv v17, .val .null, rv b54, iv (0 : Int32)] [(.ref b54)])) rfl (by rw [hml]; rfl) (Steps.refl _) (argsL := []) (rest := []) (lenOf pd_6 rfl) rfl (by show 2 * 0 + _ ≤ _; exact Nat.le_of_eq rfl) (hb hby at_104) (fun _ _ => ⟨rfl, rfl, (by decide : 2 + 0 ≤ _), (by decide : 13 + 0 ≤ _)⟩)
    dsimp only [Pt.U, Pt.locs, Pt.cells, Pt.slots] at X72 l72 y72 z72 st72 hQ72
    subst l72 y72 z72
    obtain ⟨rfl, Nq72, eh72⟩ := hQ72
    have N72 := Fr.app N62 Nq72
    have pre74 : ∀ t, own_K p e below m T72 117 #[iv p1, iv p2, iv p3, iv p4, iv p5, iv p6, iv xn, iv xd, iv v9, rv v17, .val .null, rv b54, iv (0 : Int32)] [(.int (1 : Int32))] t → G t := by
      intro t k
      refine pre70 t ?_
      show own_K p e below m T62 91 #[iv p1, iv p2, iv p3, iv p4, iv p5, iv p6, iv xn, iv xd, iv v9, rv v17, .val .null, rv b54, .unset] [(.int v9)] _
      refine XS.ifNo X62.here hx rfl (hb hby at_91) rfl ((if0 _ _).trans (feq hc46_20).1) ?_
      show own_K p e below m T62 94 #[iv p1, iv p2, iv p3, iv p4, iv p5, iv p6, iv xn, iv xd, iv v9, rv v17, .val .null, rv b54, .unset] [] _
      refine XS.iconst X62.here hx rfl (hb hby at_94) ?_
      show own_K p e below m T62 95 #[iv p1, iv p2, iv p3, iv p4, iv p5, iv p6, iv xn, iv xd, iv v9, rv v17, .val .null, rv b54, .unset] [(.int (0 : Int32))] _
      refine XS.goto X62.here hx rfl (pc0 := 95) (pc' := 100) rfl (hb hby at_95) (by decide) (by decide) ?_
      show own_K p e below m T62 100 #[iv p1, iv p2, iv p3, iv p4, iv p5, iv p6, iv xn, iv xd, iv v9, rv v17, .val .null, rv b54, .unset] [(.int (0 : Int32))] _
      refine XS.istore X62.here hx rfl (hb hby at_100) rfl (l' := #[iv p1, iv p2, iv p3, iv p4, iv p5, iv p6, iv xn, iv xd, iv v9, rv v17, .val .null, rv b54, iv (0 : Int32)]) rfl ?_
      show own_K p e below m T62 102 #[iv p1, iv p2, iv p3, iv p4, iv p5, iv p6, iv xn, iv xd, iv v9, rv v17, .val .null, rv b54, iv (0 : Int32)] [] _
      refine XS.aload X62.here hx rfl (hb hby at_102) rfl rfl ?_
      show own_K p e below m T62 104 #[iv p1, iv p2, iv p3, iv p4, iv p5, iv p6, iv xn, iv xd, iv v9, rv v17, .val .null, rv b54, iv (0 : Int32)] [(.ref b54)] _
      refine st72.trans ?_
      show own_K p e below m T72 107 #[iv p1, iv p2, iv p3, iv p4, iv p5, iv p6, iv xn, iv xd, iv v9, rv v17, .val .null, rv b54, iv (0 : Int32)] [(.int (0 : Int32))] _
      refine XS.iload X72.here hx rfl (hb hby at_107) rfl ?_
      show own_K p e below m T72 109 #[iv p1, iv p2, iv p3, iv p4, iv p5, iv p6, iv xn, iv xd, iv v9, rv v17, .val .null, rv b54, iv (0 : Int32)] [(.int (0 : Int32)), (.int (0 : Int32))] _
      refine XS.icmpNo X72.here hx rfl (hb hby at_109) rfl (teq (by decide : (0 : Int32) = (0 : Int32))).2 ?_
      show own_K p e below m T72 112 #[iv p1, iv p2, iv p3, iv p4, iv p5, iv p6, iv xn, iv xd, iv v9, rv v17, .val .null, rv b54, iv (0 : Int32)] [] _
      refine XS.iconst X72.here hx rfl (hb hby at_112) ?_
      show own_K p e below m T72 113 #[iv p1, iv p2, iv p3, iv p4, iv p5, iv p6, iv xn, iv xd, iv v9, rv v17, .val .null, rv b54, iv (0 : Int32)] [(.int (1 : Int32))] _
      refine XS.goto X72.here hx rfl (pc0 := 113) (pc' := 117) rfl (hb hby at_113) (by decide) (by decide) ?_
      exact k
    obtain ⟨fs, hr, hrun, hended, hW, hsame⟩ := X72.leave (v := some (.int (1 : Int32))) (fun h => by rw [Bd.returns] at h; cases h)
    refine ⟨_, _, hG _ (pre74 _ ?_), hrun, hended, _, _, rfl, ?_, ⟨_, rfl⟩, hW, hsame.mono (by decide) (by decide)⟩
    · show own_K p e below m T72 117 #[iv p1, iv p2, iv p3, iv p4, iv p5, iv p6, iv xn, iv xd, iv v9, rv v17, .val .null, rv b54, iv (0 : Int32)] [(.int (1 : Int32))] _
      exact retN X72 hx (t := .boolean) Bd.returns (by simp) (hb hby at_117) hr
    · show Q0 Z p1 p2 p3 p4 p5 p6 c1 c2 h0 n0 _ T72.heap _
      rw [eh72]
      exact ⟨rfl, N72, K62⟩
set_option maxRecDepth 65536 in
set_option maxHeartbeats 40000000 in
theorem comes_1 {Post : Tables → Env → Array Value → State → Outcome → State → Prop} (hpost : ∀ tb e args s v u, (limb_1_1.after args s (.returned v) u = true ∧ limb_1_2.after args s (.returned v) u = true ∧ True) → FrameEnd s (.returned v) u (Jvm.fieldLocs frame_1_writes args s ++ Jvm.arrayLocs frame_1_arrays args s ++ Jvm.staticLocs frame_1_statics s) 24 256 → Post tb e args s (.returned v) u) :
    ArmFor flags0 classFile x code maxLocals ret World_1 tables_1 room_1 Calls_1 rest_1 Pre_1 Post := by
  intro l hfl _ _ p e ha hc hk s m args below hf hA hF happ hP
  obtain ⟨hcalls, hrest, hpre⟩ := hP
  obtain ⟨-, -, -, hnamed, -, -, -, hat⟩ := (Spec.applies_iff hf).mp happ
  obtain ⟨hg, hn⟩ := and_e (Cond.before_iff.mp (show (Jvm.Cond.and given_1 narrow_1).before args s = true from hpre))
  obtain ⟨ga1, gb1⟩ := and_e hg
  obtain ⟨ga2, gb2⟩ := and_e gb1
  obtain ⟨ga3, gb3⟩ := and_e gb2
  obtain ⟨ga4, gb4⟩ := and_e gb3
  obtain ⟨ga5, gb5⟩ := and_e gb4
  obtain ⟨ga6, gb6⟩ := and_e gb5
  obtain ⟨w0, w1, w2, w3, w4, w5, rfl⟩ : ∃ w0 w1 w2 w3 w4 w5 : Value, args = #[w0, w1, w2, w3, w4, w5] := by
    have hs : args.size = 6 := by simpa [Cond.value, given_1] using ga1
    obtain ⟨L⟩ := args
    match L, hs with
    | [w0, w1, w2, w3, w4, w5], _ => exact ⟨w0, w1, w2, w3, w4, w5, rfl⟩
  have hw := fun d (hd : d ∈ tables_1) => atoms_spec (ws := Jvm.Cond.code x code maxLocals ret :: tables_1) hat d (List.mem_cons_of_mem _ hd)
  have hfit : Fit s := fun {y c} hc i hi => by
    obtain ⟨ha, rfl⟩ := Array.getElem?_eq_some_iff.mp hc
    have q := List.all_eq_true.mp ((Array.all_eq_true_iff_forall_mem.mp hF) _ (Array.getElem_mem ha)) i (List.mem_range.mpr hi)
    simpa [Array.getElem?_eq_getElem hi] using q
  obtain ⟨i0, ei0⟩ := is_v ga2
  obtain rfl : w0 = (.int i0) := Option.some.inj ei0
  obtain ⟨i1, ei1⟩ := is_v ga3
  obtain rfl : w1 = (.int i1) := Option.some.inj ei1
  obtain ⟨i2, ei2⟩ := is_v ga4
  obtain rfl : w2 = (.int i2) := Option.some.inj ei2
  obtain ⟨i3, ei3⟩ := is_v ga5
  obtain rfl : w3 = (.int i3) := Option.some.inj ei3
  obtain ⟨i4, ei4⟩ := is_v ga6
  obtain rfl : w4 = (.int i4) := Option.some.inj ei4
  obtain ⟨i5, ei5⟩ := is_v gb6
  obtain rfl : w5 = (.int i5) := Option.some.inj ei5
  obtain ⟨hn1, hn2⟩ := and_e hn
  obtain ⟨c1, k1⟩ := exa_v hn1
  obtain ⟨c2, k2⟩ := exa_v hn2
  have S1 := Sta.start k1 (Or.inr ⟨(hw _ (List.mem_of_getElem? (i := 1) rfl)), (hw _ (List.mem_of_getElem? (i := 2) rfl))⟩)
  have S2 := Sta.start k2 (Or.inr ⟨(hw _ (List.mem_of_getElem? (i := 1) rfl)), (hw _ (List.mem_of_getElem? (i := 65) rfl))⟩)
  obtain ⟨n, o, h1, h2, h3, _, L, rfl, ⟨rfl, N, _⟩, hq⟩ := rm0 l s _ hw tables_1 i0 i1 i2 i3 i4 i5 c1 c2 s.heap s.heap.size (Nat.le_refl _) (Old.start s) S1 S2 p e ha hc hk s m _ below hf ((Spec.applies_iff_loose hf).mp happ).1 ⟨rfl, State.Warmed39.refl s, rfl⟩ trivial
  refine ⟨n, _, h1, h2, h3, hpost _ _ _ _ _ _ ⟨Cond.after_iff.mpr rfl, Cond.after_iff.mpr (eq_i res_at (Term.int_eval (1)) rfl), trivial⟩ ⟨hq.1, hq.2.1, (hq.2.2.sift fun y hy => Or.inr (N y hy)).mono (by decide) (by decide)⟩⟩
theorem main_1_1 : Claimed_1_1 := comes_1 fun _ _ _ _ _ _ h hF => ⟨h.1, hF⟩
theorem main_1_2 : Claimed_1_2 := comes_1 fun _ _ _ _ _ _ h hF => ⟨h.2.1, hF⟩
end Jvm.Pilot.@@N@@
namespace Jvm.Pilot.@@N@@
open Jvm Jvm.ClassFile Sem Op Lib Jvm.Free Jvm.Stand Jvm.Pilot.@@N@@.Jvm.D
/-! MADE BY PROGRAM (witnessworld.py) out of the Statement's table words and the real class files: 17 classes; the members and pool entries that the words name. The judged class is class 1, her method 1. -/
namespace start1
open Jvm.ClassFile
def u (s : String) : CpInfo := .utf8 (stringToUtf16 s)
/-- a pool by its gaps: so many unusable entries, then the entry; so many at the end -/
def gap : Nat → List CpInfo → List CpInfo
  | 0, r => r
  | n + 1, r => .unusable :: gap n r
def poolList (es : List (Nat × CpInfo)) (last : Nat) : List CpInfo := es.foldr (fun e r => gap e.1 (e.2 :: r)) (gap last [])
def pool (es : List (Nat × CpInfo)) (last : Nat) : Array CpInfo := ⟨poolList es last⟩
def fileOf (pool : Array CpInfo) (this : Nat) (attrs : Array Attribute := #[]) (ms : Array MethodInfo := #[]) (fl : Nat := 33) (sup : Nat := 0) (ifs : Array Nat := #[]) (fds : Array FieldInfo := #[]) : ClassFile where
  minorVersion := 0
  majorVersion := 65
  constantPool := pool
  accessFlags := fl
  thisClass := this
  superClass := sup
  interfaces := ifs
  fields := fds
  methods := ms
  attributes := attrs
def plain (name : String) (sup : Option ClassId) : Class where
  name := name
  kind := .ordinary
  loader := none
  accessFlags := 33
  super := sup
  interfaces := #[]
  cf := none
  fields := #[]
  methods := #[]
  instanceTypes := #[]
  staticTypes := #[]
  resolved := #[]
  callSites := []
  init := .initialized
  statics := none
  mirror := none

def pool0 : Array CpInfo := pool [(5, u "<init>"), (0, u "()V"), (1, .class_ 10), (1, u "java/lang/Object")] 113

def k0c0 : Code := { maxStack := 0, maxLocals := 1, code := object_method_1_code, exceptionTable := #[], attributes := #[] }
def k0m0 : Method := { name := "<init>", desc := "()V", sig := { parameters := [], returnType := none }, accessFlags := 1, code := some k0c0 }
/-- java/lang/Object -/
def k0 : Class := { plain "java/lang/Object" none with
  accessFlags := 33
  interfaces := #[]
  cf := some (fileOf pool0 8 #[] #[{ accessFlags := 1, nameIndex := 5, descriptorIndex := 6, attributes := #[] }] 33 0 #[] #[])
  fields := #[]
  methods := #[k0m0]
  instanceTypes := #[]
  staticTypes := #[]
  resolved := Array.replicate 124 none
  statics := none }

def pool1 : Array CpInfo := pool [(2, .class_ 4), (1, u "java/lang/Object"), (0, u "<init>"), (0, u "()V"), (0, .fieldref 8 9), (0, .class_ 10), (0, .nameAndType 11 12), (0, u "com/example/tiercast/tiercast/model/MessageType"), (0, u "SUMMARY_ANSWER"), (0, u "Lcom/example/tiercast/tiercast/model/MessageType;"), (0, .fieldref 8 14), (0, .nameAndType 15 12), (0, u "SUMMARY_REQUEST"), (0, .class_ 17), (0, u "com/example/tiercast/tiercast/protocol/Knots"), (0, .methodref 16 19), (0, .nameAndType 5 20), (0, u "(IFI)V"), (0, .class_ 22), (0, u "com/example/tiercast/tiercast/protocol/Boundaries$Summary"), (0, .methodref 21 24), (0, .nameAndType 5 25), (0, u "(Lcom/example/tiercast/tiercast/model/MessageType;Lcom/example/tiercast/tiercast/protocol/Knots;[IIII)V"), (0, .methodref 21 27), (0, .nameAndType 28 29), (0, u "knotCount"), (0, u "()I"), (0, .class_ 31), (0, u "com/example/tiercast/tiercast/protocol/SummaryKnotCountPinLaw"), (2, u "law"), (0, u "(IIIIII)Z")] 7

def k1m0 : Method := { name := "<init>", desc := "()V", sig := { parameters := [], returnType := none }, accessFlags := 1, code := none }
def k1c1 : Code := { maxStack := 8, maxLocals := 13, code := code, exceptionTable := #[], attributes := #[] }
def k1m1 : Method := { name := "law", desc := "(IIIIII)Z", sig := { parameters := [.int, .int, .int, .int, .int, .int], returnType := some .boolean }, accessFlags := 9, code := some k1c1 }
/-- com/example/tiercast/tiercast/protocol/SummaryKnotCountPinLaw -/
def k1 : Class := { plain "com/example/tiercast/tiercast/protocol/SummaryKnotCountPinLaw" (some 0) with
  accessFlags := 49
  interfaces := #[]
  cf := some (fileOf pool1 30 #[] #[{ accessFlags := 1, nameIndex := 5, descriptorIndex := 6, attributes := #[] }, { accessFlags := 9, nameIndex := 34, descriptorIndex := 35, attributes := #[] }] 49 2 #[] #[])
  fields := #[]
  methods := #[k1m0, k1m1]
  instanceTypes := #[]
  staticTypes := #[]
  resolved := Array.replicate 43 none
  statics := none }

def pool2 : Array CpInfo := pool [(1, .class_ 2), (0, u "java/lang/constant/Constable"), (0, .class_ 4), (0, u "java/lang/Object")] 6

/-- java/lang/constant/Constable -/
def k2 : Class := { plain "java/lang/constant/Constable" (some 0) with
  accessFlags := 1537
  interfaces := #[]
  cf := some (fileOf pool2 1 #[] #[] 1537 3 #[] #[])
  fields := #[]
  methods := #[]
  instanceTypes := #[]
  staticTypes := #[]
  resolved := Array.replicate 11 none
  statics := none }

def pool3 : Array CpInfo := pool [(1, .class_ 2), (0, u "java/lang/Comparable"), (0, .class_ 4), (0, u "java/lang/Object")] 7

/-- java/lang/Comparable -/
def k3 : Class := { plain "java/lang/Comparable" (some 0) with
  accessFlags := 1537
  interfaces := #[]
  cf := some (fileOf pool3 1 #[] #[] 1537 3 #[] #[])
  fields := #[]
  methods := #[]
  instanceTypes := #[]
  staticTypes := #[]
  resolved := Array.replicate 12 none
  statics := none }

def pool4 : Array CpInfo := pool [(1, .class_ 2), (0, u "java/io/Serializable"), (0, .class_ 4), (0, u "java/lang/Object")] 2

/-- java/io/Serializable -/
def k4 : Class := { plain "java/io/Serializable" (some 0) with
  accessFlags := 1537
  interfaces := #[]
  cf := some (fileOf pool4 1 #[] #[] 1537 3 #[] #[])
  fields := #[]
  methods := #[]
  instanceTypes := #[]
  staticTypes := #[]
  resolved := Array.replicate 7 none
  statics := none }

def pool5 : Array CpInfo := pool [(2, .class_ 4), (1, u "java/lang/Enum"), (0, u "name"), (0, u "Ljava/lang/String;"), (2, u "ordinal"), (0, u "I"), (1, .class_ 14), (1, u "java/lang/Object"), (4, u "hash"), (86, .class_ 108), (1, u "java/lang/Enum$EnumDesc"), (2, .class_ 112), (0, u "java/lang/constant/Constable"), (0, .class_ 114), (0, u "java/lang/Comparable"), (0, .class_ 116), (0, u "java/io/Serializable")] 87

/-- java/lang/Enum -/
def k5 : Class := { plain "java/lang/Enum" (some 0) with
  accessFlags := 1057
  interfaces := #[2, 3, 4]
  cf := some (fileOf pool5 2 #[.nestMembers #[106]] #[] 1057 12 #[111, 113, 115] #[{ accessFlags := 18, nameIndex := 5, descriptorIndex := 6, attributes := #[] }, { accessFlags := 18, nameIndex := 9, descriptorIndex := 10, attributes := #[] }, { accessFlags := 2, nameIndex := 19, descriptorIndex := 10, attributes := #[] }])
  fields := #[{ name := "name", type := (.object "java/lang/String"), accessFlags := 18, slot := 0, constantValue := 0 }, { name := "ordinal", type := .int, accessFlags := 18, slot := 1, constantValue := 0 }, { name := "hash", type := .int, accessFlags := 2, slot := 2, constantValue := 0 }]
  methods := #[]
  instanceTypes := #[(.object "java/lang/String"), .int, .int]
  staticTypes := #[]
  resolved := Array.replicate 204 none
  statics := none }

def pool6 : Array CpInfo := pool [(1, .class_ 2), (0, u "com/example/tiercast/tiercast/model/MessageType"), (2, u "VIEW_REQUEST"), (0, u "Lcom/example/tiercast/tiercast/model/MessageType;"), (2, u "VIEW_ANSWER"), (2, u "SWAP_REQUEST"), (2, u "SWAP_ANSWER"), (2, u "ATTRIBUTE"), (2, u "SUMMARY_REQUEST"), (2, u "SUMMARY_ANSWER"), (2, u "$VALUES"), (0, u "[Lcom/example/tiercast/tiercast/model/MessageType;"), (6, .class_ 37), (1, u "java/lang/Enum")] 41

/-- com/example/tiercast/tiercast/model/MessageType -/
def k6 : Class := { plain "com/example/tiercast/tiercast/model/MessageType" (some 5) with
  accessFlags := 16433
  interfaces := #[]
  cf := some (fileOf pool6 1 #[] #[] 16433 35 #[] #[{ accessFlags := 16409, nameIndex := 5, descriptorIndex := 6, attributes := #[] }, { accessFlags := 16409, nameIndex := 9, descriptorIndex := 6, attributes := #[] }, { accessFlags := 16409, nameIndex := 12, descriptorIndex := 6, attributes := #[] }, { accessFlags := 16409, nameIndex := 15, descriptorIndex := 6, attributes := #[] }, { accessFlags := 16409, nameIndex := 18, descriptorIndex := 6, attributes := #[] }, { accessFlags := 16409, nameIndex := 21, descriptorIndex := 6, attributes := #[] }, { accessFlags := 16409, nameIndex := 24, descriptorIndex := 6, attributes := #[] }, { accessFlags := 4122, nameIndex := 27, descriptorIndex := 28, attributes := #[] }])
  fields := #[{ name := "VIEW_REQUEST", type := (.object "com/example/tiercast/tiercast/model/MessageType"), accessFlags := 16409, slot := 0, constantValue := 0 }, { name := "VIEW_ANSWER", type := (.object "com/example/tiercast/tiercast/model/MessageType"), accessFlags := 16409, slot := 1, constantValue := 0 }, { name := "SWAP_REQUEST", type := (.object "com/example/tiercast/tiercast/model/MessageType"), accessFlags := 16409, slot := 2, constantValue := 0 }, { name := "SWAP_ANSWER", type := (.object "com/example/tiercast/tiercast/model/MessageType"), accessFlags := 16409, slot := 3, constantValue := 0 }, { name := "ATTRIBUTE", type := (.object "com/example/tiercast/tiercast/model/MessageType"), accessFlags := 16409, slot := 4, constantValue := 0 }, { name := "SUMMARY_REQUEST", type := (.object "com/example/tiercast/tiercast/model/MessageType"), accessFlags := 16409, slot := 5, constantValue := 0 }, { name := "SUMMARY_ANSWER", type := (.object "com/example/tiercast/tiercast/model/MessageType"), accessFlags := 16409, slot := 6, constantValue := 0 }, { name := "$VALUES", type := (.array (.object "com/example/tiercast/tiercast/model/MessageType")), accessFlags := 4122, slot := 7, constantValue := 0 }]
  methods := #[]
  instanceTypes := #[(.object "java/lang/String"), .int, .int]
  staticTypes := #[(.object "com/example/tiercast/tiercast/model/MessageType"), (.object "com/example/tiercast/tiercast/model/MessageType"), (.object "com/example/tiercast/tiercast/model/MessageType"), (.object "com/example/tiercast/tiercast/model/MessageType"), (.object "com/example/tiercast/tiercast/model/MessageType"), (.object "com/example/tiercast/tiercast/model/MessageType"), (.object "com/example/tiercast/tiercast/model/MessageType"), (.array (.object "com/example/tiercast/tiercast/model/MessageType"))]
  resolved := Array.replicate 79 none
  statics := some 0 }

def pool7 : Array CpInfo := pool [(1, .methodref 2 3), (0, .class_ 4), (0, .nameAndType 5 6), (0, u "com/example/tiercast/tiercast/protocol/Knots"), (0, u "<init>"), (0, u "([F[IIII)V"), (0, .fieldref 2 8), (0, .nameAndType 9 10), (0, u "places"), (0, u "[F"), (0, .methodref 12 13), (0, .class_ 14), (0, .nameAndType 15 16), (0, u "java/util/Arrays"), (0, u "fill"), (0, u "([FF)V"), (0, .fieldref 2 18), (0, .nameAndType 19 20), (0, u "ties"), (0, u "[I"), (0, .methodref 12 22), (0, .nameAndType 15 23), (0, u "([II)V"), (0, .methodref 25 26), (0, .class_ 27), (0, .nameAndType 5 28), (0, u "java/lang/Object"), (0, u "()V"), (0, .fieldref 2 30), (0, .nameAndType 31 32), (0, u "lowest"), (0, u "I"), (0, .fieldref 2 34), (0, .nameAndType 35 32), (0, u "highest"), (0, .fieldref 2 37), (0, .nameAndType 38 32), (0, u "weight"), (30, u "SCRATCH"), (0, u "Ljava/lang/ThreadLocal;"), (6, .class_ 78), (0, u "com/example/tiercast/tiercast/protocol/Knots$Scratch"), (11, .class_ 92), (1, u "com/example/tiercast/tiercast/protocol/Knots$Curve"), (41, u "MOST_PLACE"), (0, u "F"), (8, u "NEGATIVE_ZERO"), (92, u "HEAVIEST"), (1, u "WEIGHT_POWER"), (0, u "D"), (0, u "TIE_STEPS"), (2, u "(IFI)V")] 59

def k7c0 : Code := { maxStack := 6, maxLocals := 4, code := prog_70_method_1_code, exceptionTable := #[], attributes := #[] }
def k7m0 : Method := { name := "<init>", desc := "(IFI)V", sig := { parameters := [.int, .float, .int], returnType := none }, accessFlags := 0, code := some k7c0 }
def k7c1 : Code := { maxStack := 2, maxLocals := 6, code := prog_70_method_2_code, exceptionTable := #[], attributes := #[] }
def k7m1 : Method := { name := "<init>", desc := "([F[IIII)V", sig := { parameters := [(.array .float), (.array .int), .int, .int, .int], returnType := none }, accessFlags := 2, code := some k7c1 }
/-- com/example/tiercast/tiercast/protocol/Knots -/
def k7 : Class := { plain "com/example/tiercast/tiercast/protocol/Knots" (some 0) with
  accessFlags := 48
  interfaces := #[]
  cf := some (fileOf pool7 2 #[.nestMembers #[77, 90]] #[{ accessFlags := 0, nameIndex := 5, descriptorIndex := 244, attributes := #[] }, { accessFlags := 2, nameIndex := 5, descriptorIndex := 6, attributes := #[] }] 48 25 #[] #[{ accessFlags := 24, nameIndex := 237, descriptorIndex := 32, attributes := #[] }, { accessFlags := 24, nameIndex := 239, descriptorIndex := 240, attributes := #[] }, { accessFlags := 26, nameIndex := 241, descriptorIndex := 32, attributes := #[] }, { accessFlags := 26, nameIndex := 134, descriptorIndex := 135, attributes := #[] }, { accessFlags := 26, nameIndex := 144, descriptorIndex := 32, attributes := #[] }, { accessFlags := 26, nameIndex := 69, descriptorIndex := 70, attributes := #[] }, { accessFlags := 16, nameIndex := 9, descriptorIndex := 10, attributes := #[] }, { accessFlags := 16, nameIndex := 19, descriptorIndex := 20, attributes := #[] }, { accessFlags := 0, nameIndex := 31, descriptorIndex := 32, attributes := #[] }, { accessFlags := 0, nameIndex := 35, descriptorIndex := 32, attributes := #[] }, { accessFlags := 0, nameIndex := 38, descriptorIndex := 32, attributes := #[] }])
  fields := #[{ name := "HEAVIEST", type := .int, accessFlags := 24, slot := 0, constantValue := 0 }, { name := "WEIGHT_POWER", type := .double, accessFlags := 24, slot := 1, constantValue := 0 }, { name := "TIE_STEPS", type := .int, accessFlags := 26, slot := 2, constantValue := 0 }, { name := "MOST_PLACE", type := .float, accessFlags := 26, slot := 3, constantValue := 0 }, { name := "NEGATIVE_ZERO", type := .int, accessFlags := 26, slot := 4, constantValue := 0 }, { name := "SCRATCH", type := (.object "java/lang/ThreadLocal"), accessFlags := 26, slot := 5, constantValue := 0 }, { name := "places", type := (.array .float), accessFlags := 16, slot := 0, constantValue := 0 }, { name := "ties", type := (.array .int), accessFlags := 16, slot := 1, constantValue := 0 }, { name := "lowest", type := .int, accessFlags := 0, slot := 2, constantValue := 0 }, { name := "highest", type := .int, accessFlags := 0, slot := 3, constantValue := 0 }, { name := "weight", type := .int, accessFlags := 0, slot := 4, constantValue := 0 }]
  methods := #[k7m0, k7m1]
  instanceTypes := #[(.array .float), (.array .int), .int, .int, .int]
  staticTypes := #[.int, .double, .int, .float, .int, (.object "java/lang/ThreadLocal")]
  resolved := Array.replicate 304 none
  statics := none }

def pool8 : Array CpInfo := pool [(2, .class_ 4), (1, u "java/lang/Object"), (0, u "<init>"), (0, u "()V"), (7, .class_ 16), (1, u "java/util/Arrays"), (57, .class_ 76), (1, u "java/util/Arrays$NaturalOrder"), (36, .class_ 115), (1, u "java/util/Arrays$LegacyMergeSort"), (1, u "Z"), (257, .class_ 376), (0, u "java/util/Arrays$ArrayList"), (68, u "$assertionsDisabled"), (269, u "MIN_ARRAY_SORT_GRAN"), (0, u "I"), (2, u "INSERTIONSORT_THRESHOLD"), (120, u "fill"), (4, u "([II)V"), (10, u "([FF)V"), (118, .class_ 976), (0, u "java/util/Arrays$ArrayItr")] 52

def k8m0 : Method := { name := "<init>", desc := "()V", sig := { parameters := [], returnType := none }, accessFlags := 2, code := none }
def k8c1 : Code := { maxStack := 3, maxLocals := 4, code := jdk_65_method_103_code, exceptionTable := #[], attributes := #[] }
def k8m1 : Method := { name := "fill", desc := "([II)V", sig := { parameters := [(.array .int), .int], returnType := none }, accessFlags := 9, code := some k8c1 }
def k8c2 : Code := { maxStack := 3, maxLocals := 4, code := jdk_65_method_115_code, exceptionTable := #[], attributes := #[] }
def k8m2 : Method := { name := "fill", desc := "([FF)V", sig := { parameters := [(.array .float), .float], returnType := none }, accessFlags := 9, code := some k8c2 }
/-- java/util/Arrays -/
def k8 : Class := { plain "java/util/Arrays" (some 0) with
  accessFlags := 49
  interfaces := #[]
  cf := some (fileOf pool8 14 #[.nestMembers #[975, 375, 113, 74]] #[{ accessFlags := 2, nameIndex := 5, descriptorIndex := 6, attributes := #[] }, { accessFlags := 9, nameIndex := 840, descriptorIndex := 845, attributes := #[] }, { accessFlags := 9, nameIndex := 840, descriptorIndex := 856, attributes := #[] }] 49 2 #[] #[{ accessFlags := 26, nameIndex := 715, descriptorIndex := 716, attributes := #[] }, { accessFlags := 26, nameIndex := 719, descriptorIndex := 716, attributes := #[] }, { accessFlags := 4120, nameIndex := 445, descriptorIndex := 117, attributes := #[] }])
  fields := #[{ name := "MIN_ARRAY_SORT_GRAN", type := .int, accessFlags := 26, slot := 0, constantValue := 0 }, { name := "INSERTIONSORT_THRESHOLD", type := .int, accessFlags := 26, slot := 1, constantValue := 0 }, { name := "$assertionsDisabled", type := .boolean, accessFlags := 4120, slot := 2, constantValue := 0 }]
  methods := #[k8m0, k8m1, k8m2]
  instanceTypes := #[]
  staticTypes := #[.int, .int, .boolean]
  resolved := Array.replicate 1029 none
  statics := none }

def pool9 : Array CpInfo := pool [(1, .methodref 2 3), (0, .class_ 4), (0, .nameAndType 5 6), (0, u "java/lang/Object"), (0, u "<init>"), (0, u "()V"), (0, .class_ 8), (0, u "java/lang/Record")] 13

def k9c0 : Code := { maxStack := 1, maxLocals := 1, code := jdk_30_method_1_code, exceptionTable := #[], attributes := #[] }
def k9m0 : Method := { name := "<init>", desc := "()V", sig := { parameters := [], returnType := none }, accessFlags := 4, code := some k9c0 }
/-- java/lang/Record -/
def k9 : Class := { plain "java/lang/Record" (some 0) with
  accessFlags := 1057
  interfaces := #[]
  cf := some (fileOf pool9 7 #[] #[{ accessFlags := 4, nameIndex := 5, descriptorIndex := 6, attributes := #[] }] 1057 2 #[] #[])
  fields := #[]
  methods := #[k9m0]
  instanceTypes := #[]
  staticTypes := #[]
  resolved := Array.replicate 22 none
  statics := none }

def pool10 : Array CpInfo := pool [(1, .class_ 2), (0, u "com/example/tiercast/tiercast/protocol/PlaceEstimator$Message"), (0, .class_ 4), (0, u "java/lang/Object"), (11, .class_ 17), (0, u "com/example/tiercast/tiercast/protocol/PlaceEstimator")] 2

/-- com/example/tiercast/tiercast/protocol/PlaceEstimator$Message -/
def k10 : Class := { plain "com/example/tiercast/tiercast/protocol/PlaceEstimator$Message" (some 0) with
  accessFlags := 1537
  interfaces := #[]
  cf := some (fileOf pool10 1 #[.nestHost 16] #[] 1537 3 #[] #[])
  fields := #[]
  methods := #[]
  instanceTypes := #[]
  staticTypes := #[]
  resolved := Array.replicate 20 none
  statics := none }

def pool11 : Array CpInfo := pool [(1, .class_ 2), (0, u "com/example/tiercast/tiercast/protocol/Boundaries"), (0, .methodref 4 5), (0, .class_ 6), (0, .nameAndType 7 8), (0, u "java/lang/Record"), (0, u "<init>"), (0, u "()V"), (0, .fieldref 10 11), (0, .class_ 12), (0, .nameAndType 13 14), (0, u "com/example/tiercast/tiercast/protocol/Boundaries$Summary"), (0, u "type"), (0, u "Lcom/example/tiercast/tiercast/model/MessageType;"), (0, .fieldref 10 16), (0, .nameAndType 17 18), (0, u "knots"), (0, u "Lcom/example/tiercast/tiercast/protocol/Knots;"), (0, .fieldref 10 20), (0, .nameAndType 21 22), (0, u "deviationSteps"), (0, u "[I"), (0, .fieldref 10 24), (0, .nameAndType 25 26), (0, u "massSteps"), (0, u "I"), (0, .fieldref 10 28), (0, .nameAndType 29 26), (0, u "squaresSteps"), (0, .fieldref 10 31), (0, .nameAndType 32 26), (0, u "epoch"), (40, .class_ 75), (1, u "com/example/tiercast/tiercast/protocol/Knots"), (4, u "(Lcom/example/tiercast/tiercast/model/MessageType;Lcom/example/tiercast/tiercast/protocol/Knots;[IIII)V"), (12, .fieldref 73 94), (0, .nameAndType 95 96), (0, u "places"), (0, u "[F"), (14, u "knotCount"), (0, u "()I"), (36, u "REFUSED"), (0, u "Lcom/example/tiercast/tiercast/protocol/Boundaries$Summary;"), (0, .class_ 152), (0, u "com/example/tiercast/tiercast/protocol/PlaceEstimator$Message")] 68

def k11c0 : Code := { maxStack := 2, maxLocals := 7, code := prog_63_method_1_code, exceptionTable := #[], attributes := #[] }
def k11m0 : Method := { name := "<init>", desc := "(Lcom/example/tiercast/tiercast/model/MessageType;Lcom/example/tiercast/tiercast/protocol/Knots;[IIII)V", sig := { parameters := [(.object "com/example/tiercast/tiercast/model/MessageType"), (.object "com/example/tiercast/tiercast/protocol/Knots"), (.array .int), .int, .int, .int], returnType := none }, accessFlags := 1, code := some k11c0 }
def k11c1 : Code := { maxStack := 1, maxLocals := 1, code := prog_63_method_6_code, exceptionTable := #[], attributes := #[] }
def k11m1 : Method := { name := "knotCount", desc := "()I", sig := { parameters := [], returnType := some .int }, accessFlags := 1, code := some k11c1 }
/-- com/example/tiercast/tiercast/protocol/Boundaries$Summary -/
def k11 : Class := { plain "com/example/tiercast/tiercast/protocol/Boundaries$Summary" (some 9) with
  accessFlags := 49
  interfaces := #[10]
  cf := some (fileOf pool11 10 #[.nestHost 1] #[{ accessFlags := 1, nameIndex := 7, descriptorIndex := 80, attributes := #[] }, { accessFlags := 1, nameIndex := 111, descriptorIndex := 112, attributes := #[] }] 49 4 #[151] #[{ accessFlags := 18, nameIndex := 13, descriptorIndex := 14, attributes := #[] }, { accessFlags := 18, nameIndex := 17, descriptorIndex := 18, attributes := #[] }, { accessFlags := 18, nameIndex := 21, descriptorIndex := 22, attributes := #[] }, { accessFlags := 18, nameIndex := 25, descriptorIndex := 26, attributes := #[] }, { accessFlags := 18, nameIndex := 29, descriptorIndex := 26, attributes := #[] }, { accessFlags := 18, nameIndex := 32, descriptorIndex := 26, attributes := #[] }, { accessFlags := 25, nameIndex := 149, descriptorIndex := 150, attributes := #[] }])
  fields := #[{ name := "type", type := (.object "com/example/tiercast/tiercast/model/MessageType"), accessFlags := 18, slot := 0, constantValue := 0 }, { name := "knots", type := (.object "com/example/tiercast/tiercast/protocol/Knots"), accessFlags := 18, slot := 1, constantValue := 0 }, { name := "deviationSteps", type := (.array .int), accessFlags := 18, slot := 2, constantValue := 0 }, { name := "massSteps", type := .int, accessFlags := 18, slot := 3, constantValue := 0 }, { name := "squaresSteps", type := .int, accessFlags := 18, slot := 4, constantValue := 0 }, { name := "epoch", type := .int, accessFlags := 18, slot := 5, constantValue := 0 }, { name := "REFUSED", type := (.object "com/example/tiercast/tiercast/protocol/Boundaries$Summary"), accessFlags := 25, slot := 0, constantValue := 0 }]
  methods := #[k11m0, k11m1]
  instanceTypes := #[(.object "com/example/tiercast/tiercast/model/MessageType"), (.object "com/example/tiercast/tiercast/protocol/Knots"), (.array .int), .int, .int, .int]
  staticTypes := #[(.object "com/example/tiercast/tiercast/protocol/Boundaries$Summary")]
  resolved := Array.replicate 221 none
  statics := none }

def pool12 : Array CpInfo := pool [(1, u "java/lang/Cloneable"), (0, .class_ 1), (0, u "java/lang/Object"), (0, .class_ 3)] 3

/-- java/lang/Cloneable -/
def k12 : Class := { plain "java/lang/Cloneable" (some 0) with
  accessFlags := 1537
  interfaces := #[]
  cf := some (fileOf pool12 2 #[] #[] 1537 4 #[] #[])
  fields := #[]
  methods := #[]
  instanceTypes := #[]
  staticTypes := #[]
  resolved := Array.replicate 8 none
  statics := none }

/-- the primitive byte -/
def k13 : Class := { plain "byte" none with kind := .primitive 'B', accessFlags := 0x411 }
/-- [B -/
def k14 : Class := { plain "[B" (some 0) with kind := .array 13 .byte, interfaces := #[12, 4], accessFlags := 1041 }

/-- the primitive int -/
def k15 : Class := { plain "int" none with kind := .primitive 'I', accessFlags := 0x411 }
/-- [I -/
def k16 : Class := { plain "[I" (some 0) with kind := .array 15 .int, interfaces := #[12, 4], accessFlags := 1041 }

/-- the primitive float -/
def k17 : Class := { plain "float" none with kind := .primitive 'F', accessFlags := 0x411 }
/-- [F -/
def k18 : Class := { plain "[F" (some 0) with kind := .array 17 .float, interfaces := #[12, 4], accessFlags := 1041 }

def heap : Heap := #[{ cls := 6, slots := #[.null, .null, .null, .null, .null, .ref 1, .ref 2, .null], vm := .statics 6 },
  { cls := 6, slots := #[.null, .int 0, .int 0], vm := .none },
  { cls := 6, slots := #[.null, .int 1, .int 0], vm := .none }]
def classes : Array Class := #[k0, k1, k2, k3, k4, k5, k6, k7, k8, k9, k10, k11, k12, k13, k14, k15, k16, k17, k18]
def interned : List (Array UInt16 × Addr) := []
def slotsUsed : Nat := 14
def theMethod : MethodId := ⟨1, 1⟩
def args0 : Array Value := #[.int 3, .int 2, .int 7, .int 8, .int 2, .int 1]
def aboutOver (below : List Frame) : State where
  vm := { classes := classes, interned := interned.toArray }
  heap := heap
  slotsUsed := slotsUsed
  threads := #[{ frames := .invoking theMethod args0 :: below }]
def below0 : List Frame := [.native { method := ⟨0, 0⟩, args := #[] }]
def about1 : State := aboutOver below0
def p0 : Program := .bare "" "" ""
def e0 : Env := launch0.env 0 0 0
theorem w_frames : about1.frames = Frame.invoking theMethod args0 :: below0 := rfl
set_option maxRecDepth 65536 in
theorem w_args : argsFit about1.vm theMethod args0 = true := by decide +kernel
set_option maxRecDepth 65536 in
theorem w_heap : heapFits about1 = true := by decide +kernel
set_option maxRecDepth 65536 in
theorem w_runnable : about1.curStatus? = some .runnable := by decide +kernel
set_option maxRecDepth 65536 in
theorem w_alone : about1.alone = true := by decide +kernel
set_option maxRecDepth 65536 in
theorem w_named : about1.methodNamed? x = some theMethod := by decide +kernel
set_option maxRecDepth 65536 in
theorem w_hears : about1.hears theMethod below0 = true := by decide +kernel
set_option maxRecDepth 65536 in
theorem w_ripe : about1.ripe theMethod args0 below0 = true := by decide +kernel
theorem w_running : about1.status = .running := rfl
set_option maxRecDepth 65536 in
theorem w_room : about1.hasRoom e0.platform room_1 = true :=
  launch0.hasRoom_least _ room_1 (by decide +kernel) (by decide +kernel) (by decide +kernel) (by decide +kernel) (by decide +kernel) (by decide +kernel)
theorem allAtoms_all (ts : List Jvm.Cond) (a : Array Jvm.Value) (st : Jvm.State) : (allAtoms ts).before a st = ts.all (fun c => c.before a st) := by
  induction ts with
  | nil => rfl
  | cons c t ih =>
    show (Jvm.Cond.and c (allAtoms t)).before a st = _
    rw [Jvm.Cond.before_and, ih, List.all_cons]
def words1 : List Jvm.Cond := Jvm.Cond.code x code maxLocals ret :: tables_1
/-- a 'code' word, met by the world's own term for the bytes: nothing is compared byte by byte -/
theorem code_word {y : MethodName} {bytes : ByteArray} {mx : Nat} {rt : Option FieldType} {a : Array Value} {s : State} {m : MethodId} {meth : Method} {c : Code} (h1 : s.methodNamed? y = some m) (h2 : s.vm.method? m = some meth) (h3 : meth.code = some c) (h4 : c.code = bytes)
    (h5 : (c.maxLocals == mx && c.exceptionTable.isEmpty && decide (c.maxStack ≤ mostOperands) && decide (meth.sig.returnType = rt) && !meth.locks && decide (parseMethodDescriptor y.desc = some meth.sig)) = true) : (Jvm.Cond.code y bytes mx rt).before a s = true := by
  simp only [Bool.and_eq_true, beq_iff_eq, Bool.not_eq_true', decide_eq_true_eq] at h5
  obtain ⟨⟨⟨⟨⟨g1, g2⟩, g3⟩, g4⟩, g5⟩, g6⟩ := h5
  simp [Cond.before, Cond.holds, Cond.value, h1, h2, h3, h4, g1, g2, g3, g4, g5, g6]
def isCode : Jvm.Cond → Bool
  | .code _ _ _ _ => true
  | _ => false
theorem all_split {L : List Jvm.Cond} {P : Jvm.Cond → Bool} (h1 : L.all (fun c => isCode c || P c) = true) (h2 : ∀ c ∈ L.filter isCode, P c = true) : L.all P = true := by
  refine List.all_eq_true.mpr fun c hc => ?_
  have h := List.all_eq_true.mp h1 c hc
  rcases Bool.eq_false_or_eq_true (isCode c) with hi | hi
  · exact h2 c (List.mem_filter.mpr ⟨hc, hi⟩)
  · simpa [hi] using h
set_option maxRecDepth 65536 in
theorem w_c0 : (Jvm.Cond.code x code maxLocals ret).before args0 about1 = true := code_word (m := ⟨1, 1⟩) (meth := k1m1) (c := k1c1) (by decide +kernel) rfl rfl rfl (by decide +kernel)
set_option maxRecDepth 65536 in
theorem w_c1 : (Jvm.Cond.code ({ cls := "com/example/tiercast/tiercast/protocol/Knots", name := "<init>", desc := "(IFI)V" } : Jvm.MethodName) prog_70_method_1_code (4 : Nat) (Option.none : Option Jvm.ClassFile.FieldType)).before args0 about1 = true := code_word (m := ⟨7, 0⟩) (meth := k7m0) (c := k7c0) (by decide +kernel) rfl rfl rfl (by decide +kernel)
set_option maxRecDepth 65536 in
theorem w_c2 : (Jvm.Cond.code ({ cls := "com/example/tiercast/tiercast/protocol/Knots", name := "<init>", desc := "([F[IIII)V" } : Jvm.MethodName) prog_70_method_2_code (6 : Nat) (Option.none : Option Jvm.ClassFile.FieldType)).before args0 about1 = true := code_word (m := ⟨7, 1⟩) (meth := k7m1) (c := k7c1) (by decide +kernel) rfl rfl rfl (by decide +kernel)
set_option maxRecDepth 65536 in
theorem w_c3 : (Jvm.Cond.code ({ cls := "java/lang/Object", name := "<init>", desc := "()V" } : Jvm.MethodName) object_method_1_code (1 : Nat) (Option.none : Option Jvm.ClassFile.FieldType)).before args0 about1 = true := code_word (m := ⟨0, 0⟩) (meth := k0m0) (c := k0c0) (by decide +kernel) rfl rfl rfl (by decide +kernel)
set_option maxRecDepth 65536 in
theorem w_c4 : (Jvm.Cond.code ({ cls := "java/util/Arrays", name := "fill", desc := "([FF)V" } : Jvm.MethodName) jdk_65_method_115_code (4 : Nat) (Option.none : Option Jvm.ClassFile.FieldType)).before args0 about1 = true := code_word (m := ⟨8, 2⟩) (meth := k8m2) (c := k8c2) (by decide +kernel) rfl rfl rfl (by decide +kernel)
set_option maxRecDepth 65536 in
theorem w_c5 : (Jvm.Cond.code ({ cls := "java/util/Arrays", name := "fill", desc := "([II)V" } : Jvm.MethodName) jdk_65_method_103_code (4 : Nat) (Option.none : Option Jvm.ClassFile.FieldType)).before args0 about1 = true := code_word (m := ⟨8, 1⟩) (meth := k8m1) (c := k8c1) (by decide +kernel) rfl rfl rfl (by decide +kernel)
set_option maxRecDepth 65536 in
theorem w_c6 : (Jvm.Cond.code ({ cls := "com/example/tiercast/tiercast/protocol/Boundaries$Summary", name := "<init>", desc := "(Lcom/example/tiercast/tiercast/model/MessageType;Lcom/example/tiercast/tiercast/protocol/Knots;[IIII)V" } : Jvm.MethodName) prog_63_method_1_code (7 : Nat) (Option.none : Option Jvm.ClassFile.FieldType)).before args0 about1 = true := code_word (m := ⟨11, 0⟩) (meth := k11m0) (c := k11c0) (by decide +kernel) rfl rfl rfl (by decide +kernel)
set_option maxRecDepth 65536 in
theorem w_c7 : (Jvm.Cond.code ({ cls := "java/lang/Record", name := "<init>", desc := "()V" } : Jvm.MethodName) jdk_30_method_1_code (1 : Nat) (Option.none : Option Jvm.ClassFile.FieldType)).before args0 about1 = true := code_word (m := ⟨9, 0⟩) (meth := k9m0) (c := k9c0) (by decide +kernel) rfl rfl rfl (by decide +kernel)
set_option maxRecDepth 65536 in
theorem w_c8 : (Jvm.Cond.code ({ cls := "com/example/tiercast/tiercast/protocol/Boundaries$Summary", name := "knotCount", desc := "()I" } : Jvm.MethodName) prog_63_method_6_code (1 : Nat) (Option.some Jvm.ClassFile.FieldType.int)).before args0 about1 = true := code_word (m := ⟨11, 1⟩) (meth := k11m1) (c := k11c1) (by decide +kernel) rfl rfl rfl (by decide +kernel)
def codes1 : List Jvm.Cond := [Jvm.Cond.code x code maxLocals ret, Jvm.Cond.code ({ cls := "com/example/tiercast/tiercast/protocol/Knots", name := "<init>", desc := "(IFI)V" } : Jvm.MethodName) prog_70_method_1_code (4 : Nat) (Option.none : Option Jvm.ClassFile.FieldType), Jvm.Cond.code ({ cls := "com/example/tiercast/tiercast/protocol/Knots", name := "<init>", desc := "([F[IIII)V" } : Jvm.MethodName) prog_70_method_2_code (6 : Nat) (Option.none : Option Jvm.ClassFile.FieldType), Jvm.Cond.code ({ cls := "java/lang/Object", name := "<init>", desc := "()V" } : Jvm.MethodName) object_method_1_code (1 : Nat) (Option.none : Option Jvm.ClassFile.FieldType), Jvm.Cond.code ({ cls := "java/util/Arrays", name := "fill", desc := "([FF)V" } : Jvm.MethodName) jdk_65_method_115_code (4 : Nat) (Option.none : Option Jvm.ClassFile.FieldType), Jvm.Cond.code ({ cls := "java/util/Arrays", name := "fill", desc := "([II)V" } : Jvm.MethodName) jdk_65_method_103_code (4 : Nat) (Option.none : Option Jvm.ClassFile.FieldType), Jvm.Cond.code ({ cls := "com/example/tiercast/tiercast/protocol/Boundaries$Summary", name := "<init>", desc := "(Lcom/example/tiercast/tiercast/model/MessageType;Lcom/example/tiercast/tiercast/protocol/Knots;[IIII)V" } : Jvm.MethodName) prog_63_method_1_code (7 : Nat) (Option.none : Option Jvm.ClassFile.FieldType), Jvm.Cond.code ({ cls := "java/lang/Record", name := "<init>", desc := "()V" } : Jvm.MethodName) jdk_30_method_1_code (1 : Nat) (Option.none : Option Jvm.ClassFile.FieldType), Jvm.Cond.code ({ cls := "com/example/tiercast/tiercast/protocol/Boundaries$Summary", name := "knotCount", desc := "()I" } : Jvm.MethodName) prog_63_method_6_code (1 : Nat) (Option.some Jvm.ClassFile.FieldType.int)]
set_option maxRecDepth 65536 in
theorem codes_eq : words1.filter isCode = codes1 := rfl
theorem w_codes : ∀ c ∈ words1.filter isCode, c.before args0 about1 = true := by
  rw [codes_eq]
  intro c hc
  simp only [codes1, List.mem_cons, List.not_mem_nil, or_false] at hc
  rcases hc with rfl | rfl | rfl | rfl | rfl | rfl | rfl | rfl | rfl
  · exact w_c0
  · exact w_c1
  · exact w_c2
  · exact w_c3
  · exact w_c4
  · exact w_c5
  · exact w_c6
  · exact w_c7
  · exact w_c8
set_option maxRecDepth 65536 in
theorem w_t1 : (words1.take 24).all (fun c => isCode c || c.before args0 about1) = true := by decide +kernel
set_option maxRecDepth 65536 in
theorem w_t2 : ((words1.drop 24).take 24).all (fun c => isCode c || c.before args0 about1) = true := by decide +kernel
set_option maxRecDepth 65536 in
theorem w_t3 : ((words1.drop 24).drop 24).all (fun c => isCode c || c.before args0 about1) = true := by decide +kernel
theorem w_tables : (allAtoms (Jvm.Cond.code x code maxLocals ret :: tables_1)).before args0 about1 = true := by
  rw [allAtoms_all]
  show words1.all (fun c => c.before args0 about1) = true
  refine all_split ?_ w_codes
  rw [← List.take_append_drop 24 words1, List.all_append, w_t1, ← List.take_append_drop 24 (words1.drop 24), List.all_append, w_t2, w_t3]
  rfl
set_option maxRecDepth 65536 in
theorem w_case : (Jvm.Cond.and given_1 narrow_1).before args0 about1 = true := by decide +kernel
theorem w_applies : (headSpec (Jvm.Cond.code x code maxLocals ret :: tables_1) room_1).applies x e0.platform about1 = true :=
  (Spec.applies_iff w_frames).mpr ⟨w_running, w_runnable, w_alone, w_named, w_hears, w_ripe, w_room, w_tables⟩
theorem atStart : AtStart classFile x code maxLocals ret World_1 tables_1 room_1 Calls_1 rest_1 Pre_1 launch0 p0 e0 about1 theMethod args0 below0 :=
  ⟨lists_1, trivial, launch0.admits_env _ _ _, launch0.least_env, fairChoices_fair.cas, fairChoices_fair.clock, w_frames, w_args, w_heap, w_applies, trivial, trivial, w_case⟩
end start1
theorem witness_1 : WitnessClaimed_1 := ⟨start1.p0, start1.e0, start1.about1, start1.theMethod, start1.args0, start1.below0, start1.atStart⟩
end Jvm.Pilot.@@N@@
