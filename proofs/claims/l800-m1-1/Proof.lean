import JvmDerived
import JvmDerived.Pilot.@@N@@Statement
import JvmDerived.Pilot.@@N@@Code
set_option linter.unusedVariables false
set_option linter.unusedSimpArgs false
namespace Jvm.RoadKit
open Sem ClassFile Op Lib Jvm.Stand Jvm.Free Jvm.LawKit
section New
variable {p : Program} {l : Launch} {e : Env} {R : Room} {s : State} {m : MethodId} {args : Array Value} {below : List Frame} {meth : Method} {c : Code} {T : State} {locs : List Loc} {cells slots : Nat}
theorem retI (X : Stand p l e R s m args below meth c T locs cells slots) (hx : p.tables.exec = Jvm.exec) {pc : Nat} {Ls : Array Slot} {z : Int32} {rest : List Value} (hret : meth.sig.returnType = some .int) (hd : decode c.code pc = .ok (.ireturn, 1)) {fs : List Frame}
    (hl : ∀ (f : JFrame) (acts : List Action), f.method = m → f.locked = none → f.entered = [] → (doReturn e (T.setTop f) acts (some (.int z))).1 = T.setFrames fs) : Steps p.tables e below (T.setTop (mkF m pc Ls (.int z :: rest))) (T.setFrames fs) := by
  have hm' : T.vm.method? m = some meth := X.method'
  have hn : narrow .int (.int z) = .int z := rfl
  show Steps p.tables e below (T.setTop { method := m, pc := pc, locals := Ls, stack := _ :: rest, locked := none }) _
  jvm_step X.here [X.here.top, hx, hd, hm', hret, hn]
  first | (intro acts; rw [hl _ acts rfl rfl rfl]) | rw [hl _ _ rfl rfl rfl]
  exact Steps.refl _
end New
end Jvm.RoadKit
namespace Jvm.Pilot.@@N@@
open Jvm Jvm.ClassFile Sem Op Lib Jvm.Free Jvm.Stand Jvm.LawKit Jvm.RoadKit Bundle Jvm.Pilot.@@N@@.Jvm.D
abbrev own_K (p : Program) (e : Env) (below : List Frame) (m : MethodId) (T : State) (pc : Nat) (L : Array Slot) (S : List Value) (t : State) : Prop := Steps p.tables e below (T.setTop (mkF m pc L S)) t
abbrev lv (x : Int64) : Slot := .val (.long x)
def own_cmp (i j : Int) : Int32 := if i < j then -1 else if i = j then 0 else 1
theorem own_cmpv (i j : Int) (op : CmpOp) : cmpValue (some (compare i j)) op = own_cmp i j := by
  unfold own_cmp
  rcases Int.lt_trichotomy i j with h | h | h
  · rw [if_pos h, (Int.compare_eq_lt).mpr h]; rfl
  · rw [if_neg (by omega), if_pos h, (Int.compare_eq_eq).mpr h]; rfl
  · rw [if_neg (by omega), if_neg (by omega), (Int.compare_eq_gt).mpr h]; rfl
theorem own_i2f {tb : Tables} [Ours tb] {e : Env} {below : List Frame} {T target : State} {m : MethodId} {c : Code} {g : JFrame} (h : At T m c below) (hx : tb.exec = Jvm.exec) (hg : g.method = m) {x : Int32} {rest : List Value} (hd : decode c.code g.pc = .ok (.i2f, 1)) (hs : g.stack = .int x :: rest)
    (hr : Steps tb e below (T.setTop { g with pc := g.pc + 1, stack := .float (FP.i2f x) :: rest }) target) : Steps tb e below (T.setTop g) target := by
  subst hg
  jvm_step h [h.top, hx, hd, hs]
  exact hr
theorem own_i2d {tb : Tables} [Ours tb] {e : Env} {below : List Frame} {T target : State} {m : MethodId} {c : Code} {g : JFrame} (h : At T m c below) (hx : tb.exec = Jvm.exec) (hg : g.method = m) {x : Int32} {rest : List Value} (hd : decode c.code g.pc = .ok (.i2d, 1)) (hs : g.stack = .int x :: rest)
    (hr : Steps tb e below (T.setTop { g with pc := g.pc + 1, stack := .double (FP.i2d x) :: rest }) target) : Steps tb e below (T.setTop g) target := by
  subst hg
  jvm_step h [h.top, hx, hd, hs]
  exact hr
theorem own_fstore {tb : Tables} [Ours tb] {e : Env} {below : List Frame} {T target : State} {m : MethodId} {c : Code} {g : JFrame} (h : At T m c below) (hx : tb.exec = Jvm.exec) (hg : g.method = m) {k : Nat} {x : UInt32} {rest : List Value} {l' : Array Slot} (hd : decode c.code g.pc = .ok (.fstore k, 2)) (hs : g.stack = .float x :: rest) (hl : storeLocals g.locals k (.float x) = some l')
    (hr : Steps tb e below (T.setTop { g with pc := g.pc + 2, locals := l', stack := rest }) target) : Steps tb e below (T.setTop g) target := by
  subst hg
  jvm_step h [h.top, hx, hd, hs, hl]
  exact hr
theorem own_fcmp {tb : Tables} [Ours tb] {e : Env} {below : List Frame} {T target : State} {m : MethodId} {c : Code} {g : JFrame} (h : At T m c below) (hx : tb.exec = Jvm.exec) (hg : g.method = m) {op : CmpOp} {x y : UInt32} {i j : Int} {rest : List Value} (hd : decode c.code g.pc = .ok (.fcmp op, 1)) (hs : g.stack = .float y :: .float x :: rest) (ha : FP.Core.FInt i x) (hb : FP.Core.FInt j y)
    (hr : Steps tb e below (T.setTop { g with pc := g.pc + 1, stack := .int (own_cmp i j) :: rest }) target) : Steps tb e below (T.setTop g) target := by
  subst hg
  have hq : FP.fcmp x y = some (compare i j) := FP.Core.fcmp_int ha hb
  jvm_step h [h.top, hx, hd, hs, hq, own_cmpv]
  exact hr
theorem own_dstore {tb : Tables} [Ours tb] {e : Env} {below : List Frame} {T target : State} {m : MethodId} {c : Code} {g : JFrame} (h : At T m c below) (hx : tb.exec = Jvm.exec) (hg : g.method = m) {k : Nat} {x : UInt64} {rest : List Value} {l' : Array Slot} (hd : decode c.code g.pc = .ok (.dstore k, 2)) (hs : g.stack = .double x :: rest) (hl : storeLocals g.locals k (.double x) = some l')
    (hr : Steps tb e below (T.setTop { g with pc := g.pc + 2, locals := l', stack := rest }) target) : Steps tb e below (T.setTop g) target := by
  subst hg
  jvm_step h [h.top, hx, hd, hs, hl]
  exact hr
theorem own_dcmp {tb : Tables} [Ours tb] {e : Env} {below : List Frame} {T target : State} {m : MethodId} {c : Code} {g : JFrame} (h : At T m c below) (hx : tb.exec = Jvm.exec) (hg : g.method = m) {op : CmpOp} {x y : UInt64} {i j : Int} {rest : List Value} (hd : decode c.code g.pc = .ok (.dcmp op, 1)) (hs : g.stack = .double y :: .double x :: rest) (ha : FP.Core.DInt i x) (hb : FP.Core.DInt j y)
    (hr : Steps tb e below (T.setTop { g with pc := g.pc + 1, stack := .int (own_cmp i j) :: rest }) target) : Steps tb e below (T.setTop g) target := by
  subst hg
  have hq : FP.dcmp x y = some (compare i j) := FP.Core.dcmp_int ha hb
  jvm_step h [h.top, hx, hd, hs, hq, own_cmpv]
  exact hr

theorem own_shr8 (x : Int32) : -8388608 ≤ (x >>> ((8 : Int32) &&& 31)).toInt ∧ (x >>> ((8 : Int32) &&& 31)).toInt < 8388608 := by
  have h := c_ishr x 8 8 (by decide)
  have r := rng32 x
  rw [h]
  omega
theorem own_shr8' (x y w v : Int32) (h : v = if (w &&& (1 : Int32)) = (0 : Int32) then (y >>> ((8 : Int32) &&& 31)) else (x >>> ((8 : Int32) &&& 31))) : -8388608 ≤ v.toInt ∧ v.toInt < 8388608 := by
  rw [h]
  split
  · exact own_shr8 y
  · exact own_shr8 x
theorem own_ite {P Q : Prop} [Decidable P] [Decidable Q] (h : P ↔ Q) : (if P then (1 : Int32) else (0 : Int32)) = (if Q then (1 : Int32) else (0 : Int32)) := by
  by_cases hp : P
  · rw [if_pos hp, if_pos (h.mp hp)]
  · rw [if_neg hp, if_neg (mt h.mpr hp)]
theorem own_cmp1 {i j : Int} (h : i < j) : own_cmp i j = -1 := by unfold own_cmp; rw [if_pos h]
theorem own_cmp0 {i j : Int} (h : i = j) : own_cmp i j = 0 := by unfold own_cmp; rw [if_neg (by omega), if_pos h]
theorem own_cmp2 {i j : Int} (h : j < i) : own_cmp i j = 1 := by unfold own_cmp; rw [if_neg (by omega), if_neg (by omega)]
theorem own_keyv (p t : Int32) (hp : -8388608 ≤ p.toInt ∧ p.toInt < 8388608) : (((p.toInt64) <<< ((32 : Int32) &&& 0x3f).toInt64) + ((t.toInt64) - (-2147483648 : Int64))).toInt = p.toInt * 4294967296 + t.toInt + 2147483648 := by
  have h1 := c_lshl p.toInt64 32 32 (by decide)
  have h2 := c_lsub t.toInt64 (-2147483648)
  have h3 := c_ladd ((p.toInt64) <<< ((32 : Int32) &&& 0x3f).toInt64) ((t.toInt64) - (-2147483648 : Int64))
  have e1 := c_i2l p
  have e2 := c_i2l t
  have e3 : (-2147483648 : Int64).toInt = -2147483648 := by decide
  have r1 := rng64 ((p.toInt64) <<< ((32 : Int32) &&& 0x3f).toInt64)
  have r2 := rng64 ((t.toInt64) - (-2147483648 : Int64))
  have r3 := rng64 (((p.toInt64) <<< ((32 : Int32) &&& 0x3f).toInt64) + ((t.toInt64) - (-2147483648 : Int64)))
  have rt := rng32 t
  rw [e1] at h1
  rw [e2, e3] at h2
  omega
theorem own_key (a b s t : Int32) (ha : -8388608 ≤ a.toInt ∧ a.toInt < 8388608) (hb : -8388608 ≤ b.toInt ∧ b.toInt < 8388608) (r : Int32) (k1 k2 : Int64)
    (hr : r = (if (own_cmp a.toInt b.toInt) = (0 : Int32) then (if (own_cmp s.toInt t.toInt) = (0 : Int32) then (0 : Int32) else (if (own_cmp s.toInt t.toInt) < (0 : Int32) then (-1 : Int32) else (1 : Int32))) else (if (own_cmp a.toInt b.toInt) < (0 : Int32) then (-1 : Int32) else (1 : Int32))))
    (h1 : k1 = (((a.toInt64) <<< ((32 : Int32) &&& 0x3f).toInt64) + ((s.toInt64) - (-2147483648 : Int64)))) (h2 : k2 = (((b.toInt64) <<< ((32 : Int32) &&& 0x3f).toInt64) + ((t.toInt64) - (-2147483648 : Int64)))) :
    (r < (0 : Int32) ↔ k1 < k2) ∧ (r = (0 : Int32) ↔ k1 = k2) := by
  have e1 : k1.toInt = a.toInt * 4294967296 + s.toInt + 2147483648 := by rw [h1]; exact own_keyv a s ha
  have e2 : k2.toInt = b.toInt * 4294967296 + t.toInt + 2147483648 := by rw [h2]; exact own_keyv b t hb
  have rs := rng32 s
  have rt := rng32 t
  have n1 : ¬ (-1 : Int32) = 0 := by decide
  have n2 : ¬ (1 : Int32) = 0 := by decide
  have n3 : (-1 : Int32) < 0 := by decide
  have n4 : ¬ (1 : Int32) < 0 := by decide
  have n5 : ¬ (0 : Int32) < 0 := by decide
  rw [Int64.lt_iff_toInt_lt, ← Int64.toInt_inj, e1, e2, hr]
  rcases Int.lt_trichotomy a.toInt b.toInt with h | h | h
  · rw [own_cmp1 h, if_neg n1, if_pos n3]
    exact ⟨iff_of_true n3 (by omega), iff_of_false n1 (by omega)⟩
  · rw [own_cmp0 h, if_pos rfl]
    rcases Int.lt_trichotomy s.toInt t.toInt with g | g | g
    · rw [own_cmp1 g, if_neg n1, if_pos n3]
      exact ⟨iff_of_true n3 (by omega), iff_of_false n1 (by omega)⟩
    · rw [own_cmp0 g, if_pos rfl]
      exact ⟨iff_of_false n5 (by omega), iff_of_true rfl (by omega)⟩
    · rw [own_cmp2 g, if_neg n2, if_neg n4]
      exact ⟨iff_of_false n4 (by omega), iff_of_false n2 (by omega)⟩
  · rw [own_cmp2 h, if_neg n2, if_neg n4]
    exact ⟨iff_of_false n4 (by omega), iff_of_false n2 (by omega)⟩
theorem d1_0 : decode prog_70_method_4_code 0 = .ok (.fload_n 0, 1) := by decide +kernel
theorem d1_1 : decode prog_70_method_4_code 1 = .ok (.fload_n 3, 1) := by decide +kernel
theorem d1_2 : decode prog_70_method_4_code 2 = .ok (.fcmp .l, 1) := by decide +kernel
theorem d1_3 : decode prog_70_method_4_code 3 = .ok (.ifCond .eq 19, 3) := by decide +kernel
theorem d1_22 : decode prog_70_method_4_code 22 = .ok (.dload_n 1, 1) := by decide +kernel
theorem d1_23 : decode prog_70_method_4_code 23 = .ok (.dload 4, 2) := by decide +kernel
theorem d1_25 : decode prog_70_method_4_code 25 = .ok (.dcmp .l, 1) := by decide +kernel
theorem d1_26 : decode prog_70_method_4_code 26 = .ok (.ifCond .eq 20, 3) := by decide +kernel
theorem d1_46 : decode prog_70_method_4_code 46 = .ok (.iconst 0, 1) := by decide +kernel
theorem d1_47 : decode prog_70_method_4_code 47 = .ok (.istore 6, 2) := by decide +kernel
theorem d1_49 : decode prog_70_method_4_code 49 = .ok (.iload 6, 2) := by decide +kernel
theorem d1_51 : decode prog_70_method_4_code 51 = .ok (.ireturn, 1) := by decide +kernel
theorem d1_29 : decode prog_70_method_4_code 29 = .ok (.dload_n 1, 1) := by decide +kernel
theorem d1_30 : decode prog_70_method_4_code 30 = .ok (.dload 4, 2) := by decide +kernel
theorem d1_32 : decode prog_70_method_4_code 32 = .ok (.dcmp .g, 1) := by decide +kernel
theorem d1_33 : decode prog_70_method_4_code 33 = .ok (.ifCond .ge 7, 3) := by decide +kernel
theorem d1_36 : decode prog_70_method_4_code 36 = .ok (.iconst (-1), 1) := by decide +kernel
theorem d1_37 : decode prog_70_method_4_code 37 = .ok (.goto 4, 3) := by decide +kernel
theorem d1_41 : decode prog_70_method_4_code 41 = .ok (.istore 6, 2) := by decide +kernel
theorem d1_43 : decode prog_70_method_4_code 43 = .ok (.goto 6, 3) := by decide +kernel
theorem d1_40 : decode prog_70_method_4_code 40 = .ok (.iconst 1, 1) := by decide +kernel
theorem d1_6 : decode prog_70_method_4_code 6 = .ok (.fload_n 0, 1) := by decide +kernel
theorem d1_7 : decode prog_70_method_4_code 7 = .ok (.fload_n 3, 1) := by decide +kernel
theorem d1_8 : decode prog_70_method_4_code 8 = .ok (.fcmp .g, 1) := by decide +kernel
theorem d1_9 : decode prog_70_method_4_code 9 = .ok (.ifCond .ge 7, 3) := by decide +kernel
theorem d1_12 : decode prog_70_method_4_code 12 = .ok (.iconst (-1), 1) := by decide +kernel
theorem d1_13 : decode prog_70_method_4_code 13 = .ok (.goto 4, 3) := by decide +kernel
theorem d1_17 : decode prog_70_method_4_code 17 = .ok (.istore 6, 2) := by decide +kernel
theorem d1_19 : decode prog_70_method_4_code 19 = .ok (.goto 30, 3) := by decide +kernel
theorem d1_16 : decode prog_70_method_4_code 16 = .ok (.iconst 1, 1) := by decide +kernel
theorem pn_0 : plainName "com/example/tiercast/tiercast/protocol/Knots" = true := by first | (simp [plainName, overriddenIn]; done) | decide +kernel
theorem ef_1 (m : MethodId) (x0 : UInt32) (x1 : UInt64) (x2 : UInt32) (x3 : UInt64) : entryFrame m #[(.float x0), (.double x1), (.float x2), (.double x3)] 7 = mkF m 0 #[.val (.float x0), .val (.double x1), .second, .val (.float x2), .val (.double x3), .second, .unset] [] := by first | (simp [entryFrame, mkF, argsToLocals, Value.category]; done) | rfl
def Q1 (Z : State) (fx : UInt32) (dx : UInt64) (fy : UInt32) (dy : UInt64) (i1 : Int) (i2 : Int) (j1 : Int) (j2 : Int) (h0 : Heap) (n0 : Nat) (rv_ : Option Value) (h_ : Heap) (L_ : List Loc) : Prop := rv_ = some (.int (if (own_cmp i1 i2) = (0 : Int32) then (if (own_cmp j1 j2) = (0 : Int32) then (0 : Int32) else (if (own_cmp j1 j2) < (0 : Int32) then (-1 : Int32) else (1 : Int32))) else (if (own_cmp i1 i2) < (0 : Int32) then (-1 : Int32) else (1 : Int32)))) ∧ Fr n0 L_ ∧ h_ = h0
set_option maxRecDepth 65536 in
set_option maxHeartbeats 40000000 in
theorem rm1 (l : Launch) (Z : State) (a0 : Array Value) (hw : ∀ d ∈ tables_1, d.before a0 Z = true) (ws : List Jvm.Cond) (fx : UInt32) (dx : UInt64) (fy : UInt32) (dy : UInt64) (i1 : Int) (i2 : Int) (j1 : Int) (j2 : Int) (h0 : Heap) (n0 : Nat) (Z0 : n0 ≤ h0.size) (hi1 : FP.Core.FInt i1 fx) (hi2 : FP.Core.FInt i2 fy) (hj1 : FP.Core.DInt j1 dx) (hj2 : FP.Core.DInt j2 dy) :
    MetFree l (⟨"com/example/tiercast/tiercast/protocol/Knots", "compare", "(FDFD)I"⟩ : MethodName) (head1 (Jvm.Cond.code (⟨"com/example/tiercast/tiercast/protocol/Knots", "compare", "(FDFD)I"⟩ : MethodName) prog_70_method_4_code 7 (some .int) :: ws) ({ frames := 0, cells := 0, slots := 0, locals := 0 } : Room)) (fun a U => a = #[(.float fx), (.double dx), (.float fy), (.double dy)] ∧ Z.Warmed39 U.vm ∧ U.heap = h0) (fun _ _ _ _ _ => True) (fun _ U o U' => ∃ v L, o = .returned v ∧ Q1 Z fx dx fy dy i1 i2 j1 j2 h0 n0 v U'.heap L ∧ FrameEnd U o U' L ({ frames := 0, cells := 0, slots := 0, locals := 0 } : Room).cells ({ frames := 0, cells := 0, slots := 0, locals := 0 } : Room).slots) := by
  refine MetFree.of_bodySF (plainFor_of_name pn_0) hisR ?_
  intro p e s m args below meth c s₁ Bd hml0 hP hK
  obtain ⟨rfl, hZ, hh⟩ := hP
  have hx := Bd.exec
  have hby := Bd.bytes
  have hml : c.maxLocals = 7 := hml0
  have hown : s.vm.findClass "com/example/tiercast/tiercast/protocol/Knots" = some m.cls := findClass_of_methodNamed Bd.named
  have hnm := (name_of_methodNamed Bd.named Bd.method).1
  have X0 : Stand p l e ({ frames := 0, cells := 0, slots := 0, locals := 0 } : Room) s m #[(.float fx), (.double dx), (.float fy), (.double dy)] below meth c s₁ [] 0 0 := Stand.of_body Bd
  have e0 : s₁.heap = h0 := by rw [← hh, Bd.state]; rfl
  have N0 := Fr.nil n0
  obtain ⟨G, hG, pre0⟩ : ∃ G : State → Prop, (∀ t, G t → Steps p.tables e below (s₁.setTop (entryFrame m #[(.float fx), (.double dx), (.float fy), (.double dy)] 7)) t) ∧ ∀ t, own_K p e below m s₁ 0 #[.val (.float fx), .val (.double dx), .second, .val (.float fy), .val (.double dy), .second, .unset] [] t → G t := ⟨fun t => Steps p.tables e below (s₁.setTop (entryFrame m #[(.float fx), (.double dx), (.float fy), (.double dy)] 7)) t, fun _ k => k, fun t k => castTop (ef_1 m fx dx fy dy) k⟩
  have pre1 : ∀ t, own_K p e below m s₁ 3 #[.val (.float fx), .val (.double dx), .second, .val (.float fy), .val (.double dy), .second, .unset] [(.int (own_cmp i1 i2))] t → G t := by
    intro t k
    refine pre0 t ?_
    show own_K p e below m s₁ 0 #[.val (.float fx), .val (.double dx), .second, .val (.float fy), .val (.double dy), .second, .unset] [] _
    refine XT.floadN X0.here hx rfl (hb hby d1_0) rfl ?_
    show own_K p e below m s₁ 1 #[.val (.float fx), .val (.double dx), .second, .val (.float fy), .val (.double dy), .second, .unset] [(.float fx)] _
    refine XT.floadN X0.here hx rfl (hb hby d1_1) rfl ?_
    show own_K p e below m s₁ 2 #[.val (.float fx), .val (.double dx), .second, .val (.float fy), .val (.double dy), .second, .unset] [(.float fy), (.float fx)] _
    refine own_fcmp X0.here hx rfl (hb hby d1_2) rfl hi1 hi2 ?_
    exact k
  by_cases hc3_2 : (own_cmp i1 i2) = (0 : Int32)
  · have pre3 : ∀ t, own_K p e below m s₁ 26 #[.val (.float fx), .val (.double dx), .second, .val (.float fy), .val (.double dy), .second, .unset] [(.int (own_cmp j1 j2))] t → G t := by
      intro t k
      refine pre1 t ?_
      show own_K p e below m s₁ 3 #[.val (.float fx), .val (.double dx), .second, .val (.float fy), .val (.double dy), .second, .unset] [(.int (own_cmp i1 i2))] _
      refine XS.ifYes X0.here hx rfl (pc0 := 3) (pc' := 22) rfl (hb hby d1_3) rfl ((if0 _ _).trans (teq hc3_2).1) (by decide) (by decide) ?_
      show own_K p e below m s₁ 22 #[.val (.float fx), .val (.double dx), .second, .val (.float fy), .val (.double dy), .second, .unset] [] _
      refine XT.dloadN X0.here hx rfl (hb hby d1_22) rfl ?_
      show own_K p e below m s₁ 23 #[.val (.float fx), .val (.double dx), .second, .val (.float fy), .val (.double dy), .second, .unset] [(.double dx)] _
      refine XT.dload X0.here hx rfl (hb hby d1_23) rfl ?_
      show own_K p e below m s₁ 25 #[.val (.float fx), .val (.double dx), .second, .val (.float fy), .val (.double dy), .second, .unset] [(.double dy), (.double dx)] _
      refine own_dcmp X0.here hx rfl (hb hby d1_25) rfl hj1 hj2 ?_
      exact k
    by_cases hc26_4 : (own_cmp j1 j2) = (0 : Int32)
    · have pre5 : ∀ t, own_K p e below m s₁ 51 #[.val (.float fx), .val (.double dx), .second, .val (.float fy), .val (.double dy), .second, iv (0 : Int32)] [(.int (0 : Int32))] t → G t := by
        intro t k
        refine pre3 t ?_
        show own_K p e below m s₁ 26 #[.val (.float fx), .val (.double dx), .second, .val (.float fy), .val (.double dy), .second, .unset] [(.int (own_cmp j1 j2))] _
        refine XS.ifYes X0.here hx rfl (pc0 := 26) (pc' := 46) rfl (hb hby d1_26) rfl ((if0 _ _).trans (teq hc26_4).1) (by decide) (by decide) ?_
        show own_K p e below m s₁ 46 #[.val (.float fx), .val (.double dx), .second, .val (.float fy), .val (.double dy), .second, .unset] [] _
        refine XS.iconst X0.here hx rfl (hb hby d1_46) ?_
        show own_K p e below m s₁ 47 #[.val (.float fx), .val (.double dx), .second, .val (.float fy), .val (.double dy), .second, .unset] [(.int (0 : Int32))] _
        refine XS.istore X0.here hx rfl (hb hby d1_47) rfl (l' := #[.val (.float fx), .val (.double dx), .second, .val (.float fy), .val (.double dy), .second, iv (0 : Int32)]) rfl ?_
        show own_K p e below m s₁ 49 #[.val (.float fx), .val (.double dx), .second, .val (.float fy), .val (.double dy), .second, iv (0 : Int32)] [] _
        refine XS.iload X0.here hx rfl (hb hby d1_49) rfl ?_
        exact k
      obtain ⟨fs, hr, hrun, hended, hW, hsame⟩ := X0.leave (v := some (.int (0 : Int32))) (fun h => by rw [Bd.returns] at h; cases h)
      refine ⟨_, _, hG _ (pre5 _ ?_), hrun, hended, _, _, rfl, ?_, ⟨_, rfl⟩, hW, hsame.mono (by decide) (by decide)⟩
      · show own_K p e below m s₁ 51 #[.val (.float fx), .val (.double dx), .second, .val (.float fy), .val (.double dy), .second, iv (0 : Int32)] [(.int (0 : Int32))] _
        exact retI X0 hx Bd.returns (hb hby d1_51) hr
      · show Q1 Z fx dx fy dy i1 i2 j1 j2 h0 n0 _ s₁.heap _
        rw [e0]
        exact ⟨(by simp [hc3_2, hc26_4]), N0, rfl⟩
    · have pre6 : ∀ t, own_K p e below m s₁ 33 #[.val (.float fx), .val (.double dx), .second, .val (.float fy), .val (.double dy), .second, .unset] [(.int (own_cmp j1 j2))] t → G t := by
        intro t k
        refine pre3 t ?_
        show own_K p e below m s₁ 26 #[.val (.float fx), .val (.double dx), .second, .val (.float fy), .val (.double dy), .second, .unset] [(.int (own_cmp j1 j2))] _
        refine XS.ifNo X0.here hx rfl (hb hby d1_26) rfl ((if0 _ _).trans (feq hc26_4).1) ?_
        show own_K p e below m s₁ 29 #[.val (.float fx), .val (.double dx), .second, .val (.float fy), .val (.double dy), .second, .unset] [] _
        refine XT.dloadN X0.here hx rfl (hb hby d1_29) rfl ?_
        show own_K p e below m s₁ 30 #[.val (.float fx), .val (.double dx), .second, .val (.float fy), .val (.double dy), .second, .unset] [(.double dx)] _
        refine XT.dload X0.here hx rfl (hb hby d1_30) rfl ?_
        show own_K p e below m s₁ 32 #[.val (.float fx), .val (.double dx), .second, .val (.float fy), .val (.double dy), .second, .unset] [(.double dy), (.double dx)] _
        refine own_dcmp X0.here hx rfl (hb hby d1_32) rfl hj1 hj2 ?_
        exact k
      by_cases hc33_7 : (own_cmp j1 j2) < (0 : Int32)
      · have pre8 : ∀ t, own_K p e below m s₁ 51 #[.val (.float fx), .val (.double dx), .second, .val (.float fy), .val (.double dy), .second, iv (-1 : Int32)] [(.int (-1 : Int32))] t → G t := by
          intro t k
          refine pre6 t ?_
          show own_K p e below m s₁ 33 #[.val (.float fx), .val (.double dx), .second, .val (.float fy), .val (.double dy), .second, .unset] [(.int (own_cmp j1 j2))] _
          refine XS.ifNo X0.here hx rfl (hb hby d1_33) rfl ((if0 _ _).trans (tlt hc33_7).2.1) ?_
          show own_K p e below m s₁ 36 #[.val (.float fx), .val (.double dx), .second, .val (.float fy), .val (.double dy), .second, .unset] [] _
          refine XS.iconst X0.here hx rfl (hb hby d1_36) ?_
          show own_K p e below m s₁ 37 #[.val (.float fx), .val (.double dx), .second, .val (.float fy), .val (.double dy), .second, .unset] [(.int (-1 : Int32))] _
          refine XS.goto X0.here hx rfl (pc0 := 37) (pc' := 41) rfl (hb hby d1_37) (by decide) (by decide) ?_
          show own_K p e below m s₁ 41 #[.val (.float fx), .val (.double dx), .second, .val (.float fy), .val (.double dy), .second, .unset] [(.int (-1 : Int32))] _
          refine XS.istore X0.here hx rfl (hb hby d1_41) rfl (l' := #[.val (.float fx), .val (.double dx), .second, .val (.float fy), .val (.double dy), .second, iv (-1 : Int32)]) rfl ?_
          show own_K p e below m s₁ 43 #[.val (.float fx), .val (.double dx), .second, .val (.float fy), .val (.double dy), .second, iv (-1 : Int32)] [] _
          refine XS.goto X0.here hx rfl (pc0 := 43) (pc' := 49) rfl (hb hby d1_43) (by decide) (by decide) ?_
          show own_K p e below m s₁ 49 #[.val (.float fx), .val (.double dx), .second, .val (.float fy), .val (.double dy), .second, iv (-1 : Int32)] [] _
          refine XS.iload X0.here hx rfl (hb hby d1_49) rfl ?_
          exact k
        obtain ⟨fs, hr, hrun, hended, hW, hsame⟩ := X0.leave (v := some (.int (-1 : Int32))) (fun h => by rw [Bd.returns] at h; cases h)
        refine ⟨_, _, hG _ (pre8 _ ?_), hrun, hended, _, _, rfl, ?_, ⟨_, rfl⟩, hW, hsame.mono (by decide) (by decide)⟩
        · show own_K p e below m s₁ 51 #[.val (.float fx), .val (.double dx), .second, .val (.float fy), .val (.double dy), .second, iv (-1 : Int32)] [(.int (-1 : Int32))] _
          exact retI X0 hx Bd.returns (hb hby d1_51) hr
        · show Q1 Z fx dx fy dy i1 i2 j1 j2 h0 n0 _ s₁.heap _
          rw [e0]
          exact ⟨(by simp [hc3_2, hc26_4, hc33_7]), N0, rfl⟩
      · have pre9 : ∀ t, own_K p e below m s₁ 51 #[.val (.float fx), .val (.double dx), .second, .val (.float fy), .val (.double dy), .second, iv (1 : Int32)] [(.int (1 : Int32))] t → G t := by
          intro t k
          refine pre6 t ?_
          show own_K p e below m s₁ 33 #[.val (.float fx), .val (.double dx), .second, .val (.float fy), .val (.double dy), .second, .unset] [(.int (own_cmp j1 j2))] _
          refine XS.ifYes X0.here hx rfl (pc0 := 33) (pc' := 40) rfl (hb hby d1_33) rfl ((if0 _ _).trans (flt hc33_7).2.1) (by decide) (by decide) ?_
          show own_K p e below m s₁ 40 #[.val (.float fx), .val (.double dx), .second, .val (.float fy), .val (.double dy), .second, .unset] [] _
          refine XS.iconst X0.here hx rfl (hb hby d1_40) ?_
          show own_K p e below m s₁ 41 #[.val (.float fx), .val (.double dx), .second, .val (.float fy), .val (.double dy), .second, .unset] [(.int (1 : Int32))] _
          refine XS.istore X0.here hx rfl (hb hby d1_41) rfl (l' := #[.val (.float fx), .val (.double dx), .second, .val (.float fy), .val (.double dy), .second, iv (1 : Int32)]) rfl ?_
          show own_K p e below m s₁ 43 #[.val (.float fx), .val (.double dx), .second, .val (.float fy), .val (.double dy), .second, iv (1 : Int32)] [] _
          refine XS.goto X0.here hx rfl (pc0 := 43) (pc' := 49) rfl (hb hby d1_43) (by decide) (by decide) ?_
          show own_K p e below m s₁ 49 #[.val (.float fx), .val (.double dx), .second, .val (.float fy), .val (.double dy), .second, iv (1 : Int32)] [] _
          refine XS.iload X0.here hx rfl (hb hby d1_49) rfl ?_
          exact k
        obtain ⟨fs, hr, hrun, hended, hW, hsame⟩ := X0.leave (v := some (.int (1 : Int32))) (fun h => by rw [Bd.returns] at h; cases h)
        refine ⟨_, _, hG _ (pre9 _ ?_), hrun, hended, _, _, rfl, ?_, ⟨_, rfl⟩, hW, hsame.mono (by decide) (by decide)⟩
        · show own_K p e below m s₁ 51 #[.val (.float fx), .val (.double dx), .second, .val (.float fy), .val (.double dy), .second, iv (1 : Int32)] [(.int (1 : Int32))] _
          exact retI X0 hx Bd.returns (hb hby d1_51) hr
        · show Q1 Z fx dx fy dy i1 i2 j1 j2 h0 n0 _ s₁.heap _
          rw [e0]
          exact ⟨(by simp [hc3_2, hc26_4, hc33_7]), N0, rfl⟩
  · have pre10 : ∀ t, own_K p e below m s₁ 9 #[.val (.float fx), .val (.double dx), .second, .val (.float fy), .val (.double dy), .second, .unset] [(.int (own_cmp i1 i2))] t → G t := by
      intro t k
      refine pre1 t ?_
      show own_K p e below m s₁ 3 #[.val (.float fx), .val (.double dx), .second, .val (.float fy), .val (.double dy), .second, .unset] [(.int (own_cmp i1 i2))] _
      refine XS.ifNo X0.here hx rfl (hb hby d1_3) rfl ((if0 _ _).trans (feq hc3_2).1) ?_
      show own_K p e below m s₁ 6 #[.val (.float fx), .val (.double dx), .second, .val (.float fy), .val (.double dy), .second, .unset] [] _
      refine XT.floadN X0.here hx rfl (hb hby d1_6) rfl ?_
      show own_K p e below m s₁ 7 #[.val (.float fx), .val (.double dx), .second, .val (.float fy), .val (.double dy), .second, .unset] [(.float fx)] _
      refine XT.floadN X0.here hx rfl (hb hby d1_7) rfl ?_
      show own_K p e below m s₁ 8 #[.val (.float fx), .val (.double dx), .second, .val (.float fy), .val (.double dy), .second, .unset] [(.float fy), (.float fx)] _
      refine own_fcmp X0.here hx rfl (hb hby d1_8) rfl hi1 hi2 ?_
      exact k
    by_cases hc9_11 : (own_cmp i1 i2) < (0 : Int32)
    · have pre12 : ∀ t, own_K p e below m s₁ 51 #[.val (.float fx), .val (.double dx), .second, .val (.float fy), .val (.double dy), .second, iv (-1 : Int32)] [(.int (-1 : Int32))] t → G t := by
        intro t k
        refine pre10 t ?_
        show own_K p e below m s₁ 9 #[.val (.float fx), .val (.double dx), .second, .val (.float fy), .val (.double dy), .second, .unset] [(.int (own_cmp i1 i2))] _
        refine XS.ifNo X0.here hx rfl (hb hby d1_9) rfl ((if0 _ _).trans (tlt hc9_11).2.1) ?_
        show own_K p e below m s₁ 12 #[.val (.float fx), .val (.double dx), .second, .val (.float fy), .val (.double dy), .second, .unset] [] _
        refine XS.iconst X0.here hx rfl (hb hby d1_12) ?_
        show own_K p e below m s₁ 13 #[.val (.float fx), .val (.double dx), .second, .val (.float fy), .val (.double dy), .second, .unset] [(.int (-1 : Int32))] _
        refine XS.goto X0.here hx rfl (pc0 := 13) (pc' := 17) rfl (hb hby d1_13) (by decide) (by decide) ?_
        show own_K p e below m s₁ 17 #[.val (.float fx), .val (.double dx), .second, .val (.float fy), .val (.double dy), .second, .unset] [(.int (-1 : Int32))] _
        refine XS.istore X0.here hx rfl (hb hby d1_17) rfl (l' := #[.val (.float fx), .val (.double dx), .second, .val (.float fy), .val (.double dy), .second, iv (-1 : Int32)]) rfl ?_
        show own_K p e below m s₁ 19 #[.val (.float fx), .val (.double dx), .second, .val (.float fy), .val (.double dy), .second, iv (-1 : Int32)] [] _
        refine XS.goto X0.here hx rfl (pc0 := 19) (pc' := 49) rfl (hb hby d1_19) (by decide) (by decide) ?_
        show own_K p e below m s₁ 49 #[.val (.float fx), .val (.double dx), .second, .val (.float fy), .val (.double dy), .second, iv (-1 : Int32)] [] _
        refine XS.iload X0.here hx rfl (hb hby d1_49) rfl ?_
        exact k
      obtain ⟨fs, hr, hrun, hended, hW, hsame⟩ := X0.leave (v := some (.int (-1 : Int32))) (fun h => by rw [Bd.returns] at h; cases h)
      refine ⟨_, _, hG _ (pre12 _ ?_), hrun, hended, _, _, rfl, ?_, ⟨_, rfl⟩, hW, hsame.mono (by decide) (by decide)⟩
      · show own_K p e below m s₁ 51 #[.val (.float fx), .val (.double dx), .second, .val (.float fy), .val (.double dy), .second, iv (-1 : Int32)] [(.int (-1 : Int32))] _
        exact retI X0 hx Bd.returns (hb hby d1_51) hr
      · show Q1 Z fx dx fy dy i1 i2 j1 j2 h0 n0 _ s₁.heap _
        rw [e0]
        exact ⟨(by simp [hc3_2, hc9_11]), N0, rfl⟩
    · have pre13 : ∀ t, own_K p e below m s₁ 51 #[.val (.float fx), .val (.double dx), .second, .val (.float fy), .val (.double dy), .second, iv (1 : Int32)] [(.int (1 : Int32))] t → G t := by
        intro t k
        refine pre10 t ?_
        show own_K p e below m s₁ 9 #[.val (.float fx), .val (.double dx), .second, .val (.float fy), .val (.double dy), .second, .unset] [(.int (own_cmp i1 i2))] _
        refine XS.ifYes X0.here hx rfl (pc0 := 9) (pc' := 16) rfl (hb hby d1_9) rfl ((if0 _ _).trans (flt hc9_11).2.1) (by decide) (by decide) ?_
        show own_K p e below m s₁ 16 #[.val (.float fx), .val (.double dx), .second, .val (.float fy), .val (.double dy), .second, .unset] [] _
        refine XS.iconst X0.here hx rfl (hb hby d1_16) ?_
        show own_K p e below m s₁ 17 #[.val (.float fx), .val (.double dx), .second, .val (.float fy), .val (.double dy), .second, .unset] [(.int (1 : Int32))] _
        refine XS.istore X0.here hx rfl (hb hby d1_17) rfl (l' := #[.val (.float fx), .val (.double dx), .second, .val (.float fy), .val (.double dy), .second, iv (1 : Int32)]) rfl ?_
        show own_K p e below m s₁ 19 #[.val (.float fx), .val (.double dx), .second, .val (.float fy), .val (.double dy), .second, iv (1 : Int32)] [] _
        refine XS.goto X0.here hx rfl (pc0 := 19) (pc' := 49) rfl (hb hby d1_19) (by decide) (by decide) ?_
        show own_K p e below m s₁ 49 #[.val (.float fx), .val (.double dx), .second, .val (.float fy), .val (.double dy), .second, iv (1 : Int32)] [] _
        refine XS.iload X0.here hx rfl (hb hby d1_49) rfl ?_
        exact k
      obtain ⟨fs, hr, hrun, hended, hW, hsame⟩ := X0.leave (v := some (.int (1 : Int32))) (fun h => by rw [Bd.returns] at h; cases h)
      refine ⟨_, _, hG _ (pre13 _ ?_), hrun, hended, _, _, rfl, ?_, ⟨_, rfl⟩, hW, hsame.mono (by decide) (by decide)⟩
      · show own_K p e below m s₁ 51 #[.val (.float fx), .val (.double dx), .second, .val (.float fy), .val (.double dy), .second, iv (1 : Int32)] [(.int (1 : Int32))] _
        exact retI X0 hx Bd.returns (hb hby d1_51) hr
      · show Q1 Z fx dx fy dy i1 i2 j1 j2 h0 n0 _ s₁.heap _
        rw [e0]
        exact ⟨(by simp [hc3_2, hc9_11]), N0, rfl⟩

theorem d2_0 : decode method_2_code 0 = .ok (.iload_n 0, 1) := by decide +kernel
theorem d2_1 : decode method_2_code 1 = .ok (.i2l, 1) := by decide +kernel
theorem d2_2 : decode method_2_code 2 = .ok (.bipush 32, 2) := by decide +kernel
theorem d2_4 : decode method_2_code 4 = .ok (.lshl, 1) := by decide +kernel
theorem d2_5 : decode method_2_code 5 = .ok (.iload_n 1, 1) := by decide +kernel
theorem d2_6 : decode method_2_code 6 = .ok (.i2l, 1) := by decide +kernel
theorem d2_7 : decode method_2_code 7 = .ok (.ldc2_w 9, 3) := by decide +kernel
theorem d2_10 : decode method_2_code 10 = .ok (.lsub, 1) := by decide +kernel
theorem d2_11 : decode method_2_code 11 = .ok (.ladd, 1) := by decide +kernel
theorem d2_12 : decode method_2_code 12 = .ok (.lreturn, 1) := by decide +kernel
theorem pn_1 : plainName "com/example/tiercast/tiercast/protocol/KnotsComparePinLaw" = true := by first | (simp [plainName, overriddenIn]; done) | decide +kernel
theorem ef_2 (m : MethodId) (x0 : Int32) (x1 : Int32) : entryFrame m #[(.int x0), (.int x1)] 2 = mkF m 0 #[iv x0, iv x1] [] := by first | (simp [entryFrame, mkF, argsToLocals, Value.category]; done) | rfl
def Q2 (Z : State) (kp : Int32) (kt : Int32) (h0 : Heap) (n0 : Nat) (rv_ : Option Value) (h_ : Heap) (L_ : List Loc) : Prop := rv_ = some (.long (((kp.toInt64) <<< ((32 : Int32) &&& 0x3f).toInt64) + ((kt.toInt64) - (-2147483648 : Int64)))) ∧ Fr n0 L_ ∧ h_ = h0
set_option maxRecDepth 65536 in
set_option maxHeartbeats 40000000 in
theorem rm2 (l : Launch) (Z : State) (a0 : Array Value) (hw : ∀ d ∈ tables_1, d.before a0 Z = true) (ws : List Jvm.Cond) (kp : Int32) (kt : Int32) (h0 : Heap) (n0 : Nat) (Z0 : n0 ≤ h0.size) :
    MetFree l (⟨"com/example/tiercast/tiercast/protocol/KnotsComparePinLaw", "key", "(II)J"⟩ : MethodName) (head1 (Jvm.Cond.code (⟨"com/example/tiercast/tiercast/protocol/KnotsComparePinLaw", "key", "(II)J"⟩ : MethodName) method_2_code 2 (some .long) :: ws) ({ frames := 0, cells := 0, slots := 0, locals := 0 } : Room)) (fun a U => a = #[(.int kp), (.int kt)] ∧ Z.Warmed39 U.vm ∧ U.heap = h0) (fun _ _ _ _ _ => True) (fun _ U o U' => ∃ v L, o = .returned v ∧ Q2 Z kp kt h0 n0 v U'.heap L ∧ FrameEnd U o U' L ({ frames := 0, cells := 0, slots := 0, locals := 0 } : Room).cells ({ frames := 0, cells := 0, slots := 0, locals := 0 } : Room).slots) := by
  refine MetFree.of_bodySF (plainFor_of_name pn_1) hisR ?_
  intro p e s m args below meth c s₁ Bd hml0 hP hK
  obtain ⟨rfl, hZ, hh⟩ := hP
  have hx := Bd.exec
  have hby := Bd.bytes
  have hml : c.maxLocals = 2 := hml0
  have hown : s.vm.findClass "com/example/tiercast/tiercast/protocol/KnotsComparePinLaw" = some m.cls := findClass_of_methodNamed Bd.named
  have hnm := (name_of_methodNamed Bd.named Bd.method).1
  have X0 : Stand p l e ({ frames := 0, cells := 0, slots := 0, locals := 0 } : Room) s m #[(.int kp), (.int kt)] below meth c s₁ [] 0 0 := Stand.of_body Bd
  have e0 : s₁.heap = h0 := by rw [← hh, Bd.state]; rfl
  have N0 := Fr.nil n0
  obtain ⟨G, hG, pre0⟩ : ∃ G : State → Prop, (∀ t, G t → Steps p.tables e below (s₁.setTop (entryFrame m #[(.int kp), (.int kt)] 2)) t) ∧ ∀ t, own_K p e below m s₁ 0 #[iv kp, iv kt] [] t → G t := ⟨fun t => Steps p.tables e below (s₁.setTop (entryFrame m #[(.int kp), (.int kt)] 2)) t, fun _ k => k, fun t k => castTop (ef_2 m kp kt) k⟩
  have pre1 : ∀ t, own_K p e below m s₁ 12 #[iv kp, iv kt] [(.long (((kp.toInt64) <<< ((32 : Int32) &&& 0x3f).toInt64) + ((kt.toInt64) - (-2147483648 : Int64))))] t → G t := by
    intro t k
    refine pre0 t ?_
    show own_K p e below m s₁ 0 #[iv kp, iv kt] [] _
    refine XS.iloadN X0.here hx rfl (hb hby d2_0) rfl ?_
    show own_K p e below m s₁ 1 #[iv kp, iv kt] [(.int kp)] _
    refine XS.i2l X0.here hx rfl (hb hby d2_1) rfl ?_
    show own_K p e below m s₁ 2 #[iv kp, iv kt] [(.long (kp.toInt64))] _
    refine XS.bipush X0.here hx rfl (hb hby d2_2) ?_
    show own_K p e below m s₁ 4 #[iv kp, iv kt] [(.int (32 : Int32)), (.long (kp.toInt64))] _
    refine XS.lshl X0.here hx rfl (hb hby d2_4) rfl ?_
    show own_K p e below m s₁ 5 #[iv kp, iv kt] [(.long ((kp.toInt64) <<< ((32 : Int32) &&& 0x3f).toInt64))] _
    refine XS.iloadN X0.here hx rfl (hb hby d2_5) rfl ?_
    show own_K p e below m s₁ 6 #[iv kp, iv kt] [(.int kt), (.long ((kp.toInt64) <<< ((32 : Int32) &&& 0x3f).toInt64))] _
    refine XS.i2l X0.here hx rfl (hb hby d2_6) rfl ?_
    show own_K p e below m s₁ 7 #[iv kp, iv kt] [(.long (kt.toInt64)), (.long ((kp.toInt64) <<< ((32 : Int32) &&& 0x3f).toInt64))] _
    refine X0.ldc2Long hx hown (mvT hZ (hw _ (List.mem_of_getElem? (i := 8) rfl))) (g := (mkF m 7 #[iv kp, iv kt] [(.long (kt.toInt64)), (.long ((kp.toInt64) <<< ((32 : Int32) &&& 0x3f).toInt64))])) rfl (hb hby d2_7) _ ?_
    show own_K p e below m s₁ 10 #[iv kp, iv kt] [(.long (-2147483648 : Int64)), (.long (kt.toInt64)), (.long ((kp.toInt64) <<< ((32 : Int32) &&& 0x3f).toInt64))] _
    refine XS.lsub X0.here hx rfl (hb hby d2_10) rfl ?_
    show own_K p e below m s₁ 11 #[iv kp, iv kt] [(.long ((kt.toInt64) - (-2147483648 : Int64))), (.long ((kp.toInt64) <<< ((32 : Int32) &&& 0x3f).toInt64))] _
    refine XS.ladd X0.here hx rfl (hb hby d2_11) rfl ?_
    exact k
  obtain ⟨fs, hr, hrun, hended, hW, hsame⟩ := X0.leave (v := some (.long (((kp.toInt64) <<< ((32 : Int32) &&& 0x3f).toInt64) + ((kt.toInt64) - (-2147483648 : Int64))))) (fun h => by rw [Bd.returns] at h; cases h)
  refine ⟨_, _, hG _ (pre1 _ ?_), hrun, hended, _, _, rfl, ?_, ⟨_, rfl⟩, hW, hsame.mono (by decide) (by decide)⟩
  · show own_K p e below m s₁ 12 #[iv kp, iv kt] [(.long (((kp.toInt64) <<< ((32 : Int32) &&& 0x3f).toInt64) + ((kt.toInt64) - (-2147483648 : Int64))))] _
    exact retOut X0 hx Bd.returns rfl (Or.inr (Or.inl ⟨rfl, rfl, _, rfl⟩)) (hb hby d2_12) hr
  · show Q2 Z kp kt h0 n0 _ s₁.heap _
    rw [e0]
    exact ⟨rfl, N0, rfl⟩

theorem pd_0 : parseMethodDescriptor "(FDFD)I" = some ⟨[.float, .double, .float, .double], some .int⟩ := by decide +kernel
theorem pd_1 : parseMethodDescriptor "(II)J" = some ⟨[.int, .int], some .long⟩ := by decide +kernel
theorem ef_0 (m : MethodId) (x0 : Int32) (x1 : Int32) (x2 : Int32) (x3 : Int32) (x4 : Int32) : entryFrame m #[(.int x0), (.int x1), (.int x2), (.int x3), (.int x4)] maxLocals = mkF m 0 #[iv x0, iv x1, iv x2, iv x3, iv x4, .unset, .unset, .unset, .unset, .unset, .unset, .unset, .unset, .unset, .unset, .unset, .unset, .unset, .unset, .unset] [] := by first | (simp [entryFrame, mkF, argsToLocals, Value.category, maxLocals]; done) | rfl
def Q0 (Z : State) (p1 : Int32) (p2 : Int32) (p3 : Int32) (p4 : Int32) (p5 : Int32) (h0 : Heap) (n0 : Nat) (rv_ : Option Value) (h_ : Heap) (L_ : List Loc) : Prop := rv_ = some (.int (1 : Int32)) ∧ Fr n0 L_ ∧ h_ = h0
set_option maxRecDepth 65536 in
set_option maxHeartbeats 40000000 in
theorem rm0 (l : Launch) (Z : State) (a0 : Array Value) (hw : ∀ d ∈ tables_1, d.before a0 Z = true) (ws : List Jvm.Cond) (p1 : Int32) (p2 : Int32) (p3 : Int32) (p4 : Int32) (p5 : Int32) (h0 : Heap) (n0 : Nat) (Z0 : n0 ≤ h0.size) :
    MetFree l x (head1 (Jvm.Cond.code x code maxLocals ret :: ws) room_1) (fun a U => a = #[(.int p1), (.int p2), (.int p3), (.int p4), (.int p5)] ∧ Z.Warmed39 U.vm ∧ U.heap = h0) (fun _ _ _ _ _ => True) (fun _ U o U' => ∃ v L, o = .returned v ∧ Q0 Z p1 p2 p3 p4 p5 h0 n0 v U'.heap L ∧ FrameEnd U o U' L 0 0) := by
  refine MetFree.of_bodySF (plainFor_of_name pn_1) hisR ?_
  intro p e s m args below meth c s₁ Bd hml0 hP hK
  obtain ⟨rfl, hZ, hh⟩ := hP
  have hx := Bd.exec
  have hby := Bd.bytes
  have hml : c.maxLocals = 20 := hml0
  have hown : s.vm.findClass "com/example/tiercast/tiercast/protocol/KnotsComparePinLaw" = some m.cls := findClass_of_methodNamed Bd.named
  have hnm := (name_of_methodNamed Bd.named Bd.method).1
  have X0 : Stand p l e room_1 s m #[(.int p1), (.int p2), (.int p3), (.int p4), (.int p5)] below meth c s₁ [] 0 0 := Stand.of_body Bd
  have e0 : s₁.heap = h0 := by rw [← hh, Bd.state]; rfl
  have N0 := Fr.nil n0
  obtain ⟨G, hG, pre0⟩ : ∃ G : State → Prop, (∀ t, G t → Steps p.tables e below (s₁.setTop (entryFrame m #[(.int p1), (.int p2), (.int p3), (.int p4), (.int p5)] maxLocals)) t) ∧ ∀ t, own_K p e below m s₁ 0 #[iv p1, iv p2, iv p3, iv p4, iv p5, .unset, .unset, .unset, .unset, .unset, .unset, .unset, .unset, .unset, .unset, .unset, .unset, .unset, .unset, .unset] [] t → G t := ⟨fun t => Steps p.tables e below (s₁.setTop (entryFrame m #[(.int p1), (.int p2), (.int p3), (.int p4), (.int p5)] maxLocals)) t, fun _ k => k, fun t k => castTop (ef_0 m p1 p2 p3 p4 p5) k⟩
  have pre1 : ∀ t, own_K p e below m s₁ 10 #[iv p1, iv p2, iv p3, iv p4, iv p5, iv (p1 >>> ((8 : Int32) &&& 31)), .unset, .unset, .unset, .unset, .unset, .unset, .unset, .unset, .unset, .unset, .unset, .unset, .unset, .unset] [(.int (p5 &&& (1 : Int32)))] t → G t := by
    intro t k
    refine pre0 t ?_
    show own_K p e below m s₁ 0 #[iv p1, iv p2, iv p3, iv p4, iv p5, .unset, .unset, .unset, .unset, .unset, .unset, .unset, .unset, .unset, .unset, .unset, .unset, .unset, .unset, .unset] [] _
    refine XS.iloadN X0.here hx rfl (hb hby at_0) rfl ?_
    show own_K p e below m s₁ 1 #[iv p1, iv p2, iv p3, iv p4, iv p5, .unset, .unset, .unset, .unset, .unset, .unset, .unset, .unset, .unset, .unset, .unset, .unset, .unset, .unset, .unset] [(.int p1)] _
    refine XS.bipush X0.here hx rfl (hb hby at_1) ?_
    show own_K p e below m s₁ 3 #[iv p1, iv p2, iv p3, iv p4, iv p5, .unset, .unset, .unset, .unset, .unset, .unset, .unset, .unset, .unset, .unset, .unset, .unset, .unset, .unset, .unset] [(.int (8 : Int32)), (.int p1)] _
    refine XS.ishr X0.here hx rfl (hb hby at_3) rfl ?_
    show own_K p e below m s₁ 4 #[iv p1, iv p2, iv p3, iv p4, iv p5, .unset, .unset, .unset, .unset, .unset, .unset, .unset, .unset, .unset, .unset, .unset, .unset, .unset, .unset, .unset] [(.int (p1 >>> ((8 : Int32) &&& 31)))] _
    refine XS.istore X0.here hx rfl (hb hby at_4) rfl (l' := #[iv p1, iv p2, iv p3, iv p4, iv p5, iv (p1 >>> ((8 : Int32) &&& 31)), .unset, .unset, .unset, .unset, .unset, .unset, .unset, .unset, .unset, .unset, .unset, .unset, .unset, .unset]) rfl ?_
    show own_K p e below m s₁ 6 #[iv p1, iv p2, iv p3, iv p4, iv p5, iv (p1 >>> ((8 : Int32) &&& 31)), .unset, .unset, .unset, .unset, .unset, .unset, .unset, .unset, .unset, .unset, .unset, .unset, .unset, .unset] [] _
    refine XS.iload X0.here hx rfl (hb hby at_6) rfl ?_
    show own_K p e below m s₁ 8 #[iv p1, iv p2, iv p3, iv p4, iv p5, iv (p1 >>> ((8 : Int32) &&& 31)), .unset, .unset, .unset, .unset, .unset, .unset, .unset, .unset, .unset, .unset, .unset, .unset, .unset, .unset] [(.int p5)] _
    refine XS.iconst X0.here hx rfl (hb hby at_8) ?_
    show own_K p e below m s₁ 9 #[iv p1, iv p2, iv p3, iv p4, iv p5, iv (p1 >>> ((8 : Int32) &&& 31)), .unset, .unset, .unset, .unset, .unset, .unset, .unset, .unset, .unset, .unset, .unset, .unset, .unset, .unset] [(.int (1 : Int32)), (.int p5)] _
    refine XS.iand X0.here hx rfl (hb hby at_9) rfl ?_
    exact k
  obtain ⟨v5, hv5⟩ : ∃ z : Int32, z = (if (p5 &&& (1 : Int32)) = (0 : Int32) then (p2 >>> ((8 : Int32) &&& 31)) else (p1 >>> ((8 : Int32) &&& 31))) := ⟨_, rfl⟩
  have pre6 : ∀ t, own_K p e below m s₁ 22 #[iv p1, iv p2, iv p3, iv p4, iv p5, iv (p1 >>> ((8 : Int32) &&& 31)), .unset, .unset, .unset, .unset, .unset, .unset, .unset, .unset, .unset, .unset, .unset, .unset, .unset, .unset] [(.int v5)] t → G t := by
    by_cases hc10_2 : (p5 &&& (1 : Int32)) = (0 : Int32)
    · have pre3 : ∀ t, own_K p e below m s₁ 22 #[iv p1, iv p2, iv p3, iv p4, iv p5, iv (p1 >>> ((8 : Int32) &&& 31)), .unset, .unset, .unset, .unset, .unset, .unset, .unset, .unset, .unset, .unset, .unset, .unset, .unset, .unset] [(.int (p2 >>> ((8 : Int32) &&& 31)))] t → G t := by
        intro t k
        refine pre1 t ?_
        show own_K p e below m s₁ 10 #[iv p1, iv p2, iv p3, iv p4, iv p5, iv (p1 >>> ((8 : Int32) &&& 31)), .unset, .unset, .unset, .unset, .unset, .unset, .unset, .unset, .unset, .unset, .unset, .unset, .unset, .unset] [(.int (p5 &&& (1 : Int32)))] _
        refine XS.ifYes X0.here hx rfl (pc0 := 10) (pc' := 18) rfl (hb hby at_10) rfl ((if0 _ _).trans (teq hc10_2).1) (by decide) (by decide) ?_
        show own_K p e below m s₁ 18 #[iv p1, iv p2, iv p3, iv p4, iv p5, iv (p1 >>> ((8 : Int32) &&& 31)), .unset, .unset, .unset, .unset, .unset, .unset, .unset, .unset, .unset, .unset, .unset, .unset, .unset, .unset] [] _
        refine XS.iloadN X0.here hx rfl (hb hby at_18) rfl ?_
        show own_K p e below m s₁ 19 #[iv p1, iv p2, iv p3, iv p4, iv p5, iv (p1 >>> ((8 : Int32) &&& 31)), .unset, .unset, .unset, .unset, .unset, .unset, .unset, .unset, .unset, .unset, .unset, .unset, .unset, .unset] [(.int p2)] _
        refine XS.bipush X0.here hx rfl (hb hby at_19) ?_
        show own_K p e below m s₁ 21 #[iv p1, iv p2, iv p3, iv p4, iv p5, iv (p1 >>> ((8 : Int32) &&& 31)), .unset, .unset, .unset, .unset, .unset, .unset, .unset, .unset, .unset, .unset, .unset, .unset, .unset, .unset] [(.int (8 : Int32)), (.int p2)] _
        refine XS.ishr X0.here hx rfl (hb hby at_21) rfl ?_
        exact k
      have hq := True.intro
      obtain rfl : v5 = (p2 >>> ((8 : Int32) &&& 31)) := by simp only [hv5, if_pos hc10_2]
      exact fun t k => pre3 t k
    · have pre4 : ∀ t, own_K p e below m s₁ 22 #[iv p1, iv p2, iv p3, iv p4, iv p5, iv (p1 >>> ((8 : Int32) &&& 31)), .unset, .unset, .unset, .unset, .unset, .unset, .unset, .unset, .unset, .unset, .unset, .unset, .unset, .unset] [(.int (p1 >>> ((8 : Int32) &&& 31)))] t → G t := by
        intro t k
        refine pre1 t ?_
        show own_K p e below m s₁ 10 #[iv p1, iv p2, iv p3, iv p4, iv p5, iv (p1 >>> ((8 : Int32) &&& 31)), .unset, .unset, .unset, .unset, .unset, .unset, .unset, .unset, .unset, .unset, .unset, .unset, .unset, .unset] [(.int (p5 &&& (1 : Int32)))] _
        refine XS.ifNo X0.here hx rfl (hb hby at_10) rfl ((if0 _ _).trans (feq hc10_2).1) ?_
        show own_K p e below m s₁ 13 #[iv p1, iv p2, iv p3, iv p4, iv p5, iv (p1 >>> ((8 : Int32) &&& 31)), .unset, .unset, .unset, .unset, .unset, .unset, .unset, .unset, .unset, .unset, .unset, .unset, .unset, .unset] [] _
        refine XS.iload X0.here hx rfl (hb hby at_13) rfl ?_
        show own_K p e below m s₁ 15 #[iv p1, iv p2, iv p3, iv p4, iv p5, iv (p1 >>> ((8 : Int32) &&& 31)), .unset, .unset, .unset, .unset, .unset, .unset, .unset, .unset, .unset, .unset, .unset, .unset, .unset, .unset] [(.int (p1 >>> ((8 : Int32) &&& 31)))] _
        refine XS.goto X0.here hx rfl (pc0 := 15) (pc' := 22) rfl (hb hby at_15) (by decide) (by decide) ?_
        exact k
      have hq := True.intro
      obtain rfl : v5 = (p1 >>> ((8 : Int32) &&& 31)) := by simp only [hv5, if_neg hc10_2]
      exact fun t k => pre4 t k
  have pre7 : ∀ t, own_K p e below m s₁ 31 #[iv p1, iv p2, iv p3, iv p4, iv p5, iv (p1 >>> ((8 : Int32) &&& 31)), iv v5, iv p3, .unset, .unset, .unset, .unset, .unset, .unset, .unset, .unset, .unset, .unset, .unset, .unset] [(.int (p5 &&& (2 : Int32)))] t → G t := by
    intro t k
    refine pre6 t ?_
    show own_K p e below m s₁ 22 #[iv p1, iv p2, iv p3, iv p4, iv p5, iv (p1 >>> ((8 : Int32) &&& 31)), .unset, .unset, .unset, .unset, .unset, .unset, .unset, .unset, .unset, .unset, .unset, .unset, .unset, .unset] [(.int v5)] _
    refine XS.istore X0.here hx rfl (hb hby at_22) rfl (l' := #[iv p1, iv p2, iv p3, iv p4, iv p5, iv (p1 >>> ((8 : Int32) &&& 31)), iv v5, .unset, .unset, .unset, .unset, .unset, .unset, .unset, .unset, .unset, .unset, .unset, .unset, .unset]) rfl ?_
    show own_K p e below m s₁ 24 #[iv p1, iv p2, iv p3, iv p4, iv p5, iv (p1 >>> ((8 : Int32) &&& 31)), iv v5, .unset, .unset, .unset, .unset, .unset, .unset, .unset, .unset, .unset, .unset, .unset, .unset, .unset] [] _
    refine XS.iloadN X0.here hx rfl (hb hby at_24) rfl ?_
    show own_K p e below m s₁ 25 #[iv p1, iv p2, iv p3, iv p4, iv p5, iv (p1 >>> ((8 : Int32) &&& 31)), iv v5, .unset, .unset, .unset, .unset, .unset, .unset, .unset, .unset, .unset, .unset, .unset, .unset, .unset] [(.int p3)] _
    refine XS.istore X0.here hx rfl (hb hby at_25) rfl (l' := #[iv p1, iv p2, iv p3, iv p4, iv p5, iv (p1 >>> ((8 : Int32) &&& 31)), iv v5, iv p3, .unset, .unset, .unset, .unset, .unset, .unset, .unset, .unset, .unset, .unset, .unset, .unset]) rfl ?_
    show own_K p e below m s₁ 27 #[iv p1, iv p2, iv p3, iv p4, iv p5, iv (p1 >>> ((8 : Int32) &&& 31)), iv v5, iv p3, .unset, .unset, .unset, .unset, .unset, .unset, .unset, .unset, .unset, .unset, .unset, .unset] [] _
    refine XS.iload X0.here hx rfl (hb hby at_27) rfl ?_
    show own_K p e below m s₁ 29 #[iv p1, iv p2, iv p3, iv p4, iv p5, iv (p1 >>> ((8 : Int32) &&& 31)), iv v5, iv p3, .unset, .unset, .unset, .unset, .unset, .unset, .unset, .unset, .unset, .unset, .unset, .unset] [(.int p5)] _
    refine XS.iconst X0.here hx rfl (hb hby at_29) ?_
    show own_K p e below m s₁ 30 #[iv p1, iv p2, iv p3, iv p4, iv p5, iv (p1 >>> ((8 : Int32) &&& 31)), iv v5, iv p3, .unset, .unset, .unset, .unset, .unset, .unset, .unset, .unset, .unset, .unset, .unset, .unset] [(.int (2 : Int32)), (.int p5)] _
    refine XS.iand X0.here hx rfl (hb hby at_30) rfl ?_
    exact k
  obtain ⟨v11, hv11⟩ : ∃ z : Int32, z = (if (p5 &&& (2 : Int32)) = (0 : Int32) then p4 else p3) := ⟨_, rfl⟩
  have pre12 : ∀ t, own_K p e below m s₁ 40 #[iv p1, iv p2, iv p3, iv p4, iv p5, iv (p1 >>> ((8 : Int32) &&& 31)), iv v5, iv p3, .unset, .unset, .unset, .unset, .unset, .unset, .unset, .unset, .unset, .unset, .unset, .unset] [(.int v11)] t → G t := by
    by_cases hc31_8 : (p5 &&& (2 : Int32)) = (0 : Int32)
    · have pre9 : ∀ t, own_K p e below m s₁ 40 #[iv p1, iv p2, iv p3, iv p4, iv p5, iv (p1 >>> ((8 : Int32) &&& 31)), iv v5, iv p3, .unset, .unset, .unset, .unset, .unset, .unset, .unset, .unset, .unset, .unset, .unset, .unset] [(.int p4)] t → G t := by
        intro t k
        refine pre7 t ?_
        show own_K p e below m s₁ 31 #[iv p1, iv p2, iv p3, iv p4, iv p5, iv (p1 >>> ((8 : Int32) &&& 31)), iv v5, iv p3, .unset, .unset, .unset, .unset, .unset, .unset, .unset, .unset, .unset, .unset, .unset, .unset] [(.int (p5 &&& (2 : Int32)))] _
        refine XS.ifYes X0.here hx rfl (pc0 := 31) (pc' := 39) rfl (hb hby at_31) rfl ((if0 _ _).trans (teq hc31_8).1) (by decide) (by decide) ?_
        show own_K p e below m s₁ 39 #[iv p1, iv p2, iv p3, iv p4, iv p5, iv (p1 >>> ((8 : Int32) &&& 31)), iv v5, iv p3, .unset, .unset, .unset, .unset, .unset, .unset, .unset, .unset, .unset, .unset, .unset, .unset] [] _
        refine XS.iloadN X0.here hx rfl (hb hby at_39) rfl ?_
        exact k
      have hq := True.intro
      obtain rfl : v11 = p4 := by simp only [hv11, if_pos hc31_8]
      exact fun t k => pre9 t k
    · have pre10 : ∀ t, own_K p e below m s₁ 40 #[iv p1, iv p2, iv p3, iv p4, iv p5, iv (p1 >>> ((8 : Int32) &&& 31)), iv v5, iv p3, .unset, .unset, .unset, .unset, .unset, .unset, .unset, .unset, .unset, .unset, .unset, .unset] [(.int p3)] t → G t := by
        intro t k
        refine pre7 t ?_
        show own_K p e below m s₁ 31 #[iv p1, iv p2, iv p3, iv p4, iv p5, iv (p1 >>> ((8 : Int32) &&& 31)), iv v5, iv p3, .unset, .unset, .unset, .unset, .unset, .unset, .unset, .unset, .unset, .unset, .unset, .unset] [(.int (p5 &&& (2 : Int32)))] _
        refine XS.ifNo X0.here hx rfl (hb hby at_31) rfl ((if0 _ _).trans (feq hc31_8).1) ?_
        show own_K p e below m s₁ 34 #[iv p1, iv p2, iv p3, iv p4, iv p5, iv (p1 >>> ((8 : Int32) &&& 31)), iv v5, iv p3, .unset, .unset, .unset, .unset, .unset, .unset, .unset, .unset, .unset, .unset, .unset, .unset] [] _
        refine XS.iload X0.here hx rfl (hb hby at_34) rfl ?_
        show own_K p e below m s₁ 36 #[iv p1, iv p2, iv p3, iv p4, iv p5, iv (p1 >>> ((8 : Int32) &&& 31)), iv v5, iv p3, .unset, .unset, .unset, .unset, .unset, .unset, .unset, .unset, .unset, .unset, .unset, .unset] [(.int p3)] _
        refine XS.goto X0.here hx rfl (pc0 := 36) (pc' := 40) rfl (hb hby at_36) (by decide) (by decide) ?_
        exact k
      have hq := True.intro
      obtain rfl : v11 = p3 := by simp only [hv11, if_neg hc31_8]
      exact fun t k => pre10 t k
  have pre13 : ∀ t, own_K p e below m s₁ 42 #[iv p1, iv p2, iv p3, iv p4, iv p5, iv (p1 >>> ((8 : Int32) &&& 31)), iv v5, iv p3, iv v11, .unset, .unset, .unset, .unset, .unset, .unset, .unset, .unset, .unset, .unset, .unset] [] t → G t := by
    intro t k
    refine pre12 t ?_
    show own_K p e below m s₁ 40 #[iv p1, iv p2, iv p3, iv p4, iv p5, iv (p1 >>> ((8 : Int32) &&& 31)), iv v5, iv p3, .unset, .unset, .unset, .unset, .unset, .unset, .unset, .unset, .unset, .unset, .unset, .unset] [(.int v11)] _
    refine XS.istore X0.here hx rfl (hb hby at_40) rfl (l' := #[iv p1, iv p2, iv p3, iv p4, iv p5, iv (p1 >>> ((8 : Int32) &&& 31)), iv v5, iv p3, iv v11, .unset, .unset, .unset, .unset, .unset, .unset, .unset, .unset, .unset, .unset, .unset]) rfl ?_
    exact k
  have hp1 := own_shr8 p1
  have hp2 := own_shr8' p1 p2 p5 v5 hv5
  obtain ⟨_, _, ⟨T14, L14, k14, n14⟩, -, X14, ⟨Lc14, hQ14, l14, y14, z14⟩, st14⟩ := Jvm.LawKit.callS X0 hx (y := (⟨"com/example/tiercast/tiercast/protocol/Knots", "compare", "(FDFD)I"⟩ : MethodName)) hown (mvT hZ (hw _ (List.mem_of_getElem? (i := 0) rfl))) (mvT hZ (hw _ (List.mem_of_getElem? (i := 1) rfl))) (mvT hZ (hw _ (List.mem_of_getElem? (i := 2) rfl))) (mvT hZ (hw _ (List.mem_of_getElem? (i := 3) rfl))) (by decide) (backOf (W := 0) (rm1 l Z a0 hw [] (FP.i2f (p1 >>> ((8 : Int32) &&& 31))) (FP.i2d p3) (FP.i2f v5) (FP.i2d v11) (((p1 >>> ((8 : Int32) &&& 31))).toInt) v5.toInt p3.toInt v11.toInt h0 n0 Z0 (FP.Core.i2f_int (by omega)) (FP.Core.i2f_int (by omega)) (FP.Core.i2d_int _) (FP.Core.i2d_int _)) hZ (hw _ (List.mem_of_getElem? (i := 3) rfl)) (hw _ (List.mem_of_getElem? (i := 2) rfl)) (by decide) (by decide)) (g := (mkF m 70 #[iv p1, iv p2, iv p3, iv p4, iv p5, iv (p1 >>> ((8 : Int32) &&& 31)), iv v5, iv p3, iv v11, .val (.float (FP.i2f (p1 >>> ((8 : Int32) &&& 31)))), .val (.float (FP.i2f v5)), .val (.double (FP.i2d p3)), .second, .val (.double (FP.i2d v11)), .second, .unset, .unset, .unset, .unset, .unset] [(.double (FP.i2d v11)), (.float (FP.i2f v5)), (.double (FP.i2d p3)), (.float (FP.i2f (p1 >>> ((8 : Int32) &&& 31))))])) rfl (by rw [hml]; rfl) (argsL := [(.float (FP.i2f (p1 >>> ((8 : Int32) &&& 31)))), (.double (FP.i2d p3)), (.float (FP.i2f v5)), (.double (FP.i2d v11))]) (rest := []) (lenOf pd_0 rfl) rfl (by show 2 * 0 + _ ≤ _; exact Nat.le_of_eq rfl) (hb hby at_70) (fun _ _ => ⟨rfl, e0, (by decide : 0 + 0 ≤ _), (by decide : 0 + 0 ≤ _)⟩)
  dsimp only [Pt.U, Pt.locs, Pt.cells, Pt.slots] at X14 l14 y14 z14 st14 hQ14
  subst l14 y14 z14
  obtain ⟨rfl, Nq14, eh14⟩ := hQ14
  have N14 := Fr.app N0 Nq14
  have pre15 : ∀ t, own_K p e below m T14 73 #[iv p1, iv p2, iv p3, iv p4, iv p5, iv (p1 >>> ((8 : Int32) &&& 31)), iv v5, iv p3, iv v11, .val (.float (FP.i2f (p1 >>> ((8 : Int32) &&& 31)))), .val (.float (FP.i2f v5)), .val (.double (FP.i2d p3)), .second, .val (.double (FP.i2d v11)), .second, .unset, .unset, .unset, .unset, .unset] [(.int (if (own_cmp ((p1 >>> ((8 : Int32) &&& 31))).toInt v5.toInt) = (0 : Int32) then (if (own_cmp p3.toInt v11.toInt) = (0 : Int32) then (0 : Int32) else (if (own_cmp p3.toInt v11.toInt) < (0 : Int32) then (-1 : Int32) else (1 : Int32))) else (if (own_cmp ((p1 >>> ((8 : Int32) &&& 31))).toInt v5.toInt) < (0 : Int32) then (-1 : Int32) else (1 : Int32))))] t → G t := by
    intro t k
    refine pre13 t ?_
    show own_K p e below m s₁ 42 #[iv p1, iv p2, iv p3, iv p4, iv p5, iv (p1 >>> ((8 : Int32) &&& 31)), iv v5, iv p3, iv v11, .unset, .unset, .unset, .unset, .unset, .unset, .unset, .unset, .unset, .unset, .unset] [] _
    refine XS.iload X0.here hx rfl (hb hby at_42) rfl ?_
    show own_K p e below m s₁ 44 #[iv p1, iv p2, iv p3, iv p4, iv p5, iv (p1 >>> ((8 : Int32) &&& 31)), iv v5, iv p3, iv v11, .unset, .unset, .unset, .unset, .unset, .unset, .unset, .unset, .unset, .unset, .unset] [(.int (p1 >>> ((8 : Int32) &&& 31)))] _
    refine own_i2f X0.here hx rfl (hb hby at_44) rfl ?_
    show own_K p e below m s₁ 45 #[iv p1, iv p2, iv p3, iv p4, iv p5, iv (p1 >>> ((8 : Int32) &&& 31)), iv v5, iv p3, iv v11, .unset, .unset, .unset, .unset, .unset, .unset, .unset, .unset, .unset, .unset, .unset] [(.float (FP.i2f (p1 >>> ((8 : Int32) &&& 31))))] _
    refine own_fstore X0.here hx rfl (hb hby at_45) rfl (l' := #[iv p1, iv p2, iv p3, iv p4, iv p5, iv (p1 >>> ((8 : Int32) &&& 31)), iv v5, iv p3, iv v11, .val (.float (FP.i2f (p1 >>> ((8 : Int32) &&& 31)))), .unset, .unset, .unset, .unset, .unset, .unset, .unset, .unset, .unset, .unset]) rfl ?_
    show own_K p e below m s₁ 47 #[iv p1, iv p2, iv p3, iv p4, iv p5, iv (p1 >>> ((8 : Int32) &&& 31)), iv v5, iv p3, iv v11, .val (.float (FP.i2f (p1 >>> ((8 : Int32) &&& 31)))), .unset, .unset, .unset, .unset, .unset, .unset, .unset, .unset, .unset, .unset] [] _
    refine XS.iload X0.here hx rfl (hb hby at_47) rfl ?_
    show own_K p e below m s₁ 49 #[iv p1, iv p2, iv p3, iv p4, iv p5, iv (p1 >>> ((8 : Int32) &&& 31)), iv v5, iv p3, iv v11, .val (.float (FP.i2f (p1 >>> ((8 : Int32) &&& 31)))), .unset, .unset, .unset, .unset, .unset, .unset, .unset, .unset, .unset, .unset] [(.int v5)] _
    refine own_i2f X0.here hx rfl (hb hby at_49) rfl ?_
    show own_K p e below m s₁ 50 #[iv p1, iv p2, iv p3, iv p4, iv p5, iv (p1 >>> ((8 : Int32) &&& 31)), iv v5, iv p3, iv v11, .val (.float (FP.i2f (p1 >>> ((8 : Int32) &&& 31)))), .unset, .unset, .unset, .unset, .unset, .unset, .unset, .unset, .unset, .unset] [(.float (FP.i2f v5))] _
    refine own_fstore X0.here hx rfl (hb hby at_50) rfl (l' := #[iv p1, iv p2, iv p3, iv p4, iv p5, iv (p1 >>> ((8 : Int32) &&& 31)), iv v5, iv p3, iv v11, .val (.float (FP.i2f (p1 >>> ((8 : Int32) &&& 31)))), .val (.float (FP.i2f v5)), .unset, .unset, .unset, .unset, .unset, .unset, .unset, .unset, .unset]) rfl ?_
    show own_K p e below m s₁ 52 #[iv p1, iv p2, iv p3, iv p4, iv p5, iv (p1 >>> ((8 : Int32) &&& 31)), iv v5, iv p3, iv v11, .val (.float (FP.i2f (p1 >>> ((8 : Int32) &&& 31)))), .val (.float (FP.i2f v5)), .unset, .unset, .unset, .unset, .unset, .unset, .unset, .unset, .unset] [] _
    refine XS.iload X0.here hx rfl (hb hby at_52) rfl ?_
    show own_K p e below m s₁ 54 #[iv p1, iv p2, iv p3, iv p4, iv p5, iv (p1 >>> ((8 : Int32) &&& 31)), iv v5, iv p3, iv v11, .val (.float (FP.i2f (p1 >>> ((8 : Int32) &&& 31)))), .val (.float (FP.i2f v5)), .unset, .unset, .unset, .unset, .unset, .unset, .unset, .unset, .unset] [(.int p3)] _
    refine own_i2d X0.here hx rfl (hb hby at_54) rfl ?_
    show own_K p e below m s₁ 55 #[iv p1, iv p2, iv p3, iv p4, iv p5, iv (p1 >>> ((8 : Int32) &&& 31)), iv v5, iv p3, iv v11, .val (.float (FP.i2f (p1 >>> ((8 : Int32) &&& 31)))), .val (.float (FP.i2f v5)), .unset, .unset, .unset, .unset, .unset, .unset, .unset, .unset, .unset] [(.double (FP.i2d p3))] _
    refine own_dstore X0.here hx rfl (hb hby at_55) rfl (l' := #[iv p1, iv p2, iv p3, iv p4, iv p5, iv (p1 >>> ((8 : Int32) &&& 31)), iv v5, iv p3, iv v11, .val (.float (FP.i2f (p1 >>> ((8 : Int32) &&& 31)))), .val (.float (FP.i2f v5)), .val (.double (FP.i2d p3)), .second, .unset, .unset, .unset, .unset, .unset, .unset, .unset]) rfl ?_
    show own_K p e below m s₁ 57 #[iv p1, iv p2, iv p3, iv p4, iv p5, iv (p1 >>> ((8 : Int32) &&& 31)), iv v5, iv p3, iv v11, .val (.float (FP.i2f (p1 >>> ((8 : Int32) &&& 31)))), .val (.float (FP.i2f v5)), .val (.double (FP.i2d p3)), .second, .unset, .unset, .unset, .unset, .unset, .unset, .unset] [] _
    refine XS.iload X0.here hx rfl (hb hby at_57) rfl ?_
    show own_K p e below m s₁ 59 #[iv p1, iv p2, iv p3, iv p4, iv p5, iv (p1 >>> ((8 : Int32) &&& 31)), iv v5, iv p3, iv v11, .val (.float (FP.i2f (p1 >>> ((8 : Int32) &&& 31)))), .val (.float (FP.i2f v5)), .val (.double (FP.i2d p3)), .second, .unset, .unset, .unset, .unset, .unset, .unset, .unset] [(.int v11)] _
    refine own_i2d X0.here hx rfl (hb hby at_59) rfl ?_
    show own_K p e below m s₁ 60 #[iv p1, iv p2, iv p3, iv p4, iv p5, iv (p1 >>> ((8 : Int32) &&& 31)), iv v5, iv p3, iv v11, .val (.float (FP.i2f (p1 >>> ((8 : Int32) &&& 31)))), .val (.float (FP.i2f v5)), .val (.double (FP.i2d p3)), .second, .unset, .unset, .unset, .unset, .unset, .unset, .unset] [(.double (FP.i2d v11))] _
    refine own_dstore X0.here hx rfl (hb hby at_60) rfl (l' := #[iv p1, iv p2, iv p3, iv p4, iv p5, iv (p1 >>> ((8 : Int32) &&& 31)), iv v5, iv p3, iv v11, .val (.float (FP.i2f (p1 >>> ((8 : Int32) &&& 31)))), .val (.float (FP.i2f v5)), .val (.double (FP.i2d p3)), .second, .val (.double (FP.i2d v11)), .second, .unset, .unset, .unset, .unset, .unset]) rfl ?_
    show own_K p e below m s₁ 62 #[iv p1, iv p2, iv p3, iv p4, iv p5, iv (p1 >>> ((8 : Int32) &&& 31)), iv v5, iv p3, iv v11, .val (.float (FP.i2f (p1 >>> ((8 : Int32) &&& 31)))), .val (.float (FP.i2f v5)), .val (.double (FP.i2d p3)), .second, .val (.double (FP.i2d v11)), .second, .unset, .unset, .unset, .unset, .unset] [] _
    refine XT.fload X0.here hx rfl (hb hby at_62) rfl ?_
    show own_K p e below m s₁ 64 #[iv p1, iv p2, iv p3, iv p4, iv p5, iv (p1 >>> ((8 : Int32) &&& 31)), iv v5, iv p3, iv v11, .val (.float (FP.i2f (p1 >>> ((8 : Int32) &&& 31)))), .val (.float (FP.i2f v5)), .val (.double (FP.i2d p3)), .second, .val (.double (FP.i2d v11)), .second, .unset, .unset, .unset, .unset, .unset] [(.float (FP.i2f (p1 >>> ((8 : Int32) &&& 31))))] _
    refine XT.dload X0.here hx rfl (hb hby at_64) rfl ?_
    show own_K p e below m s₁ 66 #[iv p1, iv p2, iv p3, iv p4, iv p5, iv (p1 >>> ((8 : Int32) &&& 31)), iv v5, iv p3, iv v11, .val (.float (FP.i2f (p1 >>> ((8 : Int32) &&& 31)))), .val (.float (FP.i2f v5)), .val (.double (FP.i2d p3)), .second, .val (.double (FP.i2d v11)), .second, .unset, .unset, .unset, .unset, .unset] [(.double (FP.i2d p3)), (.float (FP.i2f (p1 >>> ((8 : Int32) &&& 31))))] _
    refine XT.fload X0.here hx rfl (hb hby at_66) rfl ?_
    show own_K p e below m s₁ 68 #[iv p1, iv p2, iv p3, iv p4, iv p5, iv (p1 >>> ((8 : Int32) &&& 31)), iv v5, iv p3, iv v11, .val (.float (FP.i2f (p1 >>> ((8 : Int32) &&& 31)))), .val (.float (FP.i2f v5)), .val (.double (FP.i2d p3)), .second, .val (.double (FP.i2d v11)), .second, .unset, .unset, .unset, .unset, .unset] [(.float (FP.i2f v5)), (.double (FP.i2d p3)), (.float (FP.i2f (p1 >>> ((8 : Int32) &&& 31))))] _
    refine XT.dload X0.here hx rfl (hb hby at_68) rfl ?_
    show own_K p e below m s₁ 70 #[iv p1, iv p2, iv p3, iv p4, iv p5, iv (p1 >>> ((8 : Int32) &&& 31)), iv v5, iv p3, iv v11, .val (.float (FP.i2f (p1 >>> ((8 : Int32) &&& 31)))), .val (.float (FP.i2f v5)), .val (.double (FP.i2d p3)), .second, .val (.double (FP.i2d v11)), .second, .unset, .unset, .unset, .unset, .unset] [(.double (FP.i2d v11)), (.float (FP.i2f v5)), (.double (FP.i2d p3)), (.float (FP.i2f (p1 >>> ((8 : Int32) &&& 31))))] _
    refine st14 _ ?_
    exact k
  obtain ⟨xr, hxr⟩ : ∃ z : Int32, z = (if (own_cmp ((p1 >>> ((8 : Int32) &&& 31))).toInt v5.toInt) = (0 : Int32) then (if (own_cmp p3.toInt v11.toInt) = (0 : Int32) then (0 : Int32) else (if (own_cmp p3.toInt v11.toInt) < (0 : Int32) then (-1 : Int32) else (1 : Int32))) else (if (own_cmp ((p1 >>> ((8 : Int32) &&& 31))).toInt v5.toInt) < (0 : Int32) then (-1 : Int32) else (1 : Int32))) := ⟨_, rfl⟩
  have pre16 : ∀ t, own_K p e below m T14 73 #[iv p1, iv p2, iv p3, iv p4, iv p5, iv (p1 >>> ((8 : Int32) &&& 31)), iv v5, iv p3, iv v11, .val (.float (FP.i2f (p1 >>> ((8 : Int32) &&& 31)))), .val (.float (FP.i2f v5)), .val (.double (FP.i2d p3)), .second, .val (.double (FP.i2d v11)), .second, .unset, .unset, .unset, .unset, .unset] [(.int xr)] t → G t := fun t k => pre15 t (by rw [hxr] at k; exact k)
  obtain ⟨_, _, ⟨T17, L17, k17, n17⟩, -, X17, ⟨Lc17, hQ17, l17, y17, z17⟩, st17⟩ := Jvm.LawKit.callS X14 hx (y := (⟨"com/example/tiercast/tiercast/protocol/KnotsComparePinLaw", "key", "(II)J"⟩ : MethodName)) hown (mvT hZ (hw _ (List.mem_of_getElem? (i := 4) rfl))) (mvT hZ (hw _ (List.mem_of_getElem? (i := 5) rfl))) (mvT hZ (hw _ (List.mem_of_getElem? (i := 6) rfl))) (mvT hZ (hw _ (List.mem_of_getElem? (i := 7) rfl))) (by decide) (backOf (W := 0) (rm2 l Z a0 hw [] (p1 >>> ((8 : Int32) &&& 31)) p3 h0 n0 Z0 ) hZ (hw _ (List.mem_of_getElem? (i := 7) rfl)) (hw _ (List.mem_of_getElem? (i := 6) rfl)) (by decide) (by decide)) (g := (mkF m 79 #[iv p1, iv p2, iv p3, iv p4, iv p5, iv (p1 >>> ((8 : Int32) &&& 31)), iv v5, iv p3, iv v11, .val (.float (FP.i2f (p1 >>> ((8 : Int32) &&& 31)))), .val (.float (FP.i2f v5)), .val (.double (FP.i2d p3)), .second, .val (.double (FP.i2d v11)), .second, iv xr, .unset, .unset, .unset, .unset] [(.int p3), (.int (p1 >>> ((8 : Int32) &&& 31)))])) rfl (by rw [hml]; rfl) (argsL := [(.int (p1 >>> ((8 : Int32) &&& 31))), (.int p3)]) (rest := []) (lenOf pd_1 rfl) rfl (by show 2 * 0 + _ ≤ _; exact Nat.le_of_eq rfl) (hb hby at_79) (fun _ _ => ⟨rfl, eh14, (by decide : 0 + 0 ≤ _), (by decide : 0 + 0 ≤ _)⟩)
  dsimp only [Pt.U, Pt.locs, Pt.cells, Pt.slots] at X17 l17 y17 z17 st17 hQ17
  subst l17 y17 z17
  obtain ⟨rfl, Nq17, eh17⟩ := hQ17
  have N17 := Fr.app N14 Nq17
  have pre18 : ∀ t, own_K p e below m T17 82 #[iv p1, iv p2, iv p3, iv p4, iv p5, iv (p1 >>> ((8 : Int32) &&& 31)), iv v5, iv p3, iv v11, .val (.float (FP.i2f (p1 >>> ((8 : Int32) &&& 31)))), .val (.float (FP.i2f v5)), .val (.double (FP.i2d p3)), .second, .val (.double (FP.i2d v11)), .second, iv xr, .unset, .unset, .unset, .unset] [(.long ((((p1 >>> ((8 : Int32) &&& 31)).toInt64) <<< ((32 : Int32) &&& 0x3f).toInt64) + ((p3.toInt64) - (-2147483648 : Int64))))] t → G t := by
    intro t k
    refine pre16 t ?_
    show own_K p e below m T14 73 #[iv p1, iv p2, iv p3, iv p4, iv p5, iv (p1 >>> ((8 : Int32) &&& 31)), iv v5, iv p3, iv v11, .val (.float (FP.i2f (p1 >>> ((8 : Int32) &&& 31)))), .val (.float (FP.i2f v5)), .val (.double (FP.i2d p3)), .second, .val (.double (FP.i2d v11)), .second, .unset, .unset, .unset, .unset, .unset] [(.int xr)] _
    refine XS.istore X14.here hx rfl (hb hby at_73) rfl (l' := #[iv p1, iv p2, iv p3, iv p4, iv p5, iv (p1 >>> ((8 : Int32) &&& 31)), iv v5, iv p3, iv v11, .val (.float (FP.i2f (p1 >>> ((8 : Int32) &&& 31)))), .val (.float (FP.i2f v5)), .val (.double (FP.i2d p3)), .second, .val (.double (FP.i2d v11)), .second, iv xr, .unset, .unset, .unset, .unset]) rfl ?_
    show own_K p e below m T14 75 #[iv p1, iv p2, iv p3, iv p4, iv p5, iv (p1 >>> ((8 : Int32) &&& 31)), iv v5, iv p3, iv v11, .val (.float (FP.i2f (p1 >>> ((8 : Int32) &&& 31)))), .val (.float (FP.i2f v5)), .val (.double (FP.i2d p3)), .second, .val (.double (FP.i2d v11)), .second, iv xr, .unset, .unset, .unset, .unset] [] _
    refine XS.iload X14.here hx rfl (hb hby at_75) rfl ?_
    show own_K p e below m T14 77 #[iv p1, iv p2, iv p3, iv p4, iv p5, iv (p1 >>> ((8 : Int32) &&& 31)), iv v5, iv p3, iv v11, .val (.float (FP.i2f (p1 >>> ((8 : Int32) &&& 31)))), .val (.float (FP.i2f v5)), .val (.double (FP.i2d p3)), .second, .val (.double (FP.i2d v11)), .second, iv xr, .unset, .unset, .unset, .unset] [(.int (p1 >>> ((8 : Int32) &&& 31)))] _
    refine XS.iload X14.here hx rfl (hb hby at_77) rfl ?_
    show own_K p e below m T14 79 #[iv p1, iv p2, iv p3, iv p4, iv p5, iv (p1 >>> ((8 : Int32) &&& 31)), iv v5, iv p3, iv v11, .val (.float (FP.i2f (p1 >>> ((8 : Int32) &&& 31)))), .val (.float (FP.i2f v5)), .val (.double (FP.i2d p3)), .second, .val (.double (FP.i2d v11)), .second, iv xr, .unset, .unset, .unset, .unset] [(.int p3), (.int (p1 >>> ((8 : Int32) &&& 31)))] _
    refine st17 _ ?_
    exact k
  obtain ⟨xk1, hxk1⟩ : ∃ z : Int64, z = ((((p1 >>> ((8 : Int32) &&& 31)).toInt64) <<< ((32 : Int32) &&& 0x3f).toInt64) + ((p3.toInt64) - (-2147483648 : Int64))) := ⟨_, rfl⟩
  have pre19 : ∀ t, own_K p e below m T17 82 #[iv p1, iv p2, iv p3, iv p4, iv p5, iv (p1 >>> ((8 : Int32) &&& 31)), iv v5, iv p3, iv v11, .val (.float (FP.i2f (p1 >>> ((8 : Int32) &&& 31)))), .val (.float (FP.i2f v5)), .val (.double (FP.i2d p3)), .second, .val (.double (FP.i2d v11)), .second, iv xr, .unset, .unset, .unset, .unset] [(.long xk1)] t → G t := fun t k => pre18 t (by rw [hxk1] at k; exact k)
  obtain ⟨_, _, ⟨T20, L20, k20, n20⟩, -, X20, ⟨Lc20, hQ20, l20, y20, z20⟩, st20⟩ := Jvm.LawKit.callS X17 hx (y := (⟨"com/example/tiercast/tiercast/protocol/KnotsComparePinLaw", "key", "(II)J"⟩ : MethodName)) hown (mvT hZ (hw _ (List.mem_of_getElem? (i := 4) rfl))) (mvT hZ (hw _ (List.mem_of_getElem? (i := 5) rfl))) (mvT hZ (hw _ (List.mem_of_getElem? (i := 6) rfl))) (mvT hZ (hw _ (List.mem_of_getElem? (i := 7) rfl))) (by decide) (backOf (W := 0) (rm2 l Z a0 hw [] v5 v11 h0 n0 Z0 ) hZ (hw _ (List.mem_of_getElem? (i := 7) rfl)) (hw _ (List.mem_of_getElem? (i := 6) rfl)) (by decide) (by decide)) (g := (mkF m 88 #[iv p1, iv p2, iv p3, iv p4, iv p5, iv (p1 >>> ((8 : Int32) &&& 31)), iv v5, iv p3, iv v11, .val (.float (FP.i2f (p1 >>> ((8 : Int32) &&& 31)))), .val (.float (FP.i2f v5)), .val (.double (FP.i2d p3)), .second, .val (.double (FP.i2d v11)), .second, iv xr, lv xk1, .second, .unset, .unset] [(.int v11), (.int v5)])) rfl (by rw [hml]; rfl) (argsL := [(.int v5), (.int v11)]) (rest := []) (lenOf pd_1 rfl) rfl (by show 2 * 0 + _ ≤ _; exact Nat.le_of_eq rfl) (hb hby at_88) (fun _ _ => ⟨rfl, eh17, (by decide : 0 + 0 ≤ _), (by decide : 0 + 0 ≤ _)⟩)
  dsimp only [Pt.U, Pt.locs, Pt.cells, Pt.slots] at X20 l20 y20 z20 st20 hQ20
  subst l20 y20 z20
  obtain ⟨rfl, Nq20, eh20⟩ := hQ20
  have N20 := Fr.app N17 Nq20
  have pre21 : ∀ t, own_K p e below m T20 91 #[iv p1, iv p2, iv p3, iv p4, iv p5, iv (p1 >>> ((8 : Int32) &&& 31)), iv v5, iv p3, iv v11, .val (.float (FP.i2f (p1 >>> ((8 : Int32) &&& 31)))), .val (.float (FP.i2f v5)), .val (.double (FP.i2d p3)), .second, .val (.double (FP.i2d v11)), .second, iv xr, lv xk1, .second, .unset, .unset] [(.long (((v5.toInt64) <<< ((32 : Int32) &&& 0x3f).toInt64) + ((v11.toInt64) - (-2147483648 : Int64))))] t → G t := by
    intro t k
    refine pre19 t ?_
    show own_K p e below m T17 82 #[iv p1, iv p2, iv p3, iv p4, iv p5, iv (p1 >>> ((8 : Int32) &&& 31)), iv v5, iv p3, iv v11, .val (.float (FP.i2f (p1 >>> ((8 : Int32) &&& 31)))), .val (.float (FP.i2f v5)), .val (.double (FP.i2d p3)), .second, .val (.double (FP.i2d v11)), .second, iv xr, .unset, .unset, .unset, .unset] [(.long xk1)] _
    refine XS.lstore X17.here hx rfl (hb hby at_82) rfl (l' := #[iv p1, iv p2, iv p3, iv p4, iv p5, iv (p1 >>> ((8 : Int32) &&& 31)), iv v5, iv p3, iv v11, .val (.float (FP.i2f (p1 >>> ((8 : Int32) &&& 31)))), .val (.float (FP.i2f v5)), .val (.double (FP.i2d p3)), .second, .val (.double (FP.i2d v11)), .second, iv xr, lv xk1, .second, .unset, .unset]) rfl ?_
    show own_K p e below m T17 84 #[iv p1, iv p2, iv p3, iv p4, iv p5, iv (p1 >>> ((8 : Int32) &&& 31)), iv v5, iv p3, iv v11, .val (.float (FP.i2f (p1 >>> ((8 : Int32) &&& 31)))), .val (.float (FP.i2f v5)), .val (.double (FP.i2d p3)), .second, .val (.double (FP.i2d v11)), .second, iv xr, lv xk1, .second, .unset, .unset] [] _
    refine XS.iload X17.here hx rfl (hb hby at_84) rfl ?_
    show own_K p e below m T17 86 #[iv p1, iv p2, iv p3, iv p4, iv p5, iv (p1 >>> ((8 : Int32) &&& 31)), iv v5, iv p3, iv v11, .val (.float (FP.i2f (p1 >>> ((8 : Int32) &&& 31)))), .val (.float (FP.i2f v5)), .val (.double (FP.i2d p3)), .second, .val (.double (FP.i2d v11)), .second, iv xr, lv xk1, .second, .unset, .unset] [(.int v5)] _
    refine XS.iload X17.here hx rfl (hb hby at_86) rfl ?_
    show own_K p e below m T17 88 #[iv p1, iv p2, iv p3, iv p4, iv p5, iv (p1 >>> ((8 : Int32) &&& 31)), iv v5, iv p3, iv v11, .val (.float (FP.i2f (p1 >>> ((8 : Int32) &&& 31)))), .val (.float (FP.i2f v5)), .val (.double (FP.i2d p3)), .second, .val (.double (FP.i2d v11)), .second, iv xr, lv xk1, .second, .unset, .unset] [(.int v11), (.int v5)] _
    refine st20 _ ?_
    exact k
  obtain ⟨xk2, hxk2⟩ : ∃ z : Int64, z = (((v5.toInt64) <<< ((32 : Int32) &&& 0x3f).toInt64) + ((v11.toInt64) - (-2147483648 : Int64))) := ⟨_, rfl⟩
  have pre22 : ∀ t, own_K p e below m T20 91 #[iv p1, iv p2, iv p3, iv p4, iv p5, iv (p1 >>> ((8 : Int32) &&& 31)), iv v5, iv p3, iv v11, .val (.float (FP.i2f (p1 >>> ((8 : Int32) &&& 31)))), .val (.float (FP.i2f v5)), .val (.double (FP.i2d p3)), .second, .val (.double (FP.i2d v11)), .second, iv xr, lv xk1, .second, .unset, .unset] [(.long xk2)] t → G t := fun t k => pre21 t (by rw [hxk2] at k; exact k)
  have pre23 : ∀ t, own_K p e below m T20 93 #[iv p1, iv p2, iv p3, iv p4, iv p5, iv (p1 >>> ((8 : Int32) &&& 31)), iv v5, iv p3, iv v11, .val (.float (FP.i2f (p1 >>> ((8 : Int32) &&& 31)))), .val (.float (FP.i2f v5)), .val (.double (FP.i2d p3)), .second, .val (.double (FP.i2d v11)), .second, iv xr, lv xk1, .second, lv xk2, .second] [] t → G t := by
    intro t k
    refine pre22 t ?_
    show own_K p e below m T20 91 #[iv p1, iv p2, iv p3, iv p4, iv p5, iv (p1 >>> ((8 : Int32) &&& 31)), iv v5, iv p3, iv v11, .val (.float (FP.i2f (p1 >>> ((8 : Int32) &&& 31)))), .val (.float (FP.i2f v5)), .val (.double (FP.i2d p3)), .second, .val (.double (FP.i2d v11)), .second, iv xr, lv xk1, .second, .unset, .unset] [(.long xk2)] _
    refine XS.lstore X20.here hx rfl (hb hby at_91) rfl (l' := #[iv p1, iv p2, iv p3, iv p4, iv p5, iv (p1 >>> ((8 : Int32) &&& 31)), iv v5, iv p3, iv v11, .val (.float (FP.i2f (p1 >>> ((8 : Int32) &&& 31)))), .val (.float (FP.i2f v5)), .val (.double (FP.i2d p3)), .second, .val (.double (FP.i2d v11)), .second, iv xr, lv xk1, .second, lv xk2, .second]) rfl ?_
    exact k
  have hK := own_key (p1 >>> ((8 : Int32) &&& 31)) v5 p3 v11 hp1 hp2 xr xk1 xk2 hxr hxk1 hxk2
  have pre24 : ∀ t, own_K p e below m T20 95 #[iv p1, iv p2, iv p3, iv p4, iv p5, iv (p1 >>> ((8 : Int32) &&& 31)), iv v5, iv p3, iv v11, .val (.float (FP.i2f (p1 >>> ((8 : Int32) &&& 31)))), .val (.float (FP.i2f v5)), .val (.double (FP.i2d p3)), .second, .val (.double (FP.i2d v11)), .second, iv xr, lv xk1, .second, lv xk2, .second] [(.int xr)] t → G t := by
    intro t k
    refine pre23 t ?_
    show own_K p e below m T20 93 #[iv p1, iv p2, iv p3, iv p4, iv p5, iv (p1 >>> ((8 : Int32) &&& 31)), iv v5, iv p3, iv v11, .val (.float (FP.i2f (p1 >>> ((8 : Int32) &&& 31)))), .val (.float (FP.i2f v5)), .val (.double (FP.i2d p3)), .second, .val (.double (FP.i2d v11)), .second, iv xr, lv xk1, .second, lv xk2, .second] [] _
    refine XS.iload X20.here hx rfl (hb hby at_93) rfl ?_
    exact k
  obtain ⟨v28, hv28⟩ : ∃ z : Int32, z = (if xr < (0 : Int32) then (1 : Int32) else (0 : Int32)) := ⟨_, rfl⟩
  have pre29 : ∀ t, own_K p e below m T20 103 #[iv p1, iv p2, iv p3, iv p4, iv p5, iv (p1 >>> ((8 : Int32) &&& 31)), iv v5, iv p3, iv v11, .val (.float (FP.i2f (p1 >>> ((8 : Int32) &&& 31)))), .val (.float (FP.i2f v5)), .val (.double (FP.i2d p3)), .second, .val (.double (FP.i2d v11)), .second, iv xr, lv xk1, .second, lv xk2, .second] [(.int v28)] t → G t := by
    by_cases hc95_25 : xr < (0 : Int32)
    · have pre26 : ∀ t, own_K p e below m T20 103 #[iv p1, iv p2, iv p3, iv p4, iv p5, iv (p1 >>> ((8 : Int32) &&& 31)), iv v5, iv p3, iv v11, .val (.float (FP.i2f (p1 >>> ((8 : Int32) &&& 31)))), .val (.float (FP.i2f v5)), .val (.double (FP.i2d p3)), .second, .val (.double (FP.i2d v11)), .second, iv xr, lv xk1, .second, lv xk2, .second] [(.int (1 : Int32))] t → G t := by
        intro t k
        refine pre24 t ?_
        show own_K p e below m T20 95 #[iv p1, iv p2, iv p3, iv p4, iv p5, iv (p1 >>> ((8 : Int32) &&& 31)), iv v5, iv p3, iv v11, .val (.float (FP.i2f (p1 >>> ((8 : Int32) &&& 31)))), .val (.float (FP.i2f v5)), .val (.double (FP.i2d p3)), .second, .val (.double (FP.i2d v11)), .second, iv xr, lv xk1, .second, lv xk2, .second] [(.int xr)] _
        refine XS.ifNo X20.here hx rfl (hb hby at_95) rfl ((if0 _ _).trans (tlt hc95_25).2.1) ?_
        show own_K p e below m T20 98 #[iv p1, iv p2, iv p3, iv p4, iv p5, iv (p1 >>> ((8 : Int32) &&& 31)), iv v5, iv p3, iv v11, .val (.float (FP.i2f (p1 >>> ((8 : Int32) &&& 31)))), .val (.float (FP.i2f v5)), .val (.double (FP.i2d p3)), .second, .val (.double (FP.i2d v11)), .second, iv xr, lv xk1, .second, lv xk2, .second] [] _
        refine XS.iconst X20.here hx rfl (hb hby at_98) ?_
        show own_K p e below m T20 99 #[iv p1, iv p2, iv p3, iv p4, iv p5, iv (p1 >>> ((8 : Int32) &&& 31)), iv v5, iv p3, iv v11, .val (.float (FP.i2f (p1 >>> ((8 : Int32) &&& 31)))), .val (.float (FP.i2f v5)), .val (.double (FP.i2d p3)), .second, .val (.double (FP.i2d v11)), .second, iv xr, lv xk1, .second, lv xk2, .second] [(.int (1 : Int32))] _
        refine XS.goto X20.here hx rfl (pc0 := 99) (pc' := 103) rfl (hb hby at_99) (by decide) (by decide) ?_
        exact k
      have hq := True.intro
      obtain rfl : v28 = (1 : Int32) := by simp only [hv28, if_pos hc95_25]
      exact fun t k => pre26 t k
    · have pre27 : ∀ t, own_K p e below m T20 103 #[iv p1, iv p2, iv p3, iv p4, iv p5, iv (p1 >>> ((8 : Int32) &&& 31)), iv v5, iv p3, iv v11, .val (.float (FP.i2f (p1 >>> ((8 : Int32) &&& 31)))), .val (.float (FP.i2f v5)), .val (.double (FP.i2d p3)), .second, .val (.double (FP.i2d v11)), .second, iv xr, lv xk1, .second, lv xk2, .second] [(.int (0 : Int32))] t → G t := by
        intro t k
        refine pre24 t ?_
        show own_K p e below m T20 95 #[iv p1, iv p2, iv p3, iv p4, iv p5, iv (p1 >>> ((8 : Int32) &&& 31)), iv v5, iv p3, iv v11, .val (.float (FP.i2f (p1 >>> ((8 : Int32) &&& 31)))), .val (.float (FP.i2f v5)), .val (.double (FP.i2d p3)), .second, .val (.double (FP.i2d v11)), .second, iv xr, lv xk1, .second, lv xk2, .second] [(.int xr)] _
        refine XS.ifYes X20.here hx rfl (pc0 := 95) (pc' := 102) rfl (hb hby at_95) rfl ((if0 _ _).trans (flt hc95_25).2.1) (by decide) (by decide) ?_
        show own_K p e below m T20 102 #[iv p1, iv p2, iv p3, iv p4, iv p5, iv (p1 >>> ((8 : Int32) &&& 31)), iv v5, iv p3, iv v11, .val (.float (FP.i2f (p1 >>> ((8 : Int32) &&& 31)))), .val (.float (FP.i2f v5)), .val (.double (FP.i2d p3)), .second, .val (.double (FP.i2d v11)), .second, iv xr, lv xk1, .second, lv xk2, .second] [] _
        refine XS.iconst X20.here hx rfl (hb hby at_102) ?_
        exact k
      have hq := True.intro
      obtain rfl : v28 = (0 : Int32) := by simp only [hv28, if_neg hc95_25]
      exact fun t k => pre27 t k
  have pre30 : ∀ t, own_K p e below m T20 108 #[iv p1, iv p2, iv p3, iv p4, iv p5, iv (p1 >>> ((8 : Int32) &&& 31)), iv v5, iv p3, iv v11, .val (.float (FP.i2f (p1 >>> ((8 : Int32) &&& 31)))), .val (.float (FP.i2f v5)), .val (.double (FP.i2d p3)), .second, .val (.double (FP.i2d v11)), .second, iv xr, lv xk1, .second, lv xk2, .second] [(.int (lcmpW xk1 xk2)), (.int v28)] t → G t := by
    intro t k
    refine pre29 t ?_
    show own_K p e below m T20 103 #[iv p1, iv p2, iv p3, iv p4, iv p5, iv (p1 >>> ((8 : Int32) &&& 31)), iv v5, iv p3, iv v11, .val (.float (FP.i2f (p1 >>> ((8 : Int32) &&& 31)))), .val (.float (FP.i2f v5)), .val (.double (FP.i2d p3)), .second, .val (.double (FP.i2d v11)), .second, iv xr, lv xk1, .second, lv xk2, .second] [(.int v28)] _
    refine XS.lload X20.here hx rfl (hb hby at_103) rfl ?_
    show own_K p e below m T20 105 #[iv p1, iv p2, iv p3, iv p4, iv p5, iv (p1 >>> ((8 : Int32) &&& 31)), iv v5, iv p3, iv v11, .val (.float (FP.i2f (p1 >>> ((8 : Int32) &&& 31)))), .val (.float (FP.i2f v5)), .val (.double (FP.i2d p3)), .second, .val (.double (FP.i2d v11)), .second, iv xr, lv xk1, .second, lv xk2, .second] [(.long xk1), (.int v28)] _
    refine XS.lload X20.here hx rfl (hb hby at_105) rfl ?_
    show own_K p e below m T20 107 #[iv p1, iv p2, iv p3, iv p4, iv p5, iv (p1 >>> ((8 : Int32) &&& 31)), iv v5, iv p3, iv v11, .val (.float (FP.i2f (p1 >>> ((8 : Int32) &&& 31)))), .val (.float (FP.i2f v5)), .val (.double (FP.i2d p3)), .second, .val (.double (FP.i2d v11)), .second, iv xr, lv xk1, .second, lv xk2, .second] [(.long xk2), (.long xk1), (.int v28)] _
    refine XS.lcmp X20.here hx rfl (hb hby at_107) rfl ?_
    exact k
  obtain ⟨v34, hv34⟩ : ∃ z : Int32, z = (if xk1 < xk2 then (1 : Int32) else (0 : Int32)) := ⟨_, rfl⟩
  have pre35 : ∀ t, own_K p e below m T20 116 #[iv p1, iv p2, iv p3, iv p4, iv p5, iv (p1 >>> ((8 : Int32) &&& 31)), iv v5, iv p3, iv v11, .val (.float (FP.i2f (p1 >>> ((8 : Int32) &&& 31)))), .val (.float (FP.i2f v5)), .val (.double (FP.i2d p3)), .second, .val (.double (FP.i2d v11)), .second, iv xr, lv xk1, .second, lv xk2, .second] [(.int v34), (.int v28)] t → G t := by
    by_cases hc108_31 : xk1 < xk2
    · have pre32 : ∀ t, own_K p e below m T20 116 #[iv p1, iv p2, iv p3, iv p4, iv p5, iv (p1 >>> ((8 : Int32) &&& 31)), iv v5, iv p3, iv v11, .val (.float (FP.i2f (p1 >>> ((8 : Int32) &&& 31)))), .val (.float (FP.i2f v5)), .val (.double (FP.i2d p3)), .second, .val (.double (FP.i2d v11)), .second, iv xr, lv xk1, .second, lv xk2, .second] [(.int (1 : Int32)), (.int v28)] t → G t := by
        intro t k
        refine pre30 t ?_
        show own_K p e below m T20 108 #[iv p1, iv p2, iv p3, iv p4, iv p5, iv (p1 >>> ((8 : Int32) &&& 31)), iv v5, iv p3, iv v11, .val (.float (FP.i2f (p1 >>> ((8 : Int32) &&& 31)))), .val (.float (FP.i2f v5)), .val (.double (FP.i2d p3)), .second, .val (.double (FP.i2d v11)), .second, iv xr, lv xk1, .second, lv xk2, .second] [(.int (lcmpW xk1 xk2)), (.int v28)] _
        refine XS.ifNo X20.here hx rfl (hb hby at_108) rfl ((if0 _ _).trans (tlt ((lw_lt _ _).mpr hc108_31)).2.1) ?_
        show own_K p e below m T20 111 #[iv p1, iv p2, iv p3, iv p4, iv p5, iv (p1 >>> ((8 : Int32) &&& 31)), iv v5, iv p3, iv v11, .val (.float (FP.i2f (p1 >>> ((8 : Int32) &&& 31)))), .val (.float (FP.i2f v5)), .val (.double (FP.i2d p3)), .second, .val (.double (FP.i2d v11)), .second, iv xr, lv xk1, .second, lv xk2, .second] [(.int v28)] _
        refine XS.iconst X20.here hx rfl (hb hby at_111) ?_
        show own_K p e below m T20 112 #[iv p1, iv p2, iv p3, iv p4, iv p5, iv (p1 >>> ((8 : Int32) &&& 31)), iv v5, iv p3, iv v11, .val (.float (FP.i2f (p1 >>> ((8 : Int32) &&& 31)))), .val (.float (FP.i2f v5)), .val (.double (FP.i2d p3)), .second, .val (.double (FP.i2d v11)), .second, iv xr, lv xk1, .second, lv xk2, .second] [(.int (1 : Int32)), (.int v28)] _
        refine XS.goto X20.here hx rfl (pc0 := 112) (pc' := 116) rfl (hb hby at_112) (by decide) (by decide) ?_
        exact k
      have hq := True.intro
      obtain rfl : v34 = (1 : Int32) := by simp only [hv34, if_pos hc108_31]
      exact fun t k => pre32 t k
    · have pre33 : ∀ t, own_K p e below m T20 116 #[iv p1, iv p2, iv p3, iv p4, iv p5, iv (p1 >>> ((8 : Int32) &&& 31)), iv v5, iv p3, iv v11, .val (.float (FP.i2f (p1 >>> ((8 : Int32) &&& 31)))), .val (.float (FP.i2f v5)), .val (.double (FP.i2d p3)), .second, .val (.double (FP.i2d v11)), .second, iv xr, lv xk1, .second, lv xk2, .second] [(.int (0 : Int32)), (.int v28)] t → G t := by
        intro t k
        refine pre30 t ?_
        show own_K p e below m T20 108 #[iv p1, iv p2, iv p3, iv p4, iv p5, iv (p1 >>> ((8 : Int32) &&& 31)), iv v5, iv p3, iv v11, .val (.float (FP.i2f (p1 >>> ((8 : Int32) &&& 31)))), .val (.float (FP.i2f v5)), .val (.double (FP.i2d p3)), .second, .val (.double (FP.i2d v11)), .second, iv xr, lv xk1, .second, lv xk2, .second] [(.int (lcmpW xk1 xk2)), (.int v28)] _
        refine XS.ifYes X20.here hx rfl (pc0 := 108) (pc' := 115) rfl (hb hby at_108) rfl ((if0 _ _).trans (flt (mt (lw_lt _ _).mp hc108_31)).2.1) (by decide) (by decide) ?_
        show own_K p e below m T20 115 #[iv p1, iv p2, iv p3, iv p4, iv p5, iv (p1 >>> ((8 : Int32) &&& 31)), iv v5, iv p3, iv v11, .val (.float (FP.i2f (p1 >>> ((8 : Int32) &&& 31)))), .val (.float (FP.i2f v5)), .val (.double (FP.i2d p3)), .second, .val (.double (FP.i2d v11)), .second, iv xr, lv xk1, .second, lv xk2, .second] [(.int v28)] _
        refine XS.iconst X20.here hx rfl (hb hby at_115) ?_
        exact k
      have hq := True.intro
      obtain rfl : v34 = (0 : Int32) := by simp only [hv34, if_neg hc108_31]
      exact fun t k => pre33 t k
  have pre36 : ∀ t, own_K p e below m T20 121 #[iv p1, iv p2, iv p3, iv p4, iv p5, iv (p1 >>> ((8 : Int32) &&& 31)), iv v5, iv p3, iv v11, .val (.float (FP.i2f (p1 >>> ((8 : Int32) &&& 31)))), .val (.float (FP.i2f v5)), .val (.double (FP.i2d p3)), .second, .val (.double (FP.i2d v11)), .second, iv xr, lv xk1, .second, lv xk2, .second] [(.int xr)] t → G t := by
    intro t k
    refine pre35 t ?_
    show own_K p e below m T20 116 #[iv p1, iv p2, iv p3, iv p4, iv p5, iv (p1 >>> ((8 : Int32) &&& 31)), iv v5, iv p3, iv v11, .val (.float (FP.i2f (p1 >>> ((8 : Int32) &&& 31)))), .val (.float (FP.i2f v5)), .val (.double (FP.i2d p3)), .second, .val (.double (FP.i2d v11)), .second, iv xr, lv xk1, .second, lv xk2, .second] [(.int v34), (.int v28)] _
    refine XS.icmpNo X20.here hx rfl (hb hby at_116) rfl (teq (by rw [hv28, hv34]; exact own_ite hK.1)).2 ?_
    show own_K p e below m T20 119 #[iv p1, iv p2, iv p3, iv p4, iv p5, iv (p1 >>> ((8 : Int32) &&& 31)), iv v5, iv p3, iv v11, .val (.float (FP.i2f (p1 >>> ((8 : Int32) &&& 31)))), .val (.float (FP.i2f v5)), .val (.double (FP.i2d p3)), .second, .val (.double (FP.i2d v11)), .second, iv xr, lv xk1, .second, lv xk2, .second] [] _
    refine XS.iload X20.here hx rfl (hb hby at_119) rfl ?_
    exact k
  obtain ⟨v40, hv40⟩ : ∃ z : Int32, z = (if xr = (0 : Int32) then (1 : Int32) else (0 : Int32)) := ⟨_, rfl⟩
  have pre41 : ∀ t, own_K p e below m T20 129 #[iv p1, iv p2, iv p3, iv p4, iv p5, iv (p1 >>> ((8 : Int32) &&& 31)), iv v5, iv p3, iv v11, .val (.float (FP.i2f (p1 >>> ((8 : Int32) &&& 31)))), .val (.float (FP.i2f v5)), .val (.double (FP.i2d p3)), .second, .val (.double (FP.i2d v11)), .second, iv xr, lv xk1, .second, lv xk2, .second] [(.int v40)] t → G t := by
    by_cases hc121_37 : xr = (0 : Int32)
    · have pre38 : ∀ t, own_K p e below m T20 129 #[iv p1, iv p2, iv p3, iv p4, iv p5, iv (p1 >>> ((8 : Int32) &&& 31)), iv v5, iv p3, iv v11, .val (.float (FP.i2f (p1 >>> ((8 : Int32) &&& 31)))), .val (.float (FP.i2f v5)), .val (.double (FP.i2d p3)), .second, .val (.double (FP.i2d v11)), .second, iv xr, lv xk1, .second, lv xk2, .second] [(.int (1 : Int32))] t → G t := by
        intro t k
        refine pre36 t ?_
        show own_K p e below m T20 121 #[iv p1, iv p2, iv p3, iv p4, iv p5, iv (p1 >>> ((8 : Int32) &&& 31)), iv v5, iv p3, iv v11, .val (.float (FP.i2f (p1 >>> ((8 : Int32) &&& 31)))), .val (.float (FP.i2f v5)), .val (.double (FP.i2d p3)), .second, .val (.double (FP.i2d v11)), .second, iv xr, lv xk1, .second, lv xk2, .second] [(.int xr)] _
        refine XS.ifNo X20.here hx rfl (hb hby at_121) rfl ((if0 _ _).trans (teq hc121_37).2) ?_
        show own_K p e below m T20 124 #[iv p1, iv p2, iv p3, iv p4, iv p5, iv (p1 >>> ((8 : Int32) &&& 31)), iv v5, iv p3, iv v11, .val (.float (FP.i2f (p1 >>> ((8 : Int32) &&& 31)))), .val (.float (FP.i2f v5)), .val (.double (FP.i2d p3)), .second, .val (.double (FP.i2d v11)), .second, iv xr, lv xk1, .second, lv xk2, .second] [] _
        refine XS.iconst X20.here hx rfl (hb hby at_124) ?_
        show own_K p e below m T20 125 #[iv p1, iv p2, iv p3, iv p4, iv p5, iv (p1 >>> ((8 : Int32) &&& 31)), iv v5, iv p3, iv v11, .val (.float (FP.i2f (p1 >>> ((8 : Int32) &&& 31)))), .val (.float (FP.i2f v5)), .val (.double (FP.i2d p3)), .second, .val (.double (FP.i2d v11)), .second, iv xr, lv xk1, .second, lv xk2, .second] [(.int (1 : Int32))] _
        refine XS.goto X20.here hx rfl (pc0 := 125) (pc' := 129) rfl (hb hby at_125) (by decide) (by decide) ?_
        exact k
      have hq := True.intro
      obtain rfl : v40 = (1 : Int32) := by simp only [hv40, if_pos hc121_37]
      exact fun t k => pre38 t k
    · have pre39 : ∀ t, own_K p e below m T20 129 #[iv p1, iv p2, iv p3, iv p4, iv p5, iv (p1 >>> ((8 : Int32) &&& 31)), iv v5, iv p3, iv v11, .val (.float (FP.i2f (p1 >>> ((8 : Int32) &&& 31)))), .val (.float (FP.i2f v5)), .val (.double (FP.i2d p3)), .second, .val (.double (FP.i2d v11)), .second, iv xr, lv xk1, .second, lv xk2, .second] [(.int (0 : Int32))] t → G t := by
        intro t k
        refine pre36 t ?_
        show own_K p e below m T20 121 #[iv p1, iv p2, iv p3, iv p4, iv p5, iv (p1 >>> ((8 : Int32) &&& 31)), iv v5, iv p3, iv v11, .val (.float (FP.i2f (p1 >>> ((8 : Int32) &&& 31)))), .val (.float (FP.i2f v5)), .val (.double (FP.i2d p3)), .second, .val (.double (FP.i2d v11)), .second, iv xr, lv xk1, .second, lv xk2, .second] [(.int xr)] _
        refine XS.ifYes X20.here hx rfl (pc0 := 121) (pc' := 128) rfl (hb hby at_121) rfl ((if0 _ _).trans (feq hc121_37).2) (by decide) (by decide) ?_
        show own_K p e below m T20 128 #[iv p1, iv p2, iv p3, iv p4, iv p5, iv (p1 >>> ((8 : Int32) &&& 31)), iv v5, iv p3, iv v11, .val (.float (FP.i2f (p1 >>> ((8 : Int32) &&& 31)))), .val (.float (FP.i2f v5)), .val (.double (FP.i2d p3)), .second, .val (.double (FP.i2d v11)), .second, iv xr, lv xk1, .second, lv xk2, .second] [] _
        refine XS.iconst X20.here hx rfl (hb hby at_128) ?_
        exact k
      have hq := True.intro
      obtain rfl : v40 = (0 : Int32) := by simp only [hv40, if_neg hc121_37]
      exact fun t k => pre39 t k
  have pre42 : ∀ t, own_K p e below m T20 134 #[iv p1, iv p2, iv p3, iv p4, iv p5, iv (p1 >>> ((8 : Int32) &&& 31)), iv v5, iv p3, iv v11, .val (.float (FP.i2f (p1 >>> ((8 : Int32) &&& 31)))), .val (.float (FP.i2f v5)), .val (.double (FP.i2d p3)), .second, .val (.double (FP.i2d v11)), .second, iv xr, lv xk1, .second, lv xk2, .second] [(.int (lcmpW xk1 xk2)), (.int v40)] t → G t := by
    intro t k
    refine pre41 t ?_
    show own_K p e below m T20 129 #[iv p1, iv p2, iv p3, iv p4, iv p5, iv (p1 >>> ((8 : Int32) &&& 31)), iv v5, iv p3, iv v11, .val (.float (FP.i2f (p1 >>> ((8 : Int32) &&& 31)))), .val (.float (FP.i2f v5)), .val (.double (FP.i2d p3)), .second, .val (.double (FP.i2d v11)), .second, iv xr, lv xk1, .second, lv xk2, .second] [(.int v40)] _
    refine XS.lload X20.here hx rfl (hb hby at_129) rfl ?_
    show own_K p e below m T20 131 #[iv p1, iv p2, iv p3, iv p4, iv p5, iv (p1 >>> ((8 : Int32) &&& 31)), iv v5, iv p3, iv v11, .val (.float (FP.i2f (p1 >>> ((8 : Int32) &&& 31)))), .val (.float (FP.i2f v5)), .val (.double (FP.i2d p3)), .second, .val (.double (FP.i2d v11)), .second, iv xr, lv xk1, .second, lv xk2, .second] [(.long xk1), (.int v40)] _
    refine XS.lload X20.here hx rfl (hb hby at_131) rfl ?_
    show own_K p e below m T20 133 #[iv p1, iv p2, iv p3, iv p4, iv p5, iv (p1 >>> ((8 : Int32) &&& 31)), iv v5, iv p3, iv v11, .val (.float (FP.i2f (p1 >>> ((8 : Int32) &&& 31)))), .val (.float (FP.i2f v5)), .val (.double (FP.i2d p3)), .second, .val (.double (FP.i2d v11)), .second, iv xr, lv xk1, .second, lv xk2, .second] [(.long xk2), (.long xk1), (.int v40)] _
    refine XS.lcmp X20.here hx rfl (hb hby at_133) rfl ?_
    exact k
  obtain ⟨v46, hv46⟩ : ∃ z : Int32, z = (if xk1 = xk2 then (1 : Int32) else (0 : Int32)) := ⟨_, rfl⟩
  have pre47 : ∀ t, own_K p e below m T20 142 #[iv p1, iv p2, iv p3, iv p4, iv p5, iv (p1 >>> ((8 : Int32) &&& 31)), iv v5, iv p3, iv v11, .val (.float (FP.i2f (p1 >>> ((8 : Int32) &&& 31)))), .val (.float (FP.i2f v5)), .val (.double (FP.i2d p3)), .second, .val (.double (FP.i2d v11)), .second, iv xr, lv xk1, .second, lv xk2, .second] [(.int v46), (.int v40)] t → G t := by
    by_cases hc134_43 : xk1 = xk2
    · have pre44 : ∀ t, own_K p e below m T20 142 #[iv p1, iv p2, iv p3, iv p4, iv p5, iv (p1 >>> ((8 : Int32) &&& 31)), iv v5, iv p3, iv v11, .val (.float (FP.i2f (p1 >>> ((8 : Int32) &&& 31)))), .val (.float (FP.i2f v5)), .val (.double (FP.i2d p3)), .second, .val (.double (FP.i2d v11)), .second, iv xr, lv xk1, .second, lv xk2, .second] [(.int (1 : Int32)), (.int v40)] t → G t := by
        intro t k
        refine pre42 t ?_
        show own_K p e below m T20 134 #[iv p1, iv p2, iv p3, iv p4, iv p5, iv (p1 >>> ((8 : Int32) &&& 31)), iv v5, iv p3, iv v11, .val (.float (FP.i2f (p1 >>> ((8 : Int32) &&& 31)))), .val (.float (FP.i2f v5)), .val (.double (FP.i2d p3)), .second, .val (.double (FP.i2d v11)), .second, iv xr, lv xk1, .second, lv xk2, .second] [(.int (lcmpW xk1 xk2)), (.int v40)] _
        refine XS.ifNo X20.here hx rfl (hb hby at_134) rfl ((if0 _ _).trans (teq ((lw_eq _ _).mpr hc134_43)).2) ?_
        show own_K p e below m T20 137 #[iv p1, iv p2, iv p3, iv p4, iv p5, iv (p1 >>> ((8 : Int32) &&& 31)), iv v5, iv p3, iv v11, .val (.float (FP.i2f (p1 >>> ((8 : Int32) &&& 31)))), .val (.float (FP.i2f v5)), .val (.double (FP.i2d p3)), .second, .val (.double (FP.i2d v11)), .second, iv xr, lv xk1, .second, lv xk2, .second] [(.int v40)] _
        refine XS.iconst X20.here hx rfl (hb hby at_137) ?_
        show own_K p e below m T20 138 #[iv p1, iv p2, iv p3, iv p4, iv p5, iv (p1 >>> ((8 : Int32) &&& 31)), iv v5, iv p3, iv v11, .val (.float (FP.i2f (p1 >>> ((8 : Int32) &&& 31)))), .val (.float (FP.i2f v5)), .val (.double (FP.i2d p3)), .second, .val (.double (FP.i2d v11)), .second, iv xr, lv xk1, .second, lv xk2, .second] [(.int (1 : Int32)), (.int v40)] _
        refine XS.goto X20.here hx rfl (pc0 := 138) (pc' := 142) rfl (hb hby at_138) (by decide) (by decide) ?_
        exact k
      have hq := True.intro
      obtain rfl : v46 = (1 : Int32) := by simp only [hv46, if_pos hc134_43]
      exact fun t k => pre44 t k
    · have pre45 : ∀ t, own_K p e below m T20 142 #[iv p1, iv p2, iv p3, iv p4, iv p5, iv (p1 >>> ((8 : Int32) &&& 31)), iv v5, iv p3, iv v11, .val (.float (FP.i2f (p1 >>> ((8 : Int32) &&& 31)))), .val (.float (FP.i2f v5)), .val (.double (FP.i2d p3)), .second, .val (.double (FP.i2d v11)), .second, iv xr, lv xk1, .second, lv xk2, .second] [(.int (0 : Int32)), (.int v40)] t → G t := by
        intro t k
        refine pre42 t ?_
        show own_K p e below m T20 134 #[iv p1, iv p2, iv p3, iv p4, iv p5, iv (p1 >>> ((8 : Int32) &&& 31)), iv v5, iv p3, iv v11, .val (.float (FP.i2f (p1 >>> ((8 : Int32) &&& 31)))), .val (.float (FP.i2f v5)), .val (.double (FP.i2d p3)), .second, .val (.double (FP.i2d v11)), .second, iv xr, lv xk1, .second, lv xk2, .second] [(.int (lcmpW xk1 xk2)), (.int v40)] _
        refine XS.ifYes X20.here hx rfl (pc0 := 134) (pc' := 141) rfl (hb hby at_134) rfl ((if0 _ _).trans (feq (mt (lw_eq _ _).mp hc134_43)).2) (by decide) (by decide) ?_
        show own_K p e below m T20 141 #[iv p1, iv p2, iv p3, iv p4, iv p5, iv (p1 >>> ((8 : Int32) &&& 31)), iv v5, iv p3, iv v11, .val (.float (FP.i2f (p1 >>> ((8 : Int32) &&& 31)))), .val (.float (FP.i2f v5)), .val (.double (FP.i2d p3)), .second, .val (.double (FP.i2d v11)), .second, iv xr, lv xk1, .second, lv xk2, .second] [(.int v40)] _
        refine XS.iconst X20.here hx rfl (hb hby at_141) ?_
        exact k
      have hq := True.intro
      obtain rfl : v46 = (0 : Int32) := by simp only [hv46, if_neg hc134_43]
      exact fun t k => pre45 t k
  have pre48 : ∀ t, own_K p e below m T20 150 #[iv p1, iv p2, iv p3, iv p4, iv p5, iv (p1 >>> ((8 : Int32) &&& 31)), iv v5, iv p3, iv v11, .val (.float (FP.i2f (p1 >>> ((8 : Int32) &&& 31)))), .val (.float (FP.i2f v5)), .val (.double (FP.i2d p3)), .second, .val (.double (FP.i2d v11)), .second, iv xr, lv xk1, .second, lv xk2, .second] [(.int (1 : Int32))] t → G t := by
    intro t k
    refine pre47 t ?_
    show own_K p e below m T20 142 #[iv p1, iv p2, iv p3, iv p4, iv p5, iv (p1 >>> ((8 : Int32) &&& 31)), iv v5, iv p3, iv v11, .val (.float (FP.i2f (p1 >>> ((8 : Int32) &&& 31)))), .val (.float (FP.i2f v5)), .val (.double (FP.i2d p3)), .second, .val (.double (FP.i2d v11)), .second, iv xr, lv xk1, .second, lv xk2, .second] [(.int v46), (.int v40)] _
    refine XS.icmpNo X20.here hx rfl (hb hby at_142) rfl (teq (by rw [hv40, hv46]; exact own_ite hK.2)).2 ?_
    show own_K p e below m T20 145 #[iv p1, iv p2, iv p3, iv p4, iv p5, iv (p1 >>> ((8 : Int32) &&& 31)), iv v5, iv p3, iv v11, .val (.float (FP.i2f (p1 >>> ((8 : Int32) &&& 31)))), .val (.float (FP.i2f v5)), .val (.double (FP.i2d p3)), .second, .val (.double (FP.i2d v11)), .second, iv xr, lv xk1, .second, lv xk2, .second] [] _
    refine XS.iconst X20.here hx rfl (hb hby at_145) ?_
    show own_K p e below m T20 146 #[iv p1, iv p2, iv p3, iv p4, iv p5, iv (p1 >>> ((8 : Int32) &&& 31)), iv v5, iv p3, iv v11, .val (.float (FP.i2f (p1 >>> ((8 : Int32) &&& 31)))), .val (.float (FP.i2f v5)), .val (.double (FP.i2d p3)), .second, .val (.double (FP.i2d v11)), .second, iv xr, lv xk1, .second, lv xk2, .second] [(.int (1 : Int32))] _
    refine XS.goto X20.here hx rfl (pc0 := 146) (pc' := 150) rfl (hb hby at_146) (by decide) (by decide) ?_
    exact k
  obtain ⟨fs, hr, hrun, hended, hW, hsame⟩ := X20.leave (v := some (.int (1 : Int32))) (fun h => by rw [Bd.returns] at h; cases h)
  refine ⟨_, _, hG _ (pre48 _ ?_), hrun, hended, _, _, rfl, ?_, ⟨_, rfl⟩, hW, hsame.mono (by decide) (by decide)⟩
  · show own_K p e below m T20 150 #[iv p1, iv p2, iv p3, iv p4, iv p5, iv (p1 >>> ((8 : Int32) &&& 31)), iv v5, iv p3, iv v11, .val (.float (FP.i2f (p1 >>> ((8 : Int32) &&& 31)))), .val (.float (FP.i2f v5)), .val (.double (FP.i2d p3)), .second, .val (.double (FP.i2d v11)), .second, iv xr, lv xk1, .second, lv xk2, .second] [(.int (1 : Int32))] _
    exact retN X20 hx (t := .boolean) Bd.returns (by simp) (hb hby at_150) hr
  · show Q0 Z p1 p2 p3 p4 p5 h0 n0 _ T20.heap _
    rw [eh20]
    exact ⟨rfl, N20, rfl⟩
set_option maxRecDepth 65536 in
set_option maxHeartbeats 40000000 in
theorem comes_1 {Post : Tables → Env → Array Value → State → Outcome → State → Prop} (hpost : ∀ tb e args s v u, (limb_1_1.after args s (.returned v) u = true ∧ limb_1_2.after args s (.returned v) u = true ∧ True) → FrameEnd s (.returned v) u (Jvm.fieldLocs frame_1_writes args s ++ Jvm.arrayLocs frame_1_arrays args s ++ Jvm.staticLocs frame_1_statics s) 0 0 → Post tb e args s (.returned v) u) :
    ArmFor flags0 classFile x code maxLocals ret World_1 tables_1 room_1 Calls_1 rest_1 Pre_1 Post := by
  intro l hfl _ _ p e ha hc hk s m args below hf hA hF happ hP
  obtain ⟨hcalls, hrest, hpre⟩ := hP
  obtain ⟨-, -, -, hnamed, -, -, -, hat⟩ := (Spec.applies_iff hf).mp happ
  obtain ⟨hg, hn⟩ := and_e (Cond.before_iff.mp (show (Jvm.Cond.and given_1 narrow_1).before args s = true from hpre))
  obtain ⟨ga1, gb1⟩ := and_e hg
  obtain ⟨ga2, gb2⟩ := and_e gb1
  obtain ⟨ga3, gb3⟩ := and_e gb2
  obtain ⟨ga4, gb4⟩ := and_e gb3
  obtain ⟨ga5, gb5⟩ := and_e gb4
  obtain ⟨w0, w1, w2, w3, w4, rfl⟩ : ∃ w0 w1 w2 w3 w4 : Value, args = #[w0, w1, w2, w3, w4] := by
    have hs : args.size = 5 := by simpa [Cond.value, given_1] using ga1
    obtain ⟨L⟩ := args
    match L, hs with
    | [w0, w1, w2, w3, w4], _ => exact ⟨w0, w1, w2, w3, w4, rfl⟩
  have hw := fun d (hd : d ∈ tables_1) => atoms_spec (ws := Jvm.Cond.code x code maxLocals ret :: tables_1) hat d (List.mem_cons_of_mem _ hd)
  have hfit : Fit s := fun {y c} hc i hi => by
    obtain ⟨ha, rfl⟩ := Array.getElem?_eq_some_iff.mp hc
    have q := List.all_eq_true.mp ((Array.all_eq_true_iff_forall_mem.mp hF) _ (Array.getElem_mem ha)) i (List.mem_range.mpr hi)
    simpa [Array.getElem?_eq_getElem hi] using q
  obtain ⟨i0, ei0⟩ := is_v ga2
  obtain rfl : w0 = (.int i0) := Option.some.inj ei0
  obtain ⟨i1, ei1⟩ := is_v ga3
  obtain rfl : w1 = (.int i1) := Option.some.inj ei1
  obtain ⟨i2, ei2⟩ := is_v ga4
  obtain rfl : w2 = (.int i2) := Option.some.inj ei2
  obtain ⟨i3, ei3⟩ := is_v ga5
  obtain rfl : w3 = (.int i3) := Option.some.inj ei3
  obtain ⟨i4, ei4⟩ := is_v gb5
  obtain rfl : w4 = (.int i4) := Option.some.inj ei4
  obtain ⟨n, o, h1, h2, h3, _, L, rfl, ⟨rfl, N, _⟩, hq⟩ := rm0 l s _ hw tables_1 i0 i1 i2 i3 i4 s.heap s.heap.size (Nat.le_refl _) p e ha hc hk s m _ below hf ((Spec.applies_iff_loose hf).mp happ).1 ⟨rfl, State.Warmed39.refl s, rfl⟩ trivial
  refine ⟨n, _, h1, h2, h3, hpost _ _ _ _ _ _ ⟨Cond.after_iff.mpr rfl, Cond.after_iff.mpr (eq_i res_at (Term.int_eval (1)) rfl), trivial⟩ ⟨hq.1, hq.2.1, (hq.2.2.sift fun y hy => Or.inr (N y hy)).mono (by decide) (by decide)⟩⟩
theorem main_1_1 : Claimed_1_1 := comes_1 fun _ _ _ _ _ _ h hF => ⟨h.1, hF⟩
theorem main_1_2 : Claimed_1_2 := comes_1 fun _ _ _ _ _ _ h hF => ⟨h.2.1, hF⟩
end Jvm.Pilot.@@N@@
namespace Jvm.Pilot.@@N@@
open Jvm Jvm.ClassFile Sem Op Lib Jvm.Free Jvm.Stand Jvm.Pilot.@@N@@.Jvm.D
/-! MADE BY PROGRAM (witnessworld.py) out of the Statement's table words and the real class files: 9 classes; the members and pool entries that the words name. The judged class is class 1, her method 2. -/
namespace start1
open Jvm.ClassFile
def u (s : String) : CpInfo := .utf8 (stringToUtf16 s)
/-- a pool by its gaps: so many unusable entries, then the entry; so many at the end -/
def gap : Nat → List CpInfo → List CpInfo
  | 0, r => r
  | n + 1, r => .unusable :: gap n r
def poolList (es : List (Nat × CpInfo)) (last : Nat) : List CpInfo := es.foldr (fun e r => gap e.1 (e.2 :: r)) (gap last [])
def pool (es : List (Nat × CpInfo)) (last : Nat) : Array CpInfo := ⟨poolList es last⟩
def fileOf (pool : Array CpInfo) (this : Nat) (attrs : Array Attribute := #[]) (ms : Array MethodInfo := #[]) (fl : Nat := 33) (sup : Nat := 0) (ifs : Array Nat := #[]) (fds : Array FieldInfo := #[]) : ClassFile where
  minorVersion := 0
  majorVersion := 65
  constantPool := pool
  accessFlags := fl
  thisClass := this
  superClass := sup
  interfaces := ifs
  fields := fds
  methods := ms
  attributes := attrs
def plain (name : String) (sup : Option ClassId) : Class where
  name := name
  kind := .ordinary
  loader := none
  accessFlags := 33
  super := sup
  interfaces := #[]
  cf := none
  fields := #[]
  methods := #[]
  instanceTypes := #[]
  staticTypes := #[]
  resolved := #[]
  callSites := []
  init := .initialized
  statics := none
  mirror := none

def pool0 : Array CpInfo := pool [(5, u "<init>"), (0, u "()V"), (1, .class_ 10), (1, u "java/lang/Object")] 113

def k0m0 : Method := { name := "<init>", desc := "()V", sig := { parameters := [], returnType := none }, accessFlags := 1, code := none }
/-- java/lang/Object -/
def k0 : Class := { plain "java/lang/Object" none with
  accessFlags := 33
  interfaces := #[]
  cf := some (fileOf pool0 8 #[] #[{ accessFlags := 1, nameIndex := 5, descriptorIndex := 6, attributes := #[] }] 33 0 #[] #[])
  fields := #[]
  methods := #[k0m0]
  instanceTypes := #[]
  staticTypes := #[]
  resolved := Array.replicate 124 none
  statics := none }

def pool1 : Array CpInfo := pool [(2, .class_ 4), (1, u "java/lang/Object"), (0, u "<init>"), (0, u "()V"), (2, .long 18446744071562067968), (1, .methodref 12 13), (0, .class_ 14), (0, .nameAndType 15 16), (0, u "com/example/tiercast/tiercast/protocol/Knots"), (0, u "compare"), (0, u "(FDFD)I"), (0, .methodref 18 19), (0, .class_ 20), (0, .nameAndType 21 22), (0, u "com/example/tiercast/tiercast/protocol/KnotsComparePinLaw"), (0, u "key"), (0, u "(II)J"), (2, u "law"), (0, u "(IIIII)Z")] 3

def k1m0 : Method := { name := "<init>", desc := "()V", sig := { parameters := [], returnType := none }, accessFlags := 2, code := none }
def k1c1 : Code := { maxStack := 6, maxLocals := 2, code := method_2_code, exceptionTable := #[], attributes := #[] }
def k1m1 : Method := { name := "key", desc := "(II)J", sig := { parameters := [.int, .int], returnType := some .long }, accessFlags := 10, code := some k1c1 }
def k1c2 : Code := { maxStack := 6, maxLocals := 20, code := code, exceptionTable := #[], attributes := #[] }
def k1m2 : Method := { name := "law", desc := "(IIIII)Z", sig := { parameters := [.int, .int, .int, .int, .int], returnType := some .boolean }, accessFlags := 9, code := some k1c2 }
/-- com/example/tiercast/tiercast/protocol/KnotsComparePinLaw -/
def k1 : Class := { plain "com/example/tiercast/tiercast/protocol/KnotsComparePinLaw" (some 0) with
  accessFlags := 49
  interfaces := #[]
  cf := some (fileOf pool1 18 #[] #[{ accessFlags := 2, nameIndex := 5, descriptorIndex := 6, attributes := #[] }, { accessFlags := 10, nameIndex := 21, descriptorIndex := 22, attributes := #[] }, { accessFlags := 9, nameIndex := 25, descriptorIndex := 26, attributes := #[] }] 49 2 #[] #[])
  fields := #[]
  methods := #[k1m0, k1m1, k1m2]
  instanceTypes := #[]
  staticTypes := #[]
  resolved := Array.replicate 30 none
  statics := none }

def pool2 : Array CpInfo := pool [(2, .class_ 4), (1, u "com/example/tiercast/tiercast/protocol/Knots"), (4, u "places"), (0, u "[F"), (8, u "ties"), (0, u "[I"), (4, .class_ 27), (1, u "java/lang/Object"), (3, u "lowest"), (0, u "I"), (2, u "highest"), (2, u "weight"), (26, u "compare"), (0, u "(FDFD)I"), (2, u "SCRATCH"), (0, u "Ljava/lang/ThreadLocal;"), (6, .class_ 78), (0, u "com/example/tiercast/tiercast/protocol/Knots$Scratch"), (11, .class_ 92), (1, u "com/example/tiercast/tiercast/protocol/Knots$Curve"), (41, u "MOST_PLACE"), (0, u "F"), (8, u "NEGATIVE_ZERO"), (92, u "HEAVIEST"), (1, u "WEIGHT_POWER"), (0, u "D"), (0, u "TIE_STEPS")] 62

def k2c0 : Code := { maxStack := 4, maxLocals := 7, code := prog_70_method_4_code, exceptionTable := #[], attributes := #[] }
def k2m0 : Method := { name := "compare", desc := "(FDFD)I", sig := { parameters := [.float, .double, .float, .double], returnType := some .int }, accessFlags := 8, code := some k2c0 }
/-- com/example/tiercast/tiercast/protocol/Knots -/
def k2 : Class := { plain "com/example/tiercast/tiercast/protocol/Knots" (some 0) with
  accessFlags := 48
  interfaces := #[]
  cf := some (fileOf pool2 2 #[.nestMembers #[77, 90]] #[{ accessFlags := 8, nameIndex := 65, descriptorIndex := 66, attributes := #[] }] 48 25 #[] #[{ accessFlags := 24, nameIndex := 237, descriptorIndex := 32, attributes := #[] }, { accessFlags := 24, nameIndex := 239, descriptorIndex := 240, attributes := #[] }, { accessFlags := 26, nameIndex := 241, descriptorIndex := 32, attributes := #[] }, { accessFlags := 26, nameIndex := 134, descriptorIndex := 135, attributes := #[] }, { accessFlags := 26, nameIndex := 144, descriptorIndex := 32, attributes := #[] }, { accessFlags := 26, nameIndex := 69, descriptorIndex := 70, attributes := #[] }, { accessFlags := 16, nameIndex := 9, descriptorIndex := 10, attributes := #[] }, { accessFlags := 16, nameIndex := 19, descriptorIndex := 20, attributes := #[] }, { accessFlags := 0, nameIndex := 31, descriptorIndex := 32, attributes := #[] }, { accessFlags := 0, nameIndex := 35, descriptorIndex := 32, attributes := #[] }, { accessFlags := 0, nameIndex := 38, descriptorIndex := 32, attributes := #[] }])
  fields := #[{ name := "HEAVIEST", type := .int, accessFlags := 24, slot := 0, constantValue := 0 }, { name := "WEIGHT_POWER", type := .double, accessFlags := 24, slot := 1, constantValue := 0 }, { name := "TIE_STEPS", type := .int, accessFlags := 26, slot := 2, constantValue := 0 }, { name := "MOST_PLACE", type := .float, accessFlags := 26, slot := 3, constantValue := 0 }, { name := "NEGATIVE_ZERO", type := .int, accessFlags := 26, slot := 4, constantValue := 0 }, { name := "SCRATCH", type := (.object "java/lang/ThreadLocal"), accessFlags := 26, slot := 5, constantValue := 0 }, { name := "places", type := (.array .float), accessFlags := 16, slot := 0, constantValue := 0 }, { name := "ties", type := (.array .int), accessFlags := 16, slot := 1, constantValue := 0 }, { name := "lowest", type := .int, accessFlags := 0, slot := 2, constantValue := 0 }, { name := "highest", type := .int, accessFlags := 0, slot := 3, constantValue := 0 }, { name := "weight", type := .int, accessFlags := 0, slot := 4, constantValue := 0 }]
  methods := #[k2m0]
  instanceTypes := #[(.array .float), (.array .int), .int, .int, .int]
  staticTypes := #[.int, .double, .int, .float, .int, (.object "java/lang/ThreadLocal")]
  resolved := Array.replicate 304 none
  statics := none }

def pool3 : Array CpInfo := pool [(1, u "java/lang/Cloneable"), (0, .class_ 1), (0, u "java/lang/Object"), (0, .class_ 3)] 3

/-- java/lang/Cloneable -/
def k3 : Class := { plain "java/lang/Cloneable" (some 0) with
  accessFlags := 1537
  interfaces := #[]
  cf := some (fileOf pool3 2 #[] #[] 1537 4 #[] #[])
  fields := #[]
  methods := #[]
  instanceTypes := #[]
  staticTypes := #[]
  resolved := Array.replicate 8 none
  statics := none }

def pool4 : Array CpInfo := pool [(1, u "java/io/Serializable"), (0, .class_ 1), (0, u "java/lang/Object"), (0, .class_ 3)] 3

/-- java/io/Serializable -/
def k4 : Class := { plain "java/io/Serializable" (some 0) with
  accessFlags := 1537
  interfaces := #[]
  cf := some (fileOf pool4 2 #[] #[] 1537 4 #[] #[])
  fields := #[]
  methods := #[]
  instanceTypes := #[]
  staticTypes := #[]
  resolved := Array.replicate 8 none
  statics := none }

/-- the primitive byte -/
def k5 : Class := { plain "byte" none with kind := .primitive 'B', accessFlags := 0x411 }
/-- [B -/
def k6 : Class := { plain "[B" (some 0) with kind := .array 5 .byte, interfaces := #[3, 4], accessFlags := 1041 }

/-- the primitive int -/
def k7 : Class := { plain "int" none with kind := .primitive 'I', accessFlags := 0x411 }
/-- [I -/
def k8 : Class := { plain "[I" (some 0) with kind := .array 7 .int, interfaces := #[3, 4], accessFlags := 1041 }

def heap : Heap := #[]
def classes : Array Class := #[k0, k1, k2, k3, k4, k5, k6, k7, k8]
def interned : List (Array UInt16 × Addr) := []
def slotsUsed : Nat := 0
def theMethod : MethodId := ⟨1, 2⟩
def args0 : Array Value := #[.int 1000, .int 2000, .int 3, .int 4, .int 0]
def aboutOver (below : List Frame) : State where
  vm := { classes := classes, interned := interned.toArray }
  heap := heap
  slotsUsed := slotsUsed
  threads := #[{ frames := .invoking theMethod args0 :: below }]
def below0 : List Frame := [.native { method := ⟨0, 0⟩, args := #[] }]
def about1 : State := aboutOver below0
def p0 : Program := .bare "" "" ""
def e0 : Env := launch0.env 0 0 0
theorem w_frames : about1.frames = Frame.invoking theMethod args0 :: below0 := rfl
set_option maxRecDepth 65536 in
theorem w_args : argsFit about1.vm theMethod args0 = true := by decide +kernel
set_option maxRecDepth 65536 in
theorem w_heap : heapFits about1 = true := by decide +kernel
set_option maxRecDepth 65536 in
theorem w_runnable : about1.curStatus? = some .runnable := by decide +kernel
set_option maxRecDepth 65536 in
theorem w_alone : about1.alone = true := by decide +kernel
set_option maxRecDepth 65536 in
theorem w_named : about1.methodNamed? x = some theMethod := by decide +kernel
set_option maxRecDepth 65536 in
theorem w_hears : about1.hears theMethod below0 = true := by decide +kernel
set_option maxRecDepth 65536 in
theorem w_ripe : about1.ripe theMethod args0 below0 = true := by decide +kernel
theorem w_running : about1.status = .running := rfl
set_option maxRecDepth 65536 in
theorem w_room : about1.hasRoom e0.platform room_1 = true :=
  launch0.hasRoom_least _ room_1 (by decide +kernel) (by decide +kernel) (by decide +kernel) (by decide +kernel) (by decide +kernel) (by decide +kernel)
theorem allAtoms_all (ts : List Jvm.Cond) (a : Array Jvm.Value) (st : Jvm.State) : (allAtoms ts).before a st = ts.all (fun c => c.before a st) := by
  induction ts with
  | nil => rfl
  | cons c t ih =>
    show (Jvm.Cond.and c (allAtoms t)).before a st = _
    rw [Jvm.Cond.before_and, ih, List.all_cons]
def words1 : List Jvm.Cond := Jvm.Cond.code x code maxLocals ret :: tables_1
/-- a 'code' word, met by the world's own term for the bytes: nothing is compared byte by byte -/
theorem code_word {y : MethodName} {bytes : ByteArray} {mx : Nat} {rt : Option FieldType} {a : Array Value} {s : State} {m : MethodId} {meth : Method} {c : Code} (h1 : s.methodNamed? y = some m) (h2 : s.vm.method? m = some meth) (h3 : meth.code = some c) (h4 : c.code = bytes)
    (h5 : (c.maxLocals == mx && c.exceptionTable.isEmpty && decide (c.maxStack ≤ mostOperands) && decide (meth.sig.returnType = rt) && !meth.locks && decide (parseMethodDescriptor y.desc = some meth.sig)) = true) : (Jvm.Cond.code y bytes mx rt).before a s = true := by
  simp only [Bool.and_eq_true, beq_iff_eq, Bool.not_eq_true', decide_eq_true_eq] at h5
  obtain ⟨⟨⟨⟨⟨g1, g2⟩, g3⟩, g4⟩, g5⟩, g6⟩ := h5
  simp [Cond.before, Cond.holds, Cond.value, h1, h2, h3, h4, g1, g2, g3, g4, g5, g6]
def isCode : Jvm.Cond → Bool
  | .code _ _ _ _ => true
  | _ => false
theorem all_split {L : List Jvm.Cond} {P : Jvm.Cond → Bool} (h1 : L.all (fun c => isCode c || P c) = true) (h2 : ∀ c ∈ L.filter isCode, P c = true) : L.all P = true := by
  refine List.all_eq_true.mpr fun c hc => ?_
  have h := List.all_eq_true.mp h1 c hc
  rcases Bool.eq_false_or_eq_true (isCode c) with hi | hi
  · exact h2 c (List.mem_filter.mpr ⟨hc, hi⟩)
  · simpa [hi] using h
set_option maxRecDepth 65536 in
theorem w_c0 : (Jvm.Cond.code x code maxLocals ret).before args0 about1 = true := code_word (m := ⟨1, 2⟩) (meth := k1m2) (c := k1c2) (by decide +kernel) rfl rfl rfl (by decide +kernel)
set_option maxRecDepth 65536 in
theorem w_c1 : (Jvm.Cond.code ({ cls := "com/example/tiercast/tiercast/protocol/Knots", name := "compare", desc := "(FDFD)I" } : Jvm.MethodName) prog_70_method_4_code (7 : Nat) (Option.some Jvm.ClassFile.FieldType.int)).before args0 about1 = true := code_word (m := ⟨2, 0⟩) (meth := k2m0) (c := k2c0) (by decide +kernel) rfl rfl rfl (by decide +kernel)
set_option maxRecDepth 65536 in
theorem w_c2 : (Jvm.Cond.code ({ cls := "com/example/tiercast/tiercast/protocol/KnotsComparePinLaw", name := "key", desc := "(II)J" } : Jvm.MethodName) method_2_code (2 : Nat) (Option.some Jvm.ClassFile.FieldType.long)).before args0 about1 = true := code_word (m := ⟨1, 1⟩) (meth := k1m1) (c := k1c1) (by decide +kernel) rfl rfl rfl (by decide +kernel)
def codes1 : List Jvm.Cond := [Jvm.Cond.code x code maxLocals ret, Jvm.Cond.code ({ cls := "com/example/tiercast/tiercast/protocol/Knots", name := "compare", desc := "(FDFD)I" } : Jvm.MethodName) prog_70_method_4_code (7 : Nat) (Option.some Jvm.ClassFile.FieldType.int), Jvm.Cond.code ({ cls := "com/example/tiercast/tiercast/protocol/KnotsComparePinLaw", name := "key", desc := "(II)J" } : Jvm.MethodName) method_2_code (2 : Nat) (Option.some Jvm.ClassFile.FieldType.long)]
set_option maxRecDepth 65536 in
theorem codes_eq : words1.filter isCode = codes1 := rfl
theorem w_codes : ∀ c ∈ words1.filter isCode, c.before args0 about1 = true := by
  rw [codes_eq]
  intro c hc
  simp only [codes1, List.mem_cons, List.not_mem_nil, or_false] at hc
  rcases hc with rfl | rfl | rfl
  · exact w_c0
  · exact w_c1
  · exact w_c2
set_option maxRecDepth 65536 in
theorem w_t1 : words1.all (fun c => isCode c || c.before args0 about1) = true := by decide +kernel
theorem w_tables : (allAtoms (Jvm.Cond.code x code maxLocals ret :: tables_1)).before args0 about1 = true := by
  rw [allAtoms_all]
  show words1.all (fun c => c.before args0 about1) = true
  refine all_split ?_ w_codes
  rw [w_t1]
set_option maxRecDepth 65536 in
theorem w_case : (Jvm.Cond.and given_1 narrow_1).before args0 about1 = true := by decide +kernel
theorem w_applies : (headSpec (Jvm.Cond.code x code maxLocals ret :: tables_1) room_1).applies x e0.platform about1 = true :=
  (Spec.applies_iff w_frames).mpr ⟨w_running, w_runnable, w_alone, w_named, w_hears, w_ripe, w_room, w_tables⟩
theorem atStart : AtStart classFile x code maxLocals ret World_1 tables_1 room_1 Calls_1 rest_1 Pre_1 launch0 p0 e0 about1 theMethod args0 below0 :=
  ⟨lists_1, trivial, launch0.admits_env _ _ _, launch0.least_env, fairChoices_fair.cas, fairChoices_fair.clock, w_frames, w_args, w_heap, w_applies, trivial, trivial, w_case⟩
end start1
theorem witness_1 : WitnessClaimed_1 := ⟨start1.p0, start1.e0, start1.about1, start1.theMethod, start1.args0, start1.below0, start1.atStart⟩
end Jvm.Pilot.@@N@@
