import JvmDerived
import JvmDerived.Pilot.@@N@@Statement
import JvmDerived.Pilot.@@N@@Code
set_option linter.unusedVariables false
set_option linter.unusedSimpArgs false
namespace Jvm.RoadKit
open Sem ClassFile Op Lib Jvm.Stand Jvm.Free Jvm.LawKit
section New
variable {p : Program} {l : Launch} {e : Env} {R : Room} {s : State} {m : MethodId} {args : Array Value} {below : List Frame} {meth : Method} {c : Code} {T : State} {locs : List Loc} {cells slots : Nat}
theorem retI (X : Stand p l e R s m args below meth c T locs cells slots) (hx : p.tables.exec = Jvm.exec) {pc : Nat} {Ls : Array Slot} {z : Int32} {rest : List Value} (hret : meth.sig.returnType = some .int) (hd : decode c.code pc = .ok (.ireturn, 1)) {fs : List Frame}
    (hl : ∀ (f : JFrame) (acts : List Action), f.method = m → f.locked = none → f.entered = [] → (doReturn e (T.setTop f) acts (some (.int z))).1 = T.setFrames fs) : Steps p.tables e below (T.setTop (mkF m pc Ls (.int z :: rest))) (T.setFrames fs) := by
  have hm' : T.vm.method? m = some meth := X.method'
  have hn : narrow .int (.int z) = .int z := rfl
  show Steps p.tables e below (T.setTop { method := m, pc := pc, locals := Ls, stack := _ :: rest, locked := none }) _
  jvm_step X.here [X.here.top, hx, hd, hm', hret, hn]
  first | (intro acts; rw [hl _ acts rfl rfl rfl]) | rw [hl _ _ rfl rfl rfl]
  exact Steps.refl _
end New
end Jvm.RoadKit
namespace Jvm.Pilot.@@N@@
open Jvm Jvm.ClassFile Sem Op Lib Jvm.Free Jvm.Stand Jvm.LawKit Jvm.RoadKit Bundle Jvm.Pilot.@@N@@.Jvm.D
abbrev own_K (p : Program) (e : Env) (below : List Frame) (m : MethodId) (T : State) (pc : Nat) (L : Array Slot) (S : List Value) (t : State) : Prop := Steps p.tables e below (T.setTop (mkF m pc L S)) t
abbrev lv (x : Int64) : Slot := .val (.long x)

theorem own_nn (x : Int64) (q : Int32) : 0 ≤ ((x &&& (9223372036854775807 : Int64)) >>> (q &&& 0x3f).toInt64).toInt := by
  rw [c_lshr _ q _ rfl, c_maskL x _ 63 (by decide) (by decide)]
  exact Int.ediv_nonneg (Int.emod_nonneg _ (by decide)) (Int.natCast_nonneg _)
theorem own_pos (w : Int64) : 0 < (if (1 : Int64) < w then w else (1 : Int64)).toInt := by
  split
  · rename_i h
    have h1 := Int64.lt_iff_toInt_lt.mp h
    have h2 : (1 : Int64).toInt = 1 := by decide
    omega
  · decide
theorem own_law1 (d v q f : Int64) (hq : q = if (d - (d / v) * v) < (v - (d - (d / v) * v)) then (d / v) else ((d / v) + (1 : Int64))) (hf : f = d / v) : q = f ∨ q = f + (1 : Int64) := by
  subst hf
  rw [hq]
  split
  · exact Or.inl rfl
  · exact Or.inr rfl
theorem own_law (d v : Int64) (hd : 0 ≤ d.toInt) (hv : 0 < v.toInt) (q r : Int64) (hq : q = if (d - (d / v) * v) < (v - (d - (d / v) * v)) then (d / v) else ((d / v) + (1 : Int64))) (hr : r = d - q * v) :
    (r < (0 : Int64) ∨ r < v - r) ∧ (¬ r < (0 : Int64) ∨ ¬ r < (-v) - r) := by
  have hm : (d - (d / v) * v).toInt = d.toInt % v.toInt := (c_lrem d v _ rfl).1 hd
  have h0 := Int.emod_nonneg d.toInt (show v.toInt ≠ 0 by omega)
  have h1 := Int.emod_lt_of_pos d.toInt hv
  generalize hw : d - (d / v) * v = w at hm hq
  have hz : (0 : Int64).toInt = 0 := by decide
  have rv := rng64 v
  have c1 := c_lsub v w
  have rw1 := rng64 (v - w)
  by_cases hc' : w < v - w
  · have hc := Int64.lt_iff_toInt_lt.mp hc'
    rw [if_pos hc'] at hq
    have e : r = w := by rw [hr, hq, hw]
    subst e
    rw [Int64.lt_iff_toInt_lt, Int64.lt_iff_toInt_lt, hz]
    exact ⟨Or.inr hc, Or.inl (by omega)⟩
  · have hc := mt Int64.lt_iff_toInt_lt.mpr hc'
    rw [if_neg hc'] at hq
    have e : r = w - v := by
      have e1 : q * v = (d / v) * v + v := by rw [hq, Int64.add_mul, Int64.one_mul]
      rw [hr, e1, ← hw]
      generalize (d / v) * v = P
      apply Int64.toInt_inj.mp
      have a1 := c_ladd P v
      have a2 := c_lsub d (P + v)
      have a3 := c_lsub d P
      have a4 := c_lsub (d - P) v
      have b1 := rng64 (d - (P + v))
      have b2 := rng64 (d - P - v)
      omega
    have c2 := c_lsub w v
    have rr := rng64 (w - v)
    have c3 := c_lneg v
    have r3 := rng64 (-v)
    have c4 := c_lsub (-v) (w - v)
    have r4 := rng64 (-v - (w - v))
    rw [e, Int64.lt_iff_toInt_lt, Int64.lt_iff_toInt_lt, Int64.lt_iff_toInt_lt, hz]
    refine ⟨Or.inl (by omega), Or.inr (by omega)⟩
theorem own_b1 (r v : Int64) (h : r < (0 : Int64) ∨ r < v - r) : (if r < (0 : Int64) then (1 : Int32) else (if r < (v - r) then (1 : Int32) else (0 : Int32))) = 1 := by
  rcases h with h | h
  · rw [if_pos h]
  · rw [if_pos h]; split <;> rfl
theorem own_b2 (r v : Int64) (h : ¬ r < (0 : Int64) ∨ ¬ r < (-v) - r) : (if r < (0 : Int64) then (if r < ((-v) - r) then (0 : Int32) else (1 : Int32)) else (1 : Int32)) = 1 := by
  rcases h with h | h
  · rw [if_neg h]
  · rw [if_neg h]; split <;> rfl
theorem d1_0 : decode jdk_29_method_66_code 0 = .ok (.lload_n 0, 1) := by decide +kernel
theorem d1_1 : decode jdk_29_method_66_code 1 = .ok (.lload_n 2, 1) := by decide +kernel
theorem d1_2 : decode jdk_29_method_66_code 2 = .ok (.lcmp, 1) := by decide +kernel
theorem d1_3 : decode jdk_29_method_66_code 3 = .ok (.ifCond .lt 7, 3) := by decide +kernel
theorem d1_10 : decode jdk_29_method_66_code 10 = .ok (.lload_n 2, 1) := by decide +kernel
theorem d1_11 : decode jdk_29_method_66_code 11 = .ok (.lreturn, 1) := by decide +kernel
theorem d1_6 : decode jdk_29_method_66_code 6 = .ok (.lload_n 0, 1) := by decide +kernel
theorem d1_7 : decode jdk_29_method_66_code 7 = .ok (.goto 4, 3) := by decide +kernel
theorem ef_1 (m : MethodId) (x0 : Int64) (x1 : Int64) : entryFrame m #[(.long x0), (.long x1)] 4 = mkF m 0 #[lv x0, .second, lv x1, .second] [] := by first | (simp [entryFrame, mkF, argsToLocals, Value.category]; done) | rfl
def Q1 (Z : State) (xa : Int64) (xb : Int64) (h0 : Heap) (n0 : Nat) (rv_ : Option Value) (h_ : Heap) (L_ : List Loc) : Prop := rv_ = some (.long (if xa < xb then xb else xa)) ∧ Fr n0 L_ ∧ h_ = h0
set_option maxRecDepth 65536 in
set_option maxHeartbeats 40000000 in
theorem rm1 (l : Launch) (Z : State) (a0 : Array Value) (hw : ∀ d ∈ tables_1, d.before a0 Z = true) (ws : List Jvm.Cond) (xa : Int64) (xb : Int64) (h0 : Heap) (n0 : Nat) (Z0 : n0 ≤ h0.size) :
    MetFree l (⟨"java/lang/Math", "max", "(JJ)J"⟩ : MethodName) (head1 (Jvm.Cond.code (⟨"java/lang/Math", "max", "(JJ)J"⟩ : MethodName) jdk_29_method_66_code 4 (some .long) :: ws) ({ frames := 0, cells := 0, slots := 0, locals := 0 } : Room)) (fun a U => a = #[(.long xa), (.long xb)] ∧ Z.Warmed39 U.vm ∧ U.heap = h0) (fun _ _ _ _ _ => True) (fun _ U o U' => ∃ v L, o = .returned v ∧ Q1 Z xa xb h0 n0 v U'.heap L ∧ FrameEnd U o U' L ({ frames := 0, cells := 0, slots := 0, locals := 0 } : Room).cells ({ frames := 0, cells := 0, slots := 0, locals := 0 } : Room).slots) := by
  refine MetFree.of_bodySF (Jvm.Free.JP.mathPlain rfl (by decide +kernel)) hisR ?_
  intro p e s m args below meth c s₁ Bd hml0 hP hK
  obtain ⟨rfl, hZ, hh⟩ := hP
  have hx := Bd.exec
  have hby := Bd.bytes
  have hml : c.maxLocals = 4 := hml0
  have hown : s.vm.findClass "java/lang/Math" = some m.cls := findClass_of_methodNamed Bd.named
  have hnm := (name_of_methodNamed Bd.named Bd.method).1
  have X0 : Stand p l e ({ frames := 0, cells := 0, slots := 0, locals := 0 } : Room) s m #[(.long xa), (.long xb)] below meth c s₁ [] 0 0 := Stand.of_body Bd
  have e0 : s₁.heap = h0 := by rw [← hh, Bd.state]; rfl
  have N0 := Fr.nil n0
  obtain ⟨G, hG, pre0⟩ : ∃ G : State → Prop, (∀ t, G t → Steps p.tables e below (s₁.setTop (entryFrame m #[(.long xa), (.long xb)] 4)) t) ∧ ∀ t, own_K p e below m s₁ 0 #[lv xa, .second, lv xb, .second] [] t → G t := ⟨fun t => Steps p.tables e below (s₁.setTop (entryFrame m #[(.long xa), (.long xb)] 4)) t, fun _ k => k, fun t k => castTop (ef_1 m xa xb) k⟩
  have pre1 : ∀ t, own_K p e below m s₁ 3 #[lv xa, .second, lv xb, .second] [(.int (lcmpW xa xb))] t → G t := by
    intro t k
    refine pre0 t ?_
    show own_K p e below m s₁ 0 #[lv xa, .second, lv xb, .second] [] _
    refine XS.lloadN X0.here hx rfl (hb hby d1_0) rfl ?_
    show own_K p e below m s₁ 1 #[lv xa, .second, lv xb, .second] [(.long xa)] _
    refine XS.lloadN X0.here hx rfl (hb hby d1_1) rfl ?_
    show own_K p e below m s₁ 2 #[lv xa, .second, lv xb, .second] [(.long xb), (.long xa)] _
    refine XS.lcmp X0.here hx rfl (hb hby d1_2) rfl ?_
    exact k
  by_cases hc3_2 : xa < xb
  · have pre3 : ∀ t, own_K p e below m s₁ 11 #[lv xa, .second, lv xb, .second] [(.long xb)] t → G t := by
      intro t k
      refine pre1 t ?_
      show own_K p e below m s₁ 3 #[lv xa, .second, lv xb, .second] [(.int (lcmpW xa xb))] _
      refine XS.ifYes X0.here hx rfl (pc0 := 3) (pc' := 10) rfl (hb hby d1_3) rfl ((if0 _ _).trans (tlt ((lw_lt _ _).mpr hc3_2)).1) (by decide) (by decide) ?_
      show own_K p e below m s₁ 10 #[lv xa, .second, lv xb, .second] [] _
      refine XS.lloadN X0.here hx rfl (hb hby d1_10) rfl ?_
      exact k
    obtain ⟨fs, hr, hrun, hended, hW, hsame⟩ := X0.leave (v := some (.long xb)) (fun h => by rw [Bd.returns] at h; cases h)
    refine ⟨_, _, hG _ (pre3 _ ?_), hrun, hended, _, _, rfl, ?_, ⟨_, rfl⟩, hW, hsame.mono (by decide) (by decide)⟩
    · show own_K p e below m s₁ 11 #[lv xa, .second, lv xb, .second] [(.long xb)] _
      exact retOut X0 hx Bd.returns rfl (Or.inr (Or.inl ⟨rfl, rfl, _, rfl⟩)) (hb hby d1_11) hr
    · show Q1 Z xa xb h0 n0 _ s₁.heap _
      rw [e0]
      exact ⟨(by simp [hc3_2]), N0, rfl⟩
  · have pre4 : ∀ t, own_K p e below m s₁ 11 #[lv xa, .second, lv xb, .second] [(.long xa)] t → G t := by
      intro t k
      refine pre1 t ?_
      show own_K p e below m s₁ 3 #[lv xa, .second, lv xb, .second] [(.int (lcmpW xa xb))] _
      refine XS.ifNo X0.here hx rfl (hb hby d1_3) rfl ((if0 _ _).trans (flt (mt (lw_lt _ _).mp hc3_2)).1) ?_
      show own_K p e below m s₁ 6 #[lv xa, .second, lv xb, .second] [] _
      refine XS.lloadN X0.here hx rfl (hb hby d1_6) rfl ?_
      show own_K p e below m s₁ 7 #[lv xa, .second, lv xb, .second] [(.long xa)] _
      refine XS.goto X0.here hx rfl (pc0 := 7) (pc' := 11) rfl (hb hby d1_7) (by decide) (by decide) ?_
      exact k
    obtain ⟨fs, hr, hrun, hended, hW, hsame⟩ := X0.leave (v := some (.long xa)) (fun h => by rw [Bd.returns] at h; cases h)
    refine ⟨_, _, hG _ (pre4 _ ?_), hrun, hended, _, _, rfl, ?_, ⟨_, rfl⟩, hW, hsame.mono (by decide) (by decide)⟩
    · show own_K p e below m s₁ 11 #[lv xa, .second, lv xb, .second] [(.long xa)] _
      exact retOut X0 hx Bd.returns rfl (Or.inr (Or.inl ⟨rfl, rfl, _, rfl⟩)) (hb hby d1_11) hr
    · show Q1 Z xa xb h0 n0 _ s₁.heap _
      rw [e0]
      exact ⟨(by simp [hc3_2]), N0, rfl⟩

theorem d2_0 : decode prog_20_method_19_code 0 = .ok (.lload_n 0, 1) := by decide +kernel
theorem d2_1 : decode prog_20_method_19_code 1 = .ok (.lload_n 2, 1) := by decide +kernel
theorem d2_2 : decode prog_20_method_19_code 2 = .ok (.ldiv, 1) := by decide +kernel
theorem d2_3 : decode prog_20_method_19_code 3 = .ok (.lstore 4, 2) := by decide +kernel
theorem d2_5 : decode prog_20_method_19_code 5 = .ok (.lload_n 0, 1) := by decide +kernel
theorem d2_6 : decode prog_20_method_19_code 6 = .ok (.lload_n 2, 1) := by decide +kernel
theorem d2_7 : decode prog_20_method_19_code 7 = .ok (.lrem, 1) := by decide +kernel
theorem d2_8 : decode prog_20_method_19_code 8 = .ok (.lstore 6, 2) := by decide +kernel
theorem d2_10 : decode prog_20_method_19_code 10 = .ok (.lload 6, 2) := by decide +kernel
theorem d2_12 : decode prog_20_method_19_code 12 = .ok (.lload_n 2, 1) := by decide +kernel
theorem d2_13 : decode prog_20_method_19_code 13 = .ok (.lload 6, 2) := by decide +kernel
theorem d2_15 : decode prog_20_method_19_code 15 = .ok (.lsub, 1) := by decide +kernel
theorem d2_16 : decode prog_20_method_19_code 16 = .ok (.lcmp, 1) := by decide +kernel
theorem d2_17 : decode prog_20_method_19_code 17 = .ok (.ifCond .lt 10, 3) := by decide +kernel
theorem d2_27 : decode prog_20_method_19_code 27 = .ok (.lload 4, 2) := by decide +kernel
theorem d2_29 : decode prog_20_method_19_code 29 = .ok (.lreturn, 1) := by decide +kernel
theorem d2_20 : decode prog_20_method_19_code 20 = .ok (.lload 4, 2) := by decide +kernel
theorem d2_22 : decode prog_20_method_19_code 22 = .ok (.lconst 1, 1) := by decide +kernel
theorem d2_23 : decode prog_20_method_19_code 23 = .ok (.ladd, 1) := by decide +kernel
theorem d2_24 : decode prog_20_method_19_code 24 = .ok (.goto 5, 3) := by decide +kernel
theorem pn_0 : plainName "com/example/notewright/notewright/Figures" = true := by first | (simp [plainName, overriddenIn]; done) | decide +kernel
theorem ef_2 (m : MethodId) (x0 : Int64) (x1 : Int64) : entryFrame m #[(.long x0), (.long x1)] 8 = mkF m 0 #[lv x0, .second, lv x1, .second, .unset, .unset, .unset, .unset] [] := by first | (simp [entryFrame, mkF, argsToLocals, Value.category]; done) | rfl
def Q2 (Z : State) (xd : Int64) (xv : Int64) (h0 : Heap) (n0 : Nat) (rv_ : Option Value) (h_ : Heap) (L_ : List Loc) : Prop := rv_ = some (.long (if (xd - (xd / xv) * xv) < (xv - (xd - (xd / xv) * xv)) then (xd / xv) else ((xd / xv) + (1 : Int64)))) ∧ Fr n0 L_ ∧ h_ = h0
set_option maxRecDepth 65536 in
set_option maxHeartbeats 40000000 in
theorem rm2 (l : Launch) (Z : State) (a0 : Array Value) (hw : ∀ d ∈ tables_1, d.before a0 Z = true) (ws : List Jvm.Cond) (xd : Int64) (xv : Int64) (h0 : Heap) (n0 : Nat) (Z0 : n0 ≤ h0.size) (hxv : xv ≠ 0) :
    MetFree l (⟨"com/example/notewright/notewright/Figures", "roundedQuotient", "(JJ)J"⟩ : MethodName) (head1 (Jvm.Cond.code (⟨"com/example/notewright/notewright/Figures", "roundedQuotient", "(JJ)J"⟩ : MethodName) prog_20_method_19_code 8 (some .long) :: ws) ({ frames := 0, cells := 0, slots := 0, locals := 0 } : Room)) (fun a U => a = #[(.long xd), (.long xv)] ∧ Z.Warmed39 U.vm ∧ U.heap = h0) (fun _ _ _ _ _ => True) (fun _ U o U' => ∃ v L, o = .returned v ∧ Q2 Z xd xv h0 n0 v U'.heap L ∧ FrameEnd U o U' L ({ frames := 0, cells := 0, slots := 0, locals := 0 } : Room).cells ({ frames := 0, cells := 0, slots := 0, locals := 0 } : Room).slots) := by
  refine MetFree.of_bodySF (plainFor_of_name pn_0) hisR ?_
  intro p e s m args below meth c s₁ Bd hml0 hP hK
  obtain ⟨rfl, hZ, hh⟩ := hP
  have hx := Bd.exec
  have hby := Bd.bytes
  have hml : c.maxLocals = 8 := hml0
  have hown : s.vm.findClass "com/example/notewright/notewright/Figures" = some m.cls := findClass_of_methodNamed Bd.named
  have hnm := (name_of_methodNamed Bd.named Bd.method).1
  have X0 : Stand p l e ({ frames := 0, cells := 0, slots := 0, locals := 0 } : Room) s m #[(.long xd), (.long xv)] below meth c s₁ [] 0 0 := Stand.of_body Bd
  have e0 : s₁.heap = h0 := by rw [← hh, Bd.state]; rfl
  have N0 := Fr.nil n0
  obtain ⟨G, hG, pre0⟩ : ∃ G : State → Prop, (∀ t, G t → Steps p.tables e below (s₁.setTop (entryFrame m #[(.long xd), (.long xv)] 8)) t) ∧ ∀ t, own_K p e below m s₁ 0 #[lv xd, .second, lv xv, .second, .unset, .unset, .unset, .unset] [] t → G t := ⟨fun t => Steps p.tables e below (s₁.setTop (entryFrame m #[(.long xd), (.long xv)] 8)) t, fun _ k => k, fun t k => castTop (ef_2 m xd xv) k⟩
  have pre1 : ∀ t, own_K p e below m s₁ 17 #[lv xd, .second, lv xv, .second, lv (xd / xv), .second, lv (xd - (xd / xv) * xv), .second] [(.int (lcmpW (xd - (xd / xv) * xv) (xv - (xd - (xd / xv) * xv))))] t → G t := by
    intro t k
    refine pre0 t ?_
    show own_K p e below m s₁ 0 #[lv xd, .second, lv xv, .second, .unset, .unset, .unset, .unset] [] _
    refine XS.lloadN X0.here hx rfl (hb hby d2_0) rfl ?_
    show own_K p e below m s₁ 1 #[lv xd, .second, lv xv, .second, .unset, .unset, .unset, .unset] [(.long xd)] _
    refine XS.lloadN X0.here hx rfl (hb hby d2_1) rfl ?_
    show own_K p e below m s₁ 2 #[lv xd, .second, lv xv, .second, .unset, .unset, .unset, .unset] [(.long xv), (.long xd)] _
    refine XS.ldiv X0.here hx rfl (hb hby d2_2) rfl hxv ?_
    show own_K p e below m s₁ 3 #[lv xd, .second, lv xv, .second, .unset, .unset, .unset, .unset] [(.long (xd / xv))] _
    refine XS.lstore X0.here hx rfl (hb hby d2_3) rfl (l' := #[lv xd, .second, lv xv, .second, lv (xd / xv), .second, .unset, .unset]) rfl ?_
    show own_K p e below m s₁ 5 #[lv xd, .second, lv xv, .second, lv (xd / xv), .second, .unset, .unset] [] _
    refine XS.lloadN X0.here hx rfl (hb hby d2_5) rfl ?_
    show own_K p e below m s₁ 6 #[lv xd, .second, lv xv, .second, lv (xd / xv), .second, .unset, .unset] [(.long xd)] _
    refine XS.lloadN X0.here hx rfl (hb hby d2_6) rfl ?_
    show own_K p e below m s₁ 7 #[lv xd, .second, lv xv, .second, lv (xd / xv), .second, .unset, .unset] [(.long xv), (.long xd)] _
    refine XS.lrem X0.here hx rfl (hb hby d2_7) rfl hxv ?_
    show own_K p e below m s₁ 8 #[lv xd, .second, lv xv, .second, lv (xd / xv), .second, .unset, .unset] [(.long (xd - (xd / xv) * xv))] _
    refine XS.lstore X0.here hx rfl (hb hby d2_8) rfl (l' := #[lv xd, .second, lv xv, .second, lv (xd / xv), .second, lv (xd - (xd / xv) * xv), .second]) rfl ?_
    show own_K p e below m s₁ 10 #[lv xd, .second, lv xv, .second, lv (xd / xv), .second, lv (xd - (xd / xv) * xv), .second] [] _
    refine XS.lload X0.here hx rfl (hb hby d2_10) rfl ?_
    show own_K p e below m s₁ 12 #[lv xd, .second, lv xv, .second, lv (xd / xv), .second, lv (xd - (xd / xv) * xv), .second] [(.long (xd - (xd / xv) * xv))] _
    refine XS.lloadN X0.here hx rfl (hb hby d2_12) rfl ?_
    show own_K p e below m s₁ 13 #[lv xd, .second, lv xv, .second, lv (xd / xv), .second, lv (xd - (xd / xv) * xv), .second] [(.long xv), (.long (xd - (xd / xv) * xv))] _
    refine XS.lload X0.here hx rfl (hb hby d2_13) rfl ?_
    show own_K p e below m s₁ 15 #[lv xd, .second, lv xv, .second, lv (xd / xv), .second, lv (xd - (xd / xv) * xv), .second] [(.long (xd - (xd / xv) * xv)), (.long xv), (.long (xd - (xd / xv) * xv))] _
    refine XS.lsub X0.here hx rfl (hb hby d2_15) rfl ?_
    show own_K p e below m s₁ 16 #[lv xd, .second, lv xv, .second, lv (xd / xv), .second, lv (xd - (xd / xv) * xv), .second] [(.long (xv - (xd - (xd / xv) * xv))), (.long (xd - (xd / xv) * xv))] _
    refine XS.lcmp X0.here hx rfl (hb hby d2_16) rfl ?_
    exact k
  by_cases hc17_2 : (xd - (xd / xv) * xv) < (xv - (xd - (xd / xv) * xv))
  · have pre3 : ∀ t, own_K p e below m s₁ 29 #[lv xd, .second, lv xv, .second, lv (xd / xv), .second, lv (xd - (xd / xv) * xv), .second] [(.long (xd / xv))] t → G t := by
      intro t k
      refine pre1 t ?_
      show own_K p e below m s₁ 17 #[lv xd, .second, lv xv, .second, lv (xd / xv), .second, lv (xd - (xd / xv) * xv), .second] [(.int (lcmpW (xd - (xd / xv) * xv) (xv - (xd - (xd / xv) * xv))))] _
      refine XS.ifYes X0.here hx rfl (pc0 := 17) (pc' := 27) rfl (hb hby d2_17) rfl ((if0 _ _).trans (tlt ((lw_lt _ _).mpr hc17_2)).1) (by decide) (by decide) ?_
      show own_K p e below m s₁ 27 #[lv xd, .second, lv xv, .second, lv (xd / xv), .second, lv (xd - (xd / xv) * xv), .second] [] _
      refine XS.lload X0.here hx rfl (hb hby d2_27) rfl ?_
      exact k
    obtain ⟨fs, hr, hrun, hended, hW, hsame⟩ := X0.leave (v := some (.long (xd / xv))) (fun h => by rw [Bd.returns] at h; cases h)
    refine ⟨_, _, hG _ (pre3 _ ?_), hrun, hended, _, _, rfl, ?_, ⟨_, rfl⟩, hW, hsame.mono (by decide) (by decide)⟩
    · show own_K p e below m s₁ 29 #[lv xd, .second, lv xv, .second, lv (xd / xv), .second, lv (xd - (xd / xv) * xv), .second] [(.long (xd / xv))] _
      exact retOut X0 hx Bd.returns rfl (Or.inr (Or.inl ⟨rfl, rfl, _, rfl⟩)) (hb hby d2_29) hr
    · show Q2 Z xd xv h0 n0 _ s₁.heap _
      rw [e0]
      exact ⟨(by simp [hc17_2]), N0, rfl⟩
  · have pre4 : ∀ t, own_K p e below m s₁ 29 #[lv xd, .second, lv xv, .second, lv (xd / xv), .second, lv (xd - (xd / xv) * xv), .second] [(.long ((xd / xv) + (1 : Int64)))] t → G t := by
      intro t k
      refine pre1 t ?_
      show own_K p e below m s₁ 17 #[lv xd, .second, lv xv, .second, lv (xd / xv), .second, lv (xd - (xd / xv) * xv), .second] [(.int (lcmpW (xd - (xd / xv) * xv) (xv - (xd - (xd / xv) * xv))))] _
      refine XS.ifNo X0.here hx rfl (hb hby d2_17) rfl ((if0 _ _).trans (flt (mt (lw_lt _ _).mp hc17_2)).1) ?_
      show own_K p e below m s₁ 20 #[lv xd, .second, lv xv, .second, lv (xd / xv), .second, lv (xd - (xd / xv) * xv), .second] [] _
      refine XS.lload X0.here hx rfl (hb hby d2_20) rfl ?_
      show own_K p e below m s₁ 22 #[lv xd, .second, lv xv, .second, lv (xd / xv), .second, lv (xd - (xd / xv) * xv), .second] [(.long (xd / xv))] _
      refine XS.lconst X0.here hx rfl (hb hby d2_22) ?_
      show own_K p e below m s₁ 23 #[lv xd, .second, lv xv, .second, lv (xd / xv), .second, lv (xd - (xd / xv) * xv), .second] [(.long (1 : Int64)), (.long (xd / xv))] _
      refine XS.ladd X0.here hx rfl (hb hby d2_23) rfl ?_
      show own_K p e below m s₁ 24 #[lv xd, .second, lv xv, .second, lv (xd / xv), .second, lv (xd - (xd / xv) * xv), .second] [(.long ((xd / xv) + (1 : Int64)))] _
      refine XS.goto X0.here hx rfl (pc0 := 24) (pc' := 29) rfl (hb hby d2_24) (by decide) (by decide) ?_
      exact k
    obtain ⟨fs, hr, hrun, hended, hW, hsame⟩ := X0.leave (v := some (.long ((xd / xv) + (1 : Int64)))) (fun h => by rw [Bd.returns] at h; cases h)
    refine ⟨_, _, hG _ (pre4 _ ?_), hrun, hended, _, _, rfl, ?_, ⟨_, rfl⟩, hW, hsame.mono (by decide) (by decide)⟩
    · show own_K p e below m s₁ 29 #[lv xd, .second, lv xv, .second, lv (xd / xv), .second, lv (xd - (xd / xv) * xv), .second] [(.long ((xd / xv) + (1 : Int64)))] _
      exact retOut X0 hx Bd.returns rfl (Or.inr (Or.inl ⟨rfl, rfl, _, rfl⟩)) (hb hby d2_29) hr
    · show Q2 Z xd xv h0 n0 _ s₁.heap _
      rw [e0]
      exact ⟨(by simp [hc17_2]), N0, rfl⟩

theorem pd_0 : parseMethodDescriptor "(JJ)J" = some ⟨[.long, .long], some .long⟩ := by decide +kernel
theorem pn_1 : plainName "com/example/notewright/notewright/FiguresRoundedQuotientPinLaw" = true := by first | (simp [plainName, overriddenIn]; done) | decide +kernel
theorem ef_0 (m : MethodId) (x0 : Int64) (x1 : Int64) (x2 : Int32) : entryFrame m #[(.long x0), (.long x1), (.int x2)] maxLocals = mkF m 0 #[lv x0, .second, lv x1, .second, iv x2, .unset, .unset, .unset, .unset, .unset, .unset, .unset, .unset, .unset, .unset, .unset, .unset] [] := by first | (simp [entryFrame, mkF, argsToLocals, Value.category, maxLocals]; done) | rfl
def Q0 (Z : State) (p1 : Int64) (p2 : Int64) (p3 : Int32) (h0 : Heap) (n0 : Nat) (rv_ : Option Value) (h_ : Heap) (L_ : List Loc) : Prop := rv_ = some (.int (1 : Int32)) ∧ Fr n0 L_ ∧ h_ = h0
set_option maxRecDepth 65536 in
set_option maxHeartbeats 40000000 in
theorem rm0 (l : Launch) (Z : State) (a0 : Array Value) (hw : ∀ d ∈ tables_1, d.before a0 Z = true) (ws : List Jvm.Cond) (p1 : Int64) (p2 : Int64) (p3 : Int32) (h0 : Heap) (n0 : Nat) (Z0 : n0 ≤ h0.size) :
    MetFree l x (head1 (Jvm.Cond.code x code maxLocals ret :: ws) room_1) (fun a U => a = #[(.long p1), (.long p2), (.int p3)] ∧ Z.Warmed39 U.vm ∧ U.heap = h0) (fun _ _ _ _ _ => True) (fun _ U o U' => ∃ v L, o = .returned v ∧ Q0 Z p1 p2 p3 h0 n0 v U'.heap L ∧ FrameEnd U o U' L 0 0) := by
  refine MetFree.of_bodySF (plainFor_of_name pn_1) hisR ?_
  intro p e s m args below meth c s₁ Bd hml0 hP hK
  obtain ⟨rfl, hZ, hh⟩ := hP
  have hx := Bd.exec
  have hby := Bd.bytes
  have hml : c.maxLocals = 17 := hml0
  have hown : s.vm.findClass "com/example/notewright/notewright/FiguresRoundedQuotientPinLaw" = some m.cls := findClass_of_methodNamed Bd.named
  have hnm := (name_of_methodNamed Bd.named Bd.method).1
  have X0 : Stand p l e room_1 s m #[(.long p1), (.long p2), (.int p3)] below meth c s₁ [] 0 0 := Stand.of_body Bd
  have e0 : s₁.heap = h0 := by rw [← hh, Bd.state]; rfl
  have N0 := Fr.nil n0
  obtain ⟨G, hG, pre0⟩ : ∃ G : State → Prop, (∀ t, G t → Steps p.tables e below (s₁.setTop (entryFrame m #[(.long p1), (.long p2), (.int p3)] maxLocals)) t) ∧ ∀ t, own_K p e below m s₁ 0 #[lv p1, .second, lv p2, .second, iv p3, .unset, .unset, .unset, .unset, .unset, .unset, .unset, .unset, .unset, .unset, .unset, .unset] [] t → G t := ⟨fun t => Steps p.tables e below (s₁.setTop (entryFrame m #[(.long p1), (.long p2), (.int p3)] maxLocals)) t, fun _ k => k, fun t k => castTop (ef_0 m p1 p2 p3) k⟩
  have pre1 : ∀ t, own_K p e below m s₁ 14 #[lv p1, .second, lv p2, .second, iv p3, .unset, .unset, .unset, .unset, .unset, .unset, .unset, .unset, .unset, .unset, .unset, .unset] [(.long ((p1 &&& (9223372036854775807 : Int64)) >>> ((((p3.toUInt32 >>> ((6 : Int32) &&& 31).toUInt32).toInt32) &&& (63 : Int32)) &&& 0x3f).toInt64))] t → G t := by
    intro t k
    refine pre0 t ?_
    show own_K p e below m s₁ 0 #[lv p1, .second, lv p2, .second, iv p3, .unset, .unset, .unset, .unset, .unset, .unset, .unset, .unset, .unset, .unset, .unset, .unset] [] _
    refine XS.lloadN X0.here hx rfl (hb hby at_0) rfl ?_
    show own_K p e below m s₁ 1 #[lv p1, .second, lv p2, .second, iv p3, .unset, .unset, .unset, .unset, .unset, .unset, .unset, .unset, .unset, .unset, .unset, .unset] [(.long p1)] _
    refine X0.ldc2Long hx hown (mvT hZ (hw _ (List.mem_of_getElem? (i := 0) rfl))) (g := (mkF m 1 #[lv p1, .second, lv p2, .second, iv p3, .unset, .unset, .unset, .unset, .unset, .unset, .unset, .unset, .unset, .unset, .unset, .unset] [(.long p1)])) rfl (hb hby at_1) _ ?_
    show own_K p e below m s₁ 4 #[lv p1, .second, lv p2, .second, iv p3, .unset, .unset, .unset, .unset, .unset, .unset, .unset, .unset, .unset, .unset, .unset, .unset] [(.long (9223372036854775807 : Int64)), (.long p1)] _
    refine XS.land X0.here hx rfl (hb hby at_4) rfl ?_
    show own_K p e below m s₁ 5 #[lv p1, .second, lv p2, .second, iv p3, .unset, .unset, .unset, .unset, .unset, .unset, .unset, .unset, .unset, .unset, .unset, .unset] [(.long (p1 &&& (9223372036854775807 : Int64)))] _
    refine XS.iload X0.here hx rfl (hb hby at_5) rfl ?_
    show own_K p e below m s₁ 7 #[lv p1, .second, lv p2, .second, iv p3, .unset, .unset, .unset, .unset, .unset, .unset, .unset, .unset, .unset, .unset, .unset, .unset] [(.int p3), (.long (p1 &&& (9223372036854775807 : Int64)))] _
    refine XS.bipush X0.here hx rfl (hb hby at_7) ?_
    show own_K p e below m s₁ 9 #[lv p1, .second, lv p2, .second, iv p3, .unset, .unset, .unset, .unset, .unset, .unset, .unset, .unset, .unset, .unset, .unset, .unset] [(.int (6 : Int32)), (.int p3), (.long (p1 &&& (9223372036854775807 : Int64)))] _
    refine XS.iushr X0.here hx rfl (hb hby at_9) rfl ?_
    show own_K p e below m s₁ 10 #[lv p1, .second, lv p2, .second, iv p3, .unset, .unset, .unset, .unset, .unset, .unset, .unset, .unset, .unset, .unset, .unset, .unset] [(.int ((p3.toUInt32 >>> ((6 : Int32) &&& 31).toUInt32).toInt32)), (.long (p1 &&& (9223372036854775807 : Int64)))] _
    refine XS.bipush X0.here hx rfl (hb hby at_10) ?_
    show own_K p e below m s₁ 12 #[lv p1, .second, lv p2, .second, iv p3, .unset, .unset, .unset, .unset, .unset, .unset, .unset, .unset, .unset, .unset, .unset, .unset] [(.int (63 : Int32)), (.int ((p3.toUInt32 >>> ((6 : Int32) &&& 31).toUInt32).toInt32)), (.long (p1 &&& (9223372036854775807 : Int64)))] _
    refine XS.iand X0.here hx rfl (hb hby at_12) rfl ?_
    show own_K p e below m s₁ 13 #[lv p1, .second, lv p2, .second, iv p3, .unset, .unset, .unset, .unset, .unset, .unset, .unset, .unset, .unset, .unset, .unset, .unset] [(.int (((p3.toUInt32 >>> ((6 : Int32) &&& 31).toUInt32).toInt32) &&& (63 : Int32))), (.long (p1 &&& (9223372036854775807 : Int64)))] _
    refine XS.lshr X0.here hx rfl (hb hby at_13) rfl ?_
    exact k
  obtain ⟨xd, hxd⟩ : ∃ z : Int64, z = ((p1 &&& (9223372036854775807 : Int64)) >>> ((((p3.toUInt32 >>> ((6 : Int32) &&& 31).toUInt32).toInt32) &&& (63 : Int32)) &&& 0x3f).toInt64) := ⟨_, rfl⟩
  have pre2 : ∀ t, own_K p e below m s₁ 14 #[lv p1, .second, lv p2, .second, iv p3, .unset, .unset, .unset, .unset, .unset, .unset, .unset, .unset, .unset, .unset, .unset, .unset] [(.long xd)] t → G t := fun t k => pre1 t (by rw [hxd] at k; exact k)
  obtain ⟨_, _, ⟨T3, L3, k3, n3⟩, -, X3, ⟨Lc3, hQ3, l3, y3, z3⟩, st3⟩ := Jvm.LawKit.callS X0 hx (y := (⟨"java/lang/Math", "max", "(JJ)J"⟩ : MethodName)) hown (mvT hZ (hw _ (List.mem_of_getElem? (i := 1) rfl))) (mvT hZ (hw _ (List.mem_of_getElem? (i := 2) rfl))) (mvT hZ (hw _ (List.mem_of_getElem? (i := 3) rfl))) (mvT hZ (hw _ (List.mem_of_getElem? (i := 4) rfl))) (by decide) (backOf (W := 0) (rm1 l Z a0 hw [] (1 : Int64) ((p2 &&& (9223372036854775807 : Int64)) >>> ((p3 &&& (63 : Int32)) &&& 0x3f).toInt64) h0 n0 Z0 ) hZ (hw _ (List.mem_of_getElem? (i := 4) rfl)) (hw _ (List.mem_of_getElem? (i := 3) rfl)) (by decide) (by decide)) (g := (mkF m 28 #[lv p1, .second, lv p2, .second, iv p3, lv xd, .second, .unset, .unset, .unset, .unset, .unset, .unset, .unset, .unset, .unset, .unset] [(.long ((p2 &&& (9223372036854775807 : Int64)) >>> ((p3 &&& (63 : Int32)) &&& 0x3f).toInt64)), (.long (1 : Int64))])) rfl (by rw [hml]; rfl) (argsL := [(.long (1 : Int64)), (.long ((p2 &&& (9223372036854775807 : Int64)) >>> ((p3 &&& (63 : Int32)) &&& 0x3f).toInt64))]) (rest := []) (lenOf pd_0 rfl) rfl (by show 2 * 0 + _ ≤ _; exact Nat.le_of_eq rfl) (hb hby at_28) (fun _ _ => ⟨rfl, e0, (by decide : 0 + 0 ≤ _), (by decide : 0 + 0 ≤ _)⟩)
  dsimp only [Pt.U, Pt.locs, Pt.cells, Pt.slots] at X3 l3 y3 z3 st3 hQ3
  subst l3 y3 z3
  obtain ⟨rfl, Nq3, eh3⟩ := hQ3
  have N3 := Fr.app N0 Nq3
  have pre4 : ∀ t, own_K p e below m T3 31 #[lv p1, .second, lv p2, .second, iv p3, lv xd, .second, .unset, .unset, .unset, .unset, .unset, .unset, .unset, .unset, .unset, .unset] [(.long (if (1 : Int64) < ((p2 &&& (9223372036854775807 : Int64)) >>> ((p3 &&& (63 : Int32)) &&& 0x3f).toInt64) then ((p2 &&& (9223372036854775807 : Int64)) >>> ((p3 &&& (63 : Int32)) &&& 0x3f).toInt64) else (1 : Int64)))] t → G t := by
    intro t k
    refine pre2 t ?_
    show own_K p e below m s₁ 14 #[lv p1, .second, lv p2, .second, iv p3, .unset, .unset, .unset, .unset, .unset, .unset, .unset, .unset, .unset, .unset, .unset, .unset] [(.long xd)] _
    refine XS.lstore X0.here hx rfl (hb hby at_14) rfl (l' := #[lv p1, .second, lv p2, .second, iv p3, lv xd, .second, .unset, .unset, .unset, .unset, .unset, .unset, .unset, .unset, .unset, .unset]) rfl ?_
    show own_K p e below m s₁ 16 #[lv p1, .second, lv p2, .second, iv p3, lv xd, .second, .unset, .unset, .unset, .unset, .unset, .unset, .unset, .unset, .unset, .unset] [] _
    refine XS.lconst X0.here hx rfl (hb hby at_16) ?_
    show own_K p e below m s₁ 17 #[lv p1, .second, lv p2, .second, iv p3, lv xd, .second, .unset, .unset, .unset, .unset, .unset, .unset, .unset, .unset, .unset, .unset] [(.long (1 : Int64))] _
    refine XS.lloadN X0.here hx rfl (hb hby at_17) rfl ?_
    show own_K p e below m s₁ 18 #[lv p1, .second, lv p2, .second, iv p3, lv xd, .second, .unset, .unset, .unset, .unset, .unset, .unset, .unset, .unset, .unset, .unset] [(.long p2), (.long (1 : Int64))] _
    refine X0.ldc2Long hx hown (mvT hZ (hw _ (List.mem_of_getElem? (i := 0) rfl))) (g := (mkF m 18 #[lv p1, .second, lv p2, .second, iv p3, lv xd, .second, .unset, .unset, .unset, .unset, .unset, .unset, .unset, .unset, .unset, .unset] [(.long p2), (.long (1 : Int64))])) rfl (hb hby at_18) _ ?_
    show own_K p e below m s₁ 21 #[lv p1, .second, lv p2, .second, iv p3, lv xd, .second, .unset, .unset, .unset, .unset, .unset, .unset, .unset, .unset, .unset, .unset] [(.long (9223372036854775807 : Int64)), (.long p2), (.long (1 : Int64))] _
    refine XS.land X0.here hx rfl (hb hby at_21) rfl ?_
    show own_K p e below m s₁ 22 #[lv p1, .second, lv p2, .second, iv p3, lv xd, .second, .unset, .unset, .unset, .unset, .unset, .unset, .unset, .unset, .unset, .unset] [(.long (p2 &&& (9223372036854775807 : Int64))), (.long (1 : Int64))] _
    refine XS.iload X0.here hx rfl (hb hby at_22) rfl ?_
    show own_K p e below m s₁ 24 #[lv p1, .second, lv p2, .second, iv p3, lv xd, .second, .unset, .unset, .unset, .unset, .unset, .unset, .unset, .unset, .unset, .unset] [(.int p3), (.long (p2 &&& (9223372036854775807 : Int64))), (.long (1 : Int64))] _
    refine XS.bipush X0.here hx rfl (hb hby at_24) ?_
    show own_K p e below m s₁ 26 #[lv p1, .second, lv p2, .second, iv p3, lv xd, .second, .unset, .unset, .unset, .unset, .unset, .unset, .unset, .unset, .unset, .unset] [(.int (63 : Int32)), (.int p3), (.long (p2 &&& (9223372036854775807 : Int64))), (.long (1 : Int64))] _
    refine XS.iand X0.here hx rfl (hb hby at_26) rfl ?_
    show own_K p e below m s₁ 27 #[lv p1, .second, lv p2, .second, iv p3, lv xd, .second, .unset, .unset, .unset, .unset, .unset, .unset, .unset, .unset, .unset, .unset] [(.int (p3 &&& (63 : Int32))), (.long (p2 &&& (9223372036854775807 : Int64))), (.long (1 : Int64))] _
    refine XS.lshr X0.here hx rfl (hb hby at_27) rfl ?_
    show own_K p e below m s₁ 28 #[lv p1, .second, lv p2, .second, iv p3, lv xd, .second, .unset, .unset, .unset, .unset, .unset, .unset, .unset, .unset, .unset, .unset] [(.long ((p2 &&& (9223372036854775807 : Int64)) >>> ((p3 &&& (63 : Int32)) &&& 0x3f).toInt64)), (.long (1 : Int64))] _
    refine st3 _ ?_
    exact k
  obtain ⟨xv, hxv⟩ : ∃ z : Int64, z = (if (1 : Int64) < ((p2 &&& (9223372036854775807 : Int64)) >>> ((p3 &&& (63 : Int32)) &&& 0x3f).toInt64) then ((p2 &&& (9223372036854775807 : Int64)) >>> ((p3 &&& (63 : Int32)) &&& 0x3f).toInt64) else (1 : Int64)) := ⟨_, rfl⟩
  have pre5 : ∀ t, own_K p e below m T3 31 #[lv p1, .second, lv p2, .second, iv p3, lv xd, .second, .unset, .unset, .unset, .unset, .unset, .unset, .unset, .unset, .unset, .unset] [(.long xv)] t → G t := fun t k => pre4 t (by rw [hxv] at k; exact k)
  have pre6 : ∀ t, own_K p e below m T3 33 #[lv p1, .second, lv p2, .second, iv p3, lv xd, .second, lv xv, .second, .unset, .unset, .unset, .unset, .unset, .unset, .unset, .unset] [] t → G t := by
    intro t k
    refine pre5 t ?_
    show own_K p e below m T3 31 #[lv p1, .second, lv p2, .second, iv p3, lv xd, .second, .unset, .unset, .unset, .unset, .unset, .unset, .unset, .unset, .unset, .unset] [(.long xv)] _
    refine XS.lstore X3.here hx rfl (hb hby at_31) rfl (l' := #[lv p1, .second, lv p2, .second, iv p3, lv xd, .second, lv xv, .second, .unset, .unset, .unset, .unset, .unset, .unset, .unset, .unset]) rfl ?_
    exact k
  have hd0 : 0 ≤ xd.toInt := by rw [hxd]; exact own_nn _ _
  have hv1 : 0 < xv.toInt := by rw [hxv]; exact own_pos _
  have hv0 : xv ≠ 0 := by rintro rfl; exact absurd hv1 (by decide)
  obtain ⟨_, _, ⟨T7, L7, k7, n7⟩, -, X7, ⟨Lc7, hQ7, l7, y7, z7⟩, st7⟩ := Jvm.LawKit.callS X3 hx (y := (⟨"com/example/notewright/notewright/Figures", "roundedQuotient", "(JJ)J"⟩ : MethodName)) hown (mvT hZ (hw _ (List.mem_of_getElem? (i := 5) rfl))) (mvT hZ (hw _ (List.mem_of_getElem? (i := 6) rfl))) (mvT hZ (hw _ (List.mem_of_getElem? (i := 7) rfl))) (mvT hZ (hw _ (List.mem_of_getElem? (i := 8) rfl))) (by decide) (backOf (W := 0) (rm2 l Z a0 hw [] xd xv h0 n0 Z0 hv0) hZ (hw _ (List.mem_of_getElem? (i := 8) rfl)) (hw _ (List.mem_of_getElem? (i := 7) rfl)) (by decide) (by decide)) (g := (mkF m 37 #[lv p1, .second, lv p2, .second, iv p3, lv xd, .second, lv xv, .second, .unset, .unset, .unset, .unset, .unset, .unset, .unset, .unset] [(.long xv), (.long xd)])) rfl (by rw [hml]; rfl) (argsL := [(.long xd), (.long xv)]) (rest := []) (lenOf pd_0 rfl) rfl (by show 2 * 0 + _ ≤ _; exact Nat.le_of_eq rfl) (hb hby at_37) (fun _ _ => ⟨rfl, eh3, (by decide : 0 + 0 ≤ _), (by decide : 0 + 0 ≤ _)⟩)
  dsimp only [Pt.U, Pt.locs, Pt.cells, Pt.slots] at X7 l7 y7 z7 st7 hQ7
  subst l7 y7 z7
  obtain ⟨rfl, Nq7, eh7⟩ := hQ7
  have N7 := Fr.app N3 Nq7
  have pre8 : ∀ t, own_K p e below m T7 40 #[lv p1, .second, lv p2, .second, iv p3, lv xd, .second, lv xv, .second, .unset, .unset, .unset, .unset, .unset, .unset, .unset, .unset] [(.long (if (xd - (xd / xv) * xv) < (xv - (xd - (xd / xv) * xv)) then (xd / xv) else ((xd / xv) + (1 : Int64))))] t → G t := by
    intro t k
    refine pre6 t ?_
    show own_K p e below m T3 33 #[lv p1, .second, lv p2, .second, iv p3, lv xd, .second, lv xv, .second, .unset, .unset, .unset, .unset, .unset, .unset, .unset, .unset] [] _
    refine XS.lload X3.here hx rfl (hb hby at_33) rfl ?_
    show own_K p e below m T3 35 #[lv p1, .second, lv p2, .second, iv p3, lv xd, .second, lv xv, .second, .unset, .unset, .unset, .unset, .unset, .unset, .unset, .unset] [(.long xd)] _
    refine XS.lload X3.here hx rfl (hb hby at_35) rfl ?_
    show own_K p e below m T3 37 #[lv p1, .second, lv p2, .second, iv p3, lv xd, .second, lv xv, .second, .unset, .unset, .unset, .unset, .unset, .unset, .unset, .unset] [(.long xv), (.long xd)] _
    refine st7 _ ?_
    exact k
  obtain ⟨xq, hxq⟩ : ∃ z : Int64, z = (if (xd - (xd / xv) * xv) < (xv - (xd - (xd / xv) * xv)) then (xd / xv) else ((xd / xv) + (1 : Int64))) := ⟨_, rfl⟩
  have pre9 : ∀ t, own_K p e below m T7 40 #[lv p1, .second, lv p2, .second, iv p3, lv xd, .second, lv xv, .second, .unset, .unset, .unset, .unset, .unset, .unset, .unset, .unset] [(.long xq)] t → G t := fun t k => pre8 t (by rw [hxq] at k; exact k)
  have pre10 : ∀ t, own_K p e below m T7 47 #[lv p1, .second, lv p2, .second, iv p3, lv xd, .second, lv xv, .second, lv xq, .second, .unset, .unset, .unset, .unset, .unset, .unset] [(.long (xd / xv))] t → G t := by
    intro t k
    refine pre9 t ?_
    show own_K p e below m T7 40 #[lv p1, .second, lv p2, .second, iv p3, lv xd, .second, lv xv, .second, .unset, .unset, .unset, .unset, .unset, .unset, .unset, .unset] [(.long xq)] _
    refine XS.lstore X7.here hx rfl (hb hby at_40) rfl (l' := #[lv p1, .second, lv p2, .second, iv p3, lv xd, .second, lv xv, .second, lv xq, .second, .unset, .unset, .unset, .unset, .unset, .unset]) rfl ?_
    show own_K p e below m T7 42 #[lv p1, .second, lv p2, .second, iv p3, lv xd, .second, lv xv, .second, lv xq, .second, .unset, .unset, .unset, .unset, .unset, .unset] [] _
    refine XS.lload X7.here hx rfl (hb hby at_42) rfl ?_
    show own_K p e below m T7 44 #[lv p1, .second, lv p2, .second, iv p3, lv xd, .second, lv xv, .second, lv xq, .second, .unset, .unset, .unset, .unset, .unset, .unset] [(.long xd)] _
    refine XS.lload X7.here hx rfl (hb hby at_44) rfl ?_
    show own_K p e below m T7 46 #[lv p1, .second, lv p2, .second, iv p3, lv xd, .second, lv xv, .second, lv xq, .second, .unset, .unset, .unset, .unset, .unset, .unset] [(.long xv), (.long xd)] _
    refine XS.ldiv X7.here hx rfl (hb hby at_46) rfl hv0 ?_
    exact k
  obtain ⟨xf, hxf⟩ : ∃ z : Int64, z = (xd / xv) := ⟨_, rfl⟩
  have pre11 : ∀ t, own_K p e below m T7 47 #[lv p1, .second, lv p2, .second, iv p3, lv xd, .second, lv xv, .second, lv xq, .second, .unset, .unset, .unset, .unset, .unset, .unset] [(.long xf)] t → G t := fun t k => pre10 t (by rw [hxf] at k; exact k)
  have pre12 : ∀ t, own_K p e below m T7 49 #[lv p1, .second, lv p2, .second, iv p3, lv xd, .second, lv xv, .second, lv xq, .second, lv xf, .second, .unset, .unset, .unset, .unset] [] t → G t := by
    intro t k
    refine pre11 t ?_
    show own_K p e below m T7 47 #[lv p1, .second, lv p2, .second, iv p3, lv xd, .second, lv xv, .second, lv xq, .second, .unset, .unset, .unset, .unset, .unset, .unset] [(.long xf)] _
    refine XS.lstore X7.here hx rfl (hb hby at_47) rfl (l' := #[lv p1, .second, lv p2, .second, iv p3, lv xd, .second, lv xv, .second, lv xq, .second, lv xf, .second, .unset, .unset, .unset, .unset]) rfl ?_
    exact k
  have hP1 := own_law1 xd xv xq xf hxq hxf
  have pre13 : ∀ t, own_K p e below m T7 54 #[lv p1, .second, lv p2, .second, iv p3, lv xd, .second, lv xv, .second, lv xq, .second, lv xf, .second, .unset, .unset, .unset, .unset] [(.int (lcmpW xq xf))] t → G t := by
    intro t k
    refine pre12 t ?_
    show own_K p e below m T7 49 #[lv p1, .second, lv p2, .second, iv p3, lv xd, .second, lv xv, .second, lv xq, .second, lv xf, .second, .unset, .unset, .unset, .unset] [] _
    refine XS.lload X7.here hx rfl (hb hby at_49) rfl ?_
    show own_K p e below m T7 51 #[lv p1, .second, lv p2, .second, iv p3, lv xd, .second, lv xv, .second, lv xq, .second, lv xf, .second, .unset, .unset, .unset, .unset] [(.long xq)] _
    refine XS.lload X7.here hx rfl (hb hby at_51) rfl ?_
    show own_K p e below m T7 53 #[lv p1, .second, lv p2, .second, iv p3, lv xd, .second, lv xv, .second, lv xq, .second, lv xf, .second, .unset, .unset, .unset, .unset] [(.long xf), (.long xq)] _
    refine XS.lcmp X7.here hx rfl (hb hby at_53) rfl ?_
    exact k
  by_cases hc54_14 : xq = xf
  · have pre15 : ∀ t, own_K p e below m T7 77 #[lv p1, .second, lv p2, .second, iv p3, lv xd, .second, lv xv, .second, lv xq, .second, lv xf, .second, .unset, .unset, .unset, .unset] [(.long (xd - (xq * xv)))] t → G t := by
      intro t k
      refine pre13 t ?_
      show own_K p e below m T7 54 #[lv p1, .second, lv p2, .second, iv p3, lv xd, .second, lv xv, .second, lv xq, .second, lv xf, .second, .unset, .unset, .unset, .unset] [(.int (lcmpW xq xf))] _
      refine XS.ifYes X7.here hx rfl (pc0 := 54) (pc' := 69) rfl (hb hby at_54) rfl ((if0 _ _).trans (teq ((lw_eq _ _).mpr hc54_14)).1) (by decide) (by decide) ?_
      show own_K p e below m T7 69 #[lv p1, .second, lv p2, .second, iv p3, lv xd, .second, lv xv, .second, lv xq, .second, lv xf, .second, .unset, .unset, .unset, .unset] [] _
      refine XS.lload X7.here hx rfl (hb hby at_69) rfl ?_
      show own_K p e below m T7 71 #[lv p1, .second, lv p2, .second, iv p3, lv xd, .second, lv xv, .second, lv xq, .second, lv xf, .second, .unset, .unset, .unset, .unset] [(.long xd)] _
      refine XS.lload X7.here hx rfl (hb hby at_71) rfl ?_
      show own_K p e below m T7 73 #[lv p1, .second, lv p2, .second, iv p3, lv xd, .second, lv xv, .second, lv xq, .second, lv xf, .second, .unset, .unset, .unset, .unset] [(.long xq), (.long xd)] _
      refine XS.lload X7.here hx rfl (hb hby at_73) rfl ?_
      show own_K p e below m T7 75 #[lv p1, .second, lv p2, .second, iv p3, lv xd, .second, lv xv, .second, lv xq, .second, lv xf, .second, .unset, .unset, .unset, .unset] [(.long xv), (.long xq), (.long xd)] _
      refine XS.lmul X7.here hx rfl (hb hby at_75) rfl ?_
      show own_K p e below m T7 76 #[lv p1, .second, lv p2, .second, iv p3, lv xd, .second, lv xv, .second, lv xq, .second, lv xf, .second, .unset, .unset, .unset, .unset] [(.long (xq * xv)), (.long xd)] _
      refine XS.lsub X7.here hx rfl (hb hby at_76) rfl ?_
      exact k
    obtain ⟨xr, hxr⟩ : ∃ z : Int64, z = (xd - (xq * xv)) := ⟨_, rfl⟩
    have pre16 : ∀ t, own_K p e below m T7 77 #[lv p1, .second, lv p2, .second, iv p3, lv xd, .second, lv xv, .second, lv xq, .second, lv xf, .second, .unset, .unset, .unset, .unset] [(.long xr)] t → G t := fun t k => pre15 t (by rw [hxr] at k; exact k)
    have pre17 : ∀ t, own_K p e below m T7 79 #[lv p1, .second, lv p2, .second, iv p3, lv xd, .second, lv xv, .second, lv xq, .second, lv xf, .second, lv xr, .second, .unset, .unset] [] t → G t := by
      intro t k
      refine pre16 t ?_
      show own_K p e below m T7 77 #[lv p1, .second, lv p2, .second, iv p3, lv xd, .second, lv xv, .second, lv xq, .second, lv xf, .second, .unset, .unset, .unset, .unset] [(.long xr)] _
      refine XS.lstore X7.here hx rfl (hb hby at_77) rfl (l' := #[lv p1, .second, lv p2, .second, iv p3, lv xd, .second, lv xv, .second, lv xq, .second, lv xf, .second, lv xr, .second, .unset, .unset]) rfl ?_
      exact k
    have hP := own_law xd xv hd0 hv1 xq xr hxq hxr
    have pre18 : ∀ t, own_K p e below m T7 83 #[lv p1, .second, lv p2, .second, iv p3, lv xd, .second, lv xv, .second, lv xq, .second, lv xf, .second, lv xr, .second, .unset, .unset] [(.int (lcmpW xr (0 : Int64)))] t → G t := by
      intro t k
      refine pre17 t ?_
      show own_K p e below m T7 79 #[lv p1, .second, lv p2, .second, iv p3, lv xd, .second, lv xv, .second, lv xq, .second, lv xf, .second, lv xr, .second, .unset, .unset] [] _
      refine XS.lload X7.here hx rfl (hb hby at_79) rfl ?_
      show own_K p e below m T7 81 #[lv p1, .second, lv p2, .second, iv p3, lv xd, .second, lv xv, .second, lv xq, .second, lv xf, .second, lv xr, .second, .unset, .unset] [(.long xr)] _
      refine XS.lconst X7.here hx rfl (hb hby at_81) ?_
      show own_K p e below m T7 82 #[lv p1, .second, lv p2, .second, iv p3, lv xd, .second, lv xv, .second, lv xq, .second, lv xf, .second, lv xr, .second, .unset, .unset] [(.long (0 : Int64)), (.long xr)] _
      refine XS.lcmp X7.here hx rfl (hb hby at_82) rfl ?_
      exact k
    obtain ⟨v25, hv25⟩ : ∃ z : Int32, z = (if xr < (0 : Int64) then (1 : Int32) else (if xr < (xv - xr) then (1 : Int32) else (0 : Int32))) := ⟨_, rfl⟩
    have pre26 : ∀ t, own_K p e below m T7 102 #[lv p1, .second, lv p2, .second, iv p3, lv xd, .second, lv xv, .second, lv xq, .second, lv xf, .second, lv xr, .second, .unset, .unset] [(.int v25)] t → G t := by
      by_cases hc83_19 : xr < (0 : Int64)
      · have pre20 : ∀ t, own_K p e below m T7 102 #[lv p1, .second, lv p2, .second, iv p3, lv xd, .second, lv xv, .second, lv xq, .second, lv xf, .second, lv xr, .second, .unset, .unset] [(.int (1 : Int32))] t → G t := by
          intro t k
          refine pre18 t ?_
          show own_K p e below m T7 83 #[lv p1, .second, lv p2, .second, iv p3, lv xd, .second, lv xv, .second, lv xq, .second, lv xf, .second, lv xr, .second, .unset, .unset] [(.int (lcmpW xr (0 : Int64)))] _
          refine XS.ifYes X7.here hx rfl (pc0 := 83) (pc' := 97) rfl (hb hby at_83) rfl ((if0 _ _).trans (tlt ((lw_lt _ _).mpr hc83_19)).1) (by decide) (by decide) ?_
          show own_K p e below m T7 97 #[lv p1, .second, lv p2, .second, iv p3, lv xd, .second, lv xv, .second, lv xq, .second, lv xf, .second, lv xr, .second, .unset, .unset] [] _
          refine XS.iconst X7.here hx rfl (hb hby at_97) ?_
          show own_K p e below m T7 98 #[lv p1, .second, lv p2, .second, iv p3, lv xd, .second, lv xv, .second, lv xq, .second, lv xf, .second, lv xr, .second, .unset, .unset] [(.int (1 : Int32))] _
          refine XS.goto X7.here hx rfl (pc0 := 98) (pc' := 102) rfl (hb hby at_98) (by decide) (by decide) ?_
          exact k
        have hq := True.intro
        obtain rfl : v25 = (1 : Int32) := by simp only [hv25, if_pos hc83_19]
        exact fun t k => pre20 t k
      · have pre21 : ∀ t, own_K p e below m T7 94 #[lv p1, .second, lv p2, .second, iv p3, lv xd, .second, lv xv, .second, lv xq, .second, lv xf, .second, lv xr, .second, .unset, .unset] [(.int (lcmpW xr (xv - xr)))] t → G t := by
          intro t k
          refine pre18 t ?_
          show own_K p e below m T7 83 #[lv p1, .second, lv p2, .second, iv p3, lv xd, .second, lv xv, .second, lv xq, .second, lv xf, .second, lv xr, .second, .unset, .unset] [(.int (lcmpW xr (0 : Int64)))] _
          refine XS.ifNo X7.here hx rfl (hb hby at_83) rfl ((if0 _ _).trans (flt (mt (lw_lt _ _).mp hc83_19)).1) ?_
          show own_K p e below m T7 86 #[lv p1, .second, lv p2, .second, iv p3, lv xd, .second, lv xv, .second, lv xq, .second, lv xf, .second, lv xr, .second, .unset, .unset] [] _
          refine XS.lload X7.here hx rfl (hb hby at_86) rfl ?_
          show own_K p e below m T7 88 #[lv p1, .second, lv p2, .second, iv p3, lv xd, .second, lv xv, .second, lv xq, .second, lv xf, .second, lv xr, .second, .unset, .unset] [(.long xr)] _
          refine XS.lload X7.here hx rfl (hb hby at_88) rfl ?_
          show own_K p e below m T7 90 #[lv p1, .second, lv p2, .second, iv p3, lv xd, .second, lv xv, .second, lv xq, .second, lv xf, .second, lv xr, .second, .unset, .unset] [(.long xv), (.long xr)] _
          refine XS.lload X7.here hx rfl (hb hby at_90) rfl ?_
          show own_K p e below m T7 92 #[lv p1, .second, lv p2, .second, iv p3, lv xd, .second, lv xv, .second, lv xq, .second, lv xf, .second, lv xr, .second, .unset, .unset] [(.long xr), (.long xv), (.long xr)] _
          refine XS.lsub X7.here hx rfl (hb hby at_92) rfl ?_
          show own_K p e below m T7 93 #[lv p1, .second, lv p2, .second, iv p3, lv xd, .second, lv xv, .second, lv xq, .second, lv xf, .second, lv xr, .second, .unset, .unset] [(.long (xv - xr)), (.long xr)] _
          refine XS.lcmp X7.here hx rfl (hb hby at_93) rfl ?_
          exact k
        by_cases hc94_22 : xr < (xv - xr)
        · have pre23 : ∀ t, own_K p e below m T7 102 #[lv p1, .second, lv p2, .second, iv p3, lv xd, .second, lv xv, .second, lv xq, .second, lv xf, .second, lv xr, .second, .unset, .unset] [(.int (1 : Int32))] t → G t := by
            intro t k
            refine pre21 t ?_
            show own_K p e below m T7 94 #[lv p1, .second, lv p2, .second, iv p3, lv xd, .second, lv xv, .second, lv xq, .second, lv xf, .second, lv xr, .second, .unset, .unset] [(.int (lcmpW xr (xv - xr)))] _
            refine XS.ifNo X7.here hx rfl (hb hby at_94) rfl ((if0 _ _).trans (tlt ((lw_lt _ _).mpr hc94_22)).2.1) ?_
            show own_K p e below m T7 97 #[lv p1, .second, lv p2, .second, iv p3, lv xd, .second, lv xv, .second, lv xq, .second, lv xf, .second, lv xr, .second, .unset, .unset] [] _
            refine XS.iconst X7.here hx rfl (hb hby at_97) ?_
            show own_K p e below m T7 98 #[lv p1, .second, lv p2, .second, iv p3, lv xd, .second, lv xv, .second, lv xq, .second, lv xf, .second, lv xr, .second, .unset, .unset] [(.int (1 : Int32))] _
            refine XS.goto X7.here hx rfl (pc0 := 98) (pc' := 102) rfl (hb hby at_98) (by decide) (by decide) ?_
            exact k
          have hq := True.intro
          obtain rfl : v25 = (1 : Int32) := by simp only [hv25, if_neg hc83_19, if_pos hc94_22]
          exact fun t k => pre23 t k
        · have pre24 : ∀ t, own_K p e below m T7 102 #[lv p1, .second, lv p2, .second, iv p3, lv xd, .second, lv xv, .second, lv xq, .second, lv xf, .second, lv xr, .second, .unset, .unset] [(.int (0 : Int32))] t → G t := by
            intro t k
            refine pre21 t ?_
            show own_K p e below m T7 94 #[lv p1, .second, lv p2, .second, iv p3, lv xd, .second, lv xv, .second, lv xq, .second, lv xf, .second, lv xr, .second, .unset, .unset] [(.int (lcmpW xr (xv - xr)))] _
            refine XS.ifYes X7.here hx rfl (pc0 := 94) (pc' := 101) rfl (hb hby at_94) rfl ((if0 _ _).trans (flt (mt (lw_lt _ _).mp hc94_22)).2.1) (by decide) (by decide) ?_
            show own_K p e below m T7 101 #[lv p1, .second, lv p2, .second, iv p3, lv xd, .second, lv xv, .second, lv xq, .second, lv xf, .second, lv xr, .second, .unset, .unset] [] _
            refine XS.iconst X7.here hx rfl (hb hby at_101) ?_
            exact k
          have hq := True.intro
          obtain rfl : v25 = (0 : Int32) := by simp only [hv25, if_neg hc83_19, if_neg hc94_22]
          exact fun t k => pre24 t k
    have pre27 : ∀ t, own_K p e below m T7 108 #[lv p1, .second, lv p2, .second, iv p3, lv xd, .second, lv xv, .second, lv xq, .second, lv xf, .second, lv xr, .second, iv v25, .unset] [(.int (lcmpW xr (0 : Int64)))] t → G t := by
      intro t k
      refine pre26 t ?_
      show own_K p e below m T7 102 #[lv p1, .second, lv p2, .second, iv p3, lv xd, .second, lv xv, .second, lv xq, .second, lv xf, .second, lv xr, .second, .unset, .unset] [(.int v25)] _
      refine XS.istore X7.here hx rfl (hb hby at_102) rfl (l' := #[lv p1, .second, lv p2, .second, iv p3, lv xd, .second, lv xv, .second, lv xq, .second, lv xf, .second, lv xr, .second, iv v25, .unset]) rfl ?_
      show own_K p e below m T7 104 #[lv p1, .second, lv p2, .second, iv p3, lv xd, .second, lv xv, .second, lv xq, .second, lv xf, .second, lv xr, .second, iv v25, .unset] [] _
      refine XS.lload X7.here hx rfl (hb hby at_104) rfl ?_
      show own_K p e below m T7 106 #[lv p1, .second, lv p2, .second, iv p3, lv xd, .second, lv xv, .second, lv xq, .second, lv xf, .second, lv xr, .second, iv v25, .unset] [(.long xr)] _
      refine XS.lconst X7.here hx rfl (hb hby at_106) ?_
      show own_K p e below m T7 107 #[lv p1, .second, lv p2, .second, iv p3, lv xd, .second, lv xv, .second, lv xq, .second, lv xf, .second, lv xr, .second, iv v25, .unset] [(.long (0 : Int64)), (.long xr)] _
      refine XS.lcmp X7.here hx rfl (hb hby at_107) rfl ?_
      exact k
    obtain ⟨v34, hv34⟩ : ∃ z : Int32, z = (if xr < (0 : Int64) then (if xr < ((-xv) - xr) then (0 : Int32) else (1 : Int32)) else (1 : Int32)) := ⟨_, rfl⟩
    have pre35 : ∀ t, own_K p e below m T7 128 #[lv p1, .second, lv p2, .second, iv p3, lv xd, .second, lv xv, .second, lv xq, .second, lv xf, .second, lv xr, .second, iv v25, .unset] [(.int v34)] t → G t := by
      by_cases hc108_28 : xr < (0 : Int64)
      · have pre29 : ∀ t, own_K p e below m T7 120 #[lv p1, .second, lv p2, .second, iv p3, lv xd, .second, lv xv, .second, lv xq, .second, lv xf, .second, lv xr, .second, iv v25, .unset] [(.int (lcmpW xr ((-xv) - xr)))] t → G t := by
          intro t k
          refine pre27 t ?_
          show own_K p e below m T7 108 #[lv p1, .second, lv p2, .second, iv p3, lv xd, .second, lv xv, .second, lv xq, .second, lv xf, .second, lv xr, .second, iv v25, .unset] [(.int (lcmpW xr (0 : Int64)))] _
          refine XS.ifNo X7.here hx rfl (hb hby at_108) rfl ((if0 _ _).trans (tlt ((lw_lt _ _).mpr hc108_28)).2.1) ?_
          show own_K p e below m T7 111 #[lv p1, .second, lv p2, .second, iv p3, lv xd, .second, lv xv, .second, lv xq, .second, lv xf, .second, lv xr, .second, iv v25, .unset] [] _
          refine XS.lload X7.here hx rfl (hb hby at_111) rfl ?_
          show own_K p e below m T7 113 #[lv p1, .second, lv p2, .second, iv p3, lv xd, .second, lv xv, .second, lv xq, .second, lv xf, .second, lv xr, .second, iv v25, .unset] [(.long xr)] _
          refine XS.lload X7.here hx rfl (hb hby at_113) rfl ?_
          show own_K p e below m T7 115 #[lv p1, .second, lv p2, .second, iv p3, lv xd, .second, lv xv, .second, lv xq, .second, lv xf, .second, lv xr, .second, iv v25, .unset] [(.long xv), (.long xr)] _
          refine XS.lneg X7.here hx rfl (hb hby at_115) rfl ?_
          show own_K p e below m T7 116 #[lv p1, .second, lv p2, .second, iv p3, lv xd, .second, lv xv, .second, lv xq, .second, lv xf, .second, lv xr, .second, iv v25, .unset] [(.long (-xv)), (.long xr)] _
          refine XS.lload X7.here hx rfl (hb hby at_116) rfl ?_
          show own_K p e below m T7 118 #[lv p1, .second, lv p2, .second, iv p3, lv xd, .second, lv xv, .second, lv xq, .second, lv xf, .second, lv xr, .second, iv v25, .unset] [(.long xr), (.long (-xv)), (.long xr)] _
          refine XS.lsub X7.here hx rfl (hb hby at_118) rfl ?_
          show own_K p e below m T7 119 #[lv p1, .second, lv p2, .second, iv p3, lv xd, .second, lv xv, .second, lv xq, .second, lv xf, .second, lv xr, .second, iv v25, .unset] [(.long ((-xv) - xr)), (.long xr)] _
          refine XS.lcmp X7.here hx rfl (hb hby at_119) rfl ?_
          exact k
        by_cases hc120_30 : xr < ((-xv) - xr)
        · have pre31 : ∀ t, own_K p e below m T7 128 #[lv p1, .second, lv p2, .second, iv p3, lv xd, .second, lv xv, .second, lv xq, .second, lv xf, .second, lv xr, .second, iv v25, .unset] [(.int (0 : Int32))] t → G t := by
            intro t k
            refine pre29 t ?_
            show own_K p e below m T7 120 #[lv p1, .second, lv p2, .second, iv p3, lv xd, .second, lv xv, .second, lv xq, .second, lv xf, .second, lv xr, .second, iv v25, .unset] [(.int (lcmpW xr ((-xv) - xr)))] _
            refine XS.ifYes X7.here hx rfl (pc0 := 120) (pc' := 127) rfl (hb hby at_120) rfl ((if0 _ _).trans (tlt ((lw_lt _ _).mpr hc120_30)).1) (by decide) (by decide) ?_
            show own_K p e below m T7 127 #[lv p1, .second, lv p2, .second, iv p3, lv xd, .second, lv xv, .second, lv xq, .second, lv xf, .second, lv xr, .second, iv v25, .unset] [] _
            refine XS.iconst X7.here hx rfl (hb hby at_127) ?_
            exact k
          have hq := True.intro
          obtain rfl : v34 = (0 : Int32) := by simp only [hv34, if_pos hc108_28, if_pos hc120_30]
          exact fun t k => pre31 t k
        · have pre32 : ∀ t, own_K p e below m T7 128 #[lv p1, .second, lv p2, .second, iv p3, lv xd, .second, lv xv, .second, lv xq, .second, lv xf, .second, lv xr, .second, iv v25, .unset] [(.int (1 : Int32))] t → G t := by
            intro t k
            refine pre29 t ?_
            show own_K p e below m T7 120 #[lv p1, .second, lv p2, .second, iv p3, lv xd, .second, lv xv, .second, lv xq, .second, lv xf, .second, lv xr, .second, iv v25, .unset] [(.int (lcmpW xr ((-xv) - xr)))] _
            refine XS.ifNo X7.here hx rfl (hb hby at_120) rfl ((if0 _ _).trans (flt (mt (lw_lt _ _).mp hc120_30)).1) ?_
            show own_K p e below m T7 123 #[lv p1, .second, lv p2, .second, iv p3, lv xd, .second, lv xv, .second, lv xq, .second, lv xf, .second, lv xr, .second, iv v25, .unset] [] _
            refine XS.iconst X7.here hx rfl (hb hby at_123) ?_
            show own_K p e below m T7 124 #[lv p1, .second, lv p2, .second, iv p3, lv xd, .second, lv xv, .second, lv xq, .second, lv xf, .second, lv xr, .second, iv v25, .unset] [(.int (1 : Int32))] _
            refine XS.goto X7.here hx rfl (pc0 := 124) (pc' := 128) rfl (hb hby at_124) (by decide) (by decide) ?_
            exact k
          have hq := True.intro
          obtain rfl : v34 = (1 : Int32) := by simp only [hv34, if_pos hc108_28, if_neg hc120_30]
          exact fun t k => pre32 t k
      · have pre33 : ∀ t, own_K p e below m T7 128 #[lv p1, .second, lv p2, .second, iv p3, lv xd, .second, lv xv, .second, lv xq, .second, lv xf, .second, lv xr, .second, iv v25, .unset] [(.int (1 : Int32))] t → G t := by
          intro t k
          refine pre27 t ?_
          show own_K p e below m T7 108 #[lv p1, .second, lv p2, .second, iv p3, lv xd, .second, lv xv, .second, lv xq, .second, lv xf, .second, lv xr, .second, iv v25, .unset] [(.int (lcmpW xr (0 : Int64)))] _
          refine XS.ifYes X7.here hx rfl (pc0 := 108) (pc' := 123) rfl (hb hby at_108) rfl ((if0 _ _).trans (flt (mt (lw_lt _ _).mp hc108_28)).2.1) (by decide) (by decide) ?_
          show own_K p e below m T7 123 #[lv p1, .second, lv p2, .second, iv p3, lv xd, .second, lv xv, .second, lv xq, .second, lv xf, .second, lv xr, .second, iv v25, .unset] [] _
          refine XS.iconst X7.here hx rfl (hb hby at_123) ?_
          show own_K p e below m T7 124 #[lv p1, .second, lv p2, .second, iv p3, lv xd, .second, lv xv, .second, lv xq, .second, lv xf, .second, lv xr, .second, iv v25, .unset] [(.int (1 : Int32))] _
          refine XS.goto X7.here hx rfl (pc0 := 124) (pc' := 128) rfl (hb hby at_124) (by decide) (by decide) ?_
          exact k
        have hq := True.intro
        obtain rfl : v34 = (1 : Int32) := by simp only [hv34, if_neg hc108_28]
        exact fun t k => pre33 t k
    have pre36 : ∀ t, own_K p e below m T7 130 #[lv p1, .second, lv p2, .second, iv p3, lv xd, .second, lv xv, .second, lv xq, .second, lv xf, .second, lv xr, .second, iv v25, iv v34] [] t → G t := by
      intro t k
      refine pre35 t ?_
      show own_K p e below m T7 128 #[lv p1, .second, lv p2, .second, iv p3, lv xd, .second, lv xv, .second, lv xq, .second, lv xf, .second, lv xr, .second, iv v25, .unset] [(.int v34)] _
      refine XS.istore X7.here hx rfl (hb hby at_128) rfl (l' := #[lv p1, .second, lv p2, .second, iv p3, lv xd, .second, lv xv, .second, lv xq, .second, lv xf, .second, lv xr, .second, iv v25, iv v34]) rfl ?_
      exact k
    have hb1 : v25 = 1 := hv25.trans (own_b1 _ _ hP.1)
    have hb2 : v34 = 1 := hv34.trans (own_b2 _ _ hP.2)
    have pre37 : ∀ t, own_K p e below m T7 145 #[lv p1, .second, lv p2, .second, iv p3, lv xd, .second, lv xv, .second, lv xq, .second, lv xf, .second, lv xr, .second, iv v25, iv v34] [(.int (1 : Int32))] t → G t := by
      intro t k
      refine pre36 t ?_
      show own_K p e below m T7 130 #[lv p1, .second, lv p2, .second, iv p3, lv xd, .second, lv xv, .second, lv xq, .second, lv xf, .second, lv xr, .second, iv v25, iv v34] [] _
      refine XS.iload X7.here hx rfl (hb hby at_130) rfl ?_
      show own_K p e below m T7 132 #[lv p1, .second, lv p2, .second, iv p3, lv xd, .second, lv xv, .second, lv xq, .second, lv xf, .second, lv xr, .second, iv v25, iv v34] [(.int v25)] _
      refine XS.ifNo X7.here hx rfl (hb hby at_132) rfl ((if0 _ _).trans (feq (by rw [hb1]; decide)).1) ?_
      show own_K p e below m T7 135 #[lv p1, .second, lv p2, .second, iv p3, lv xd, .second, lv xv, .second, lv xq, .second, lv xf, .second, lv xr, .second, iv v25, iv v34] [] _
      refine XS.iload X7.here hx rfl (hb hby at_135) rfl ?_
      show own_K p e below m T7 137 #[lv p1, .second, lv p2, .second, iv p3, lv xd, .second, lv xv, .second, lv xq, .second, lv xf, .second, lv xr, .second, iv v25, iv v34] [(.int v34)] _
      refine XS.ifNo X7.here hx rfl (hb hby at_137) rfl ((if0 _ _).trans (feq (by rw [hb2]; decide)).1) ?_
      show own_K p e below m T7 140 #[lv p1, .second, lv p2, .second, iv p3, lv xd, .second, lv xv, .second, lv xq, .second, lv xf, .second, lv xr, .second, iv v25, iv v34] [] _
      refine XS.iconst X7.here hx rfl (hb hby at_140) ?_
      show own_K p e below m T7 141 #[lv p1, .second, lv p2, .second, iv p3, lv xd, .second, lv xv, .second, lv xq, .second, lv xf, .second, lv xr, .second, iv v25, iv v34] [(.int (1 : Int32))] _
      refine XS.goto X7.here hx rfl (pc0 := 141) (pc' := 145) rfl (hb hby at_141) (by decide) (by decide) ?_
      exact k
    obtain ⟨fs, hr, hrun, hended, hW, hsame⟩ := X7.leave (v := some (.int (1 : Int32))) (fun h => by rw [Bd.returns] at h; cases h)
    refine ⟨_, _, hG _ (pre37 _ ?_), hrun, hended, _, _, rfl, ?_, ⟨_, rfl⟩, hW, hsame.mono (by decide) (by decide)⟩
    · show own_K p e below m T7 145 #[lv p1, .second, lv p2, .second, iv p3, lv xd, .second, lv xv, .second, lv xq, .second, lv xf, .second, lv xr, .second, iv v25, iv v34] [(.int (1 : Int32))] _
      exact retN X7 hx (t := .boolean) Bd.returns (by simp) (hb hby at_145) hr
    · show Q0 Z p1 p2 p3 h0 n0 _ T7.heap _
      rw [eh7]
      exact ⟨rfl, N7, rfl⟩
  · have pre38 : ∀ t, own_K p e below m T7 64 #[lv p1, .second, lv p2, .second, iv p3, lv xd, .second, lv xv, .second, lv xq, .second, lv xf, .second, .unset, .unset, .unset, .unset] [(.int (lcmpW xq (xf + (1 : Int64))))] t → G t := by
      intro t k
      refine pre13 t ?_
      show own_K p e below m T7 54 #[lv p1, .second, lv p2, .second, iv p3, lv xd, .second, lv xv, .second, lv xq, .second, lv xf, .second, .unset, .unset, .unset, .unset] [(.int (lcmpW xq xf))] _
      refine XS.ifNo X7.here hx rfl (hb hby at_54) rfl ((if0 _ _).trans (feq (mt (lw_eq _ _).mp hc54_14)).1) ?_
      show own_K p e below m T7 57 #[lv p1, .second, lv p2, .second, iv p3, lv xd, .second, lv xv, .second, lv xq, .second, lv xf, .second, .unset, .unset, .unset, .unset] [] _
      refine XS.lload X7.here hx rfl (hb hby at_57) rfl ?_
      show own_K p e below m T7 59 #[lv p1, .second, lv p2, .second, iv p3, lv xd, .second, lv xv, .second, lv xq, .second, lv xf, .second, .unset, .unset, .unset, .unset] [(.long xq)] _
      refine XS.lload X7.here hx rfl (hb hby at_59) rfl ?_
      show own_K p e below m T7 61 #[lv p1, .second, lv p2, .second, iv p3, lv xd, .second, lv xv, .second, lv xq, .second, lv xf, .second, .unset, .unset, .unset, .unset] [(.long xf), (.long xq)] _
      refine XS.lconst X7.here hx rfl (hb hby at_61) ?_
      show own_K p e below m T7 62 #[lv p1, .second, lv p2, .second, iv p3, lv xd, .second, lv xv, .second, lv xq, .second, lv xf, .second, .unset, .unset, .unset, .unset] [(.long (1 : Int64)), (.long xf), (.long xq)] _
      refine XS.ladd X7.here hx rfl (hb hby at_62) rfl ?_
      show own_K p e below m T7 63 #[lv p1, .second, lv p2, .second, iv p3, lv xd, .second, lv xv, .second, lv xq, .second, lv xf, .second, .unset, .unset, .unset, .unset] [(.long (xf + (1 : Int64))), (.long xq)] _
      refine XS.lcmp X7.here hx rfl (hb hby at_63) rfl ?_
      exact k
    by_cases hc64_39 : xq = (xf + (1 : Int64))
    · have pre40 : ∀ t, own_K p e below m T7 77 #[lv p1, .second, lv p2, .second, iv p3, lv xd, .second, lv xv, .second, lv xq, .second, lv xf, .second, .unset, .unset, .unset, .unset] [(.long (xd - (xq * xv)))] t → G t := by
        intro t k
        refine pre38 t ?_
        show own_K p e below m T7 64 #[lv p1, .second, lv p2, .second, iv p3, lv xd, .second, lv xv, .second, lv xq, .second, lv xf, .second, .unset, .unset, .unset, .unset] [(.int (lcmpW xq (xf + (1 : Int64))))] _
        refine XS.ifYes X7.here hx rfl (pc0 := 64) (pc' := 69) rfl (hb hby at_64) rfl ((if0 _ _).trans (teq ((lw_eq _ _).mpr hc64_39)).1) (by decide) (by decide) ?_
        show own_K p e below m T7 69 #[lv p1, .second, lv p2, .second, iv p3, lv xd, .second, lv xv, .second, lv xq, .second, lv xf, .second, .unset, .unset, .unset, .unset] [] _
        refine XS.lload X7.here hx rfl (hb hby at_69) rfl ?_
        show own_K p e below m T7 71 #[lv p1, .second, lv p2, .second, iv p3, lv xd, .second, lv xv, .second, lv xq, .second, lv xf, .second, .unset, .unset, .unset, .unset] [(.long xd)] _
        refine XS.lload X7.here hx rfl (hb hby at_71) rfl ?_
        show own_K p e below m T7 73 #[lv p1, .second, lv p2, .second, iv p3, lv xd, .second, lv xv, .second, lv xq, .second, lv xf, .second, .unset, .unset, .unset, .unset] [(.long xq), (.long xd)] _
        refine XS.lload X7.here hx rfl (hb hby at_73) rfl ?_
        show own_K p e below m T7 75 #[lv p1, .second, lv p2, .second, iv p3, lv xd, .second, lv xv, .second, lv xq, .second, lv xf, .second, .unset, .unset, .unset, .unset] [(.long xv), (.long xq), (.long xd)] _
        refine XS.lmul X7.here hx rfl (hb hby at_75) rfl ?_
        show own_K p e below m T7 76 #[lv p1, .second, lv p2, .second, iv p3, lv xd, .second, lv xv, .second, lv xq, .second, lv xf, .second, .unset, .unset, .unset, .unset] [(.long (xq * xv)), (.long xd)] _
        refine XS.lsub X7.here hx rfl (hb hby at_76) rfl ?_
        exact k
      obtain ⟨xr, hxr⟩ : ∃ z : Int64, z = (xd - (xq * xv)) := ⟨_, rfl⟩
      have pre41 : ∀ t, own_K p e below m T7 77 #[lv p1, .second, lv p2, .second, iv p3, lv xd, .second, lv xv, .second, lv xq, .second, lv xf, .second, .unset, .unset, .unset, .unset] [(.long xr)] t → G t := fun t k => pre40 t (by rw [hxr] at k; exact k)
      have pre42 : ∀ t, own_K p e below m T7 79 #[lv p1, .second, lv p2, .second, iv p3, lv xd, .second, lv xv, .second, lv xq, .second, lv xf, .second, lv xr, .second, .unset, .unset] [] t → G t := by
        intro t k
        refine pre41 t ?_
        show own_K p e below m T7 77 #[lv p1, .second, lv p2, .second, iv p3, lv xd, .second, lv xv, .second, lv xq, .second, lv xf, .second, .unset, .unset, .unset, .unset] [(.long xr)] _
        refine XS.lstore X7.here hx rfl (hb hby at_77) rfl (l' := #[lv p1, .second, lv p2, .second, iv p3, lv xd, .second, lv xv, .second, lv xq, .second, lv xf, .second, lv xr, .second, .unset, .unset]) rfl ?_
        exact k
      have hP := own_law xd xv hd0 hv1 xq xr hxq hxr
      have pre43 : ∀ t, own_K p e below m T7 83 #[lv p1, .second, lv p2, .second, iv p3, lv xd, .second, lv xv, .second, lv xq, .second, lv xf, .second, lv xr, .second, .unset, .unset] [(.int (lcmpW xr (0 : Int64)))] t → G t := by
        intro t k
        refine pre42 t ?_
        show own_K p e below m T7 79 #[lv p1, .second, lv p2, .second, iv p3, lv xd, .second, lv xv, .second, lv xq, .second, lv xf, .second, lv xr, .second, .unset, .unset] [] _
        refine XS.lload X7.here hx rfl (hb hby at_79) rfl ?_
        show own_K p e below m T7 81 #[lv p1, .second, lv p2, .second, iv p3, lv xd, .second, lv xv, .second, lv xq, .second, lv xf, .second, lv xr, .second, .unset, .unset] [(.long xr)] _
        refine XS.lconst X7.here hx rfl (hb hby at_81) ?_
        show own_K p e below m T7 82 #[lv p1, .second, lv p2, .second, iv p3, lv xd, .second, lv xv, .second, lv xq, .second, lv xf, .second, lv xr, .second, .unset, .unset] [(.long (0 : Int64)), (.long xr)] _
        refine XS.lcmp X7.here hx rfl (hb hby at_82) rfl ?_
        exact k
      obtain ⟨v50, hv50⟩ : ∃ z : Int32, z = (if xr < (0 : Int64) then (1 : Int32) else (if xr < (xv - xr) then (1 : Int32) else (0 : Int32))) := ⟨_, rfl⟩
      have pre51 : ∀ t, own_K p e below m T7 102 #[lv p1, .second, lv p2, .second, iv p3, lv xd, .second, lv xv, .second, lv xq, .second, lv xf, .second, lv xr, .second, .unset, .unset] [(.int v50)] t → G t := by
        by_cases hc83_44 : xr < (0 : Int64)
        · have pre45 : ∀ t, own_K p e below m T7 102 #[lv p1, .second, lv p2, .second, iv p3, lv xd, .second, lv xv, .second, lv xq, .second, lv xf, .second, lv xr, .second, .unset, .unset] [(.int (1 : Int32))] t → G t := by
            intro t k
            refine pre43 t ?_
            show own_K p e below m T7 83 #[lv p1, .second, lv p2, .second, iv p3, lv xd, .second, lv xv, .second, lv xq, .second, lv xf, .second, lv xr, .second, .unset, .unset] [(.int (lcmpW xr (0 : Int64)))] _
            refine XS.ifYes X7.here hx rfl (pc0 := 83) (pc' := 97) rfl (hb hby at_83) rfl ((if0 _ _).trans (tlt ((lw_lt _ _).mpr hc83_44)).1) (by decide) (by decide) ?_
            show own_K p e below m T7 97 #[lv p1, .second, lv p2, .second, iv p3, lv xd, .second, lv xv, .second, lv xq, .second, lv xf, .second, lv xr, .second, .unset, .unset] [] _
            refine XS.iconst X7.here hx rfl (hb hby at_97) ?_
            show own_K p e below m T7 98 #[lv p1, .second, lv p2, .second, iv p3, lv xd, .second, lv xv, .second, lv xq, .second, lv xf, .second, lv xr, .second, .unset, .unset] [(.int (1 : Int32))] _
            refine XS.goto X7.here hx rfl (pc0 := 98) (pc' := 102) rfl (hb hby at_98) (by decide) (by decide) ?_
            exact k
          have hq := True.intro
          obtain rfl : v50 = (1 : Int32) := by simp only [hv50, if_pos hc83_44]
          exact fun t k => pre45 t k
        · have pre46 : ∀ t, own_K p e below m T7 94 #[lv p1, .second, lv p2, .second, iv p3, lv xd, .second, lv xv, .second, lv xq, .second, lv xf, .second, lv xr, .second, .unset, .unset] [(.int (lcmpW xr (xv - xr)))] t → G t := by
            intro t k
            refine pre43 t ?_
            show own_K p e below m T7 83 #[lv p1, .second, lv p2, .second, iv p3, lv xd, .second, lv xv, .second, lv xq, .second, lv xf, .second, lv xr, .second, .unset, .unset] [(.int (lcmpW xr (0 : Int64)))] _
            refine XS.ifNo X7.here hx rfl (hb hby at_83) rfl ((if0 _ _).trans (flt (mt (lw_lt _ _).mp hc83_44)).1) ?_
            show own_K p e below m T7 86 #[lv p1, .second, lv p2, .second, iv p3, lv xd, .second, lv xv, .second, lv xq, .second, lv xf, .second, lv xr, .second, .unset, .unset] [] _
            refine XS.lload X7.here hx rfl (hb hby at_86) rfl ?_
            show own_K p e below m T7 88 #[lv p1, .second, lv p2, .second, iv p3, lv xd, .second, lv xv, .second, lv xq, .second, lv xf, .second, lv xr, .second, .unset, .unset] [(.long xr)] _
            refine XS.lload X7.here hx rfl (hb hby at_88) rfl ?_
            show own_K p e below m T7 90 #[lv p1, .second, lv p2, .second, iv p3, lv xd, .second, lv xv, .second, lv xq, .second, lv xf, .second, lv xr, .second, .unset, .unset] [(.long xv), (.long xr)] _
            refine XS.lload X7.here hx rfl (hb hby at_90) rfl ?_
            show own_K p e below m T7 92 #[lv p1, .second, lv p2, .second, iv p3, lv xd, .second, lv xv, .second, lv xq, .second, lv xf, .second, lv xr, .second, .unset, .unset] [(.long xr), (.long xv), (.long xr)] _
            refine XS.lsub X7.here hx rfl (hb hby at_92) rfl ?_
            show own_K p e below m T7 93 #[lv p1, .second, lv p2, .second, iv p3, lv xd, .second, lv xv, .second, lv xq, .second, lv xf, .second, lv xr, .second, .unset, .unset] [(.long (xv - xr)), (.long xr)] _
            refine XS.lcmp X7.here hx rfl (hb hby at_93) rfl ?_
            exact k
          by_cases hc94_47 : xr < (xv - xr)
          · have pre48 : ∀ t, own_K p e below m T7 102 #[lv p1, .second, lv p2, .second, iv p3, lv xd, .second, lv xv, .second, lv xq, .second, lv xf, .second, lv xr, .second, .unset, .unset] [(.int (1 : Int32))] t → G t := by
              intro t k
              refine pre46 t ?_
              show own_K p e below m T7 94 #[lv p1, .second, lv p2, .second, iv p3, lv xd, .second, lv xv, .second, lv xq, .second, lv xf, .second, lv xr, .second, .unset, .unset] [(.int (lcmpW xr (xv - xr)))] _
              refine XS.ifNo X7.here hx rfl (hb hby at_94) rfl ((if0 _ _).trans (tlt ((lw_lt _ _).mpr hc94_47)).2.1) ?_
              show own_K p e below m T7 97 #[lv p1, .second, lv p2, .second, iv p3, lv xd, .second, lv xv, .second, lv xq, .second, lv xf, .second, lv xr, .second, .unset, .unset] [] _
              refine XS.iconst X7.here hx rfl (hb hby at_97) ?_
              show own_K p e below m T7 98 #[lv p1, .second, lv p2, .second, iv p3, lv xd, .second, lv xv, .second, lv xq, .second, lv xf, .second, lv xr, .second, .unset, .unset] [(.int (1 : Int32))] _
              refine XS.goto X7.here hx rfl (pc0 := 98) (pc' := 102) rfl (hb hby at_98) (by decide) (by decide) ?_
              exact k
            have hq := True.intro
            obtain rfl : v50 = (1 : Int32) := by simp only [hv50, if_neg hc83_44, if_pos hc94_47]
            exact fun t k => pre48 t k
          · have pre49 : ∀ t, own_K p e below m T7 102 #[lv p1, .second, lv p2, .second, iv p3, lv xd, .second, lv xv, .second, lv xq, .second, lv xf, .second, lv xr, .second, .unset, .unset] [(.int (0 : Int32))] t → G t := by
              intro t k
              refine pre46 t ?_
              show own_K p e below m T7 94 #[lv p1, .second, lv p2, .second, iv p3, lv xd, .second, lv xv, .second, lv xq, .second, lv xf, .second, lv xr, .second, .unset, .unset] [(.int (lcmpW xr (xv - xr)))] _
              refine XS.ifYes X7.here hx rfl (pc0 := 94) (pc' := 101) rfl (hb hby at_94) rfl ((if0 _ _).trans (flt (mt (lw_lt _ _).mp hc94_47)).2.1) (by decide) (by decide) ?_
              show own_K p e below m T7 101 #[lv p1, .second, lv p2, .second, iv p3, lv xd, .second, lv xv, .second, lv xq, .second, lv xf, .second, lv xr, .second, .unset, .unset] [] _
              refine XS.iconst X7.here hx rfl (hb hby at_101) ?_
              exact k
            have hq := True.intro
            obtain rfl : v50 = (0 : Int32) := by simp only [hv50, if_neg hc83_44, if_neg hc94_47]
            exact fun t k => pre49 t k
      have pre52 : ∀ t, own_K p e below m T7 108 #[lv p1, .second, lv p2, .second, iv p3, lv xd, .second, lv xv, .second, lv xq, .second, lv xf, .second, lv xr, .second, iv v50, .unset] [(.int (lcmpW xr (0 : Int64)))] t → G t := by
        intro t k
        refine pre51 t ?_
        show own_K p e below m T7 102 #[lv p1, .second, lv p2, .second, iv p3, lv xd, .second, lv xv, .second, lv xq, .second, lv xf, .second, lv xr, .second, .unset, .unset] [(.int v50)] _
        refine XS.istore X7.here hx rfl (hb hby at_102) rfl (l' := #[lv p1, .second, lv p2, .second, iv p3, lv xd, .second, lv xv, .second, lv xq, .second, lv xf, .second, lv xr, .second, iv v50, .unset]) rfl ?_
        show own_K p e below m T7 104 #[lv p1, .second, lv p2, .second, iv p3, lv xd, .second, lv xv, .second, lv xq, .second, lv xf, .second, lv xr, .second, iv v50, .unset] [] _
        refine XS.lload X7.here hx rfl (hb hby at_104) rfl ?_
        show own_K p e below m T7 106 #[lv p1, .second, lv p2, .second, iv p3, lv xd, .second, lv xv, .second, lv xq, .second, lv xf, .second, lv xr, .second, iv v50, .unset] [(.long xr)] _
        refine XS.lconst X7.here hx rfl (hb hby at_106) ?_
        show own_K p e below m T7 107 #[lv p1, .second, lv p2, .second, iv p3, lv xd, .second, lv xv, .second, lv xq, .second, lv xf, .second, lv xr, .second, iv v50, .unset] [(.long (0 : Int64)), (.long xr)] _
        refine XS.lcmp X7.here hx rfl (hb hby at_107) rfl ?_
        exact k
      obtain ⟨v59, hv59⟩ : ∃ z : Int32, z = (if xr < (0 : Int64) then (if xr < ((-xv) - xr) then (0 : Int32) else (1 : Int32)) else (1 : Int32)) := ⟨_, rfl⟩
      have pre60 : ∀ t, own_K p e below m T7 128 #[lv p1, .second, lv p2, .second, iv p3, lv xd, .second, lv xv, .second, lv xq, .second, lv xf, .second, lv xr, .second, iv v50, .unset] [(.int v59)] t → G t := by
        by_cases hc108_53 : xr < (0 : Int64)
        · have pre54 : ∀ t, own_K p e below m T7 120 #[lv p1, .second, lv p2, .second, iv p3, lv xd, .second, lv xv, .second, lv xq, .second, lv xf, .second, lv xr, .second, iv v50, .unset] [(.int (lcmpW xr ((-xv) - xr)))] t → G t := by
            intro t k
            refine pre52 t ?_
            show own_K p e below m T7 108 #[lv p1, .second, lv p2, .second, iv p3, lv xd, .second, lv xv, .second, lv xq, .second, lv xf, .second, lv xr, .second, iv v50, .unset] [(.int (lcmpW xr (0 : Int64)))] _
            refine XS.ifNo X7.here hx rfl (hb hby at_108) rfl ((if0 _ _).trans (tlt ((lw_lt _ _).mpr hc108_53)).2.1) ?_
            show own_K p e below m T7 111 #[lv p1, .second, lv p2, .second, iv p3, lv xd, .second, lv xv, .second, lv xq, .second, lv xf, .second, lv xr, .second, iv v50, .unset] [] _
            refine XS.lload X7.here hx rfl (hb hby at_111) rfl ?_
            show own_K p e below m T7 113 #[lv p1, .second, lv p2, .second, iv p3, lv xd, .second, lv xv, .second, lv xq, .second, lv xf, .second, lv xr, .second, iv v50, .unset] [(.long xr)] _
            refine XS.lload X7.here hx rfl (hb hby at_113) rfl ?_
            show own_K p e below m T7 115 #[lv p1, .second, lv p2, .second, iv p3, lv xd, .second, lv xv, .second, lv xq, .second, lv xf, .second, lv xr, .second, iv v50, .unset] [(.long xv), (.long xr)] _
            refine XS.lneg X7.here hx rfl (hb hby at_115) rfl ?_
            show own_K p e below m T7 116 #[lv p1, .second, lv p2, .second, iv p3, lv xd, .second, lv xv, .second, lv xq, .second, lv xf, .second, lv xr, .second, iv v50, .unset] [(.long (-xv)), (.long xr)] _
            refine XS.lload X7.here hx rfl (hb hby at_116) rfl ?_
            show own_K p e below m T7 118 #[lv p1, .second, lv p2, .second, iv p3, lv xd, .second, lv xv, .second, lv xq, .second, lv xf, .second, lv xr, .second, iv v50, .unset] [(.long xr), (.long (-xv)), (.long xr)] _
            refine XS.lsub X7.here hx rfl (hb hby at_118) rfl ?_
            show own_K p e below m T7 119 #[lv p1, .second, lv p2, .second, iv p3, lv xd, .second, lv xv, .second, lv xq, .second, lv xf, .second, lv xr, .second, iv v50, .unset] [(.long ((-xv) - xr)), (.long xr)] _
            refine XS.lcmp X7.here hx rfl (hb hby at_119) rfl ?_
            exact k
          by_cases hc120_55 : xr < ((-xv) - xr)
          · have pre56 : ∀ t, own_K p e below m T7 128 #[lv p1, .second, lv p2, .second, iv p3, lv xd, .second, lv xv, .second, lv xq, .second, lv xf, .second, lv xr, .second, iv v50, .unset] [(.int (0 : Int32))] t → G t := by
              intro t k
              refine pre54 t ?_
              show own_K p e below m T7 120 #[lv p1, .second, lv p2, .second, iv p3, lv xd, .second, lv xv, .second, lv xq, .second, lv xf, .second, lv xr, .second, iv v50, .unset] [(.int (lcmpW xr ((-xv) - xr)))] _
              refine XS.ifYes X7.here hx rfl (pc0 := 120) (pc' := 127) rfl (hb hby at_120) rfl ((if0 _ _).trans (tlt ((lw_lt _ _).mpr hc120_55)).1) (by decide) (by decide) ?_
              show own_K p e below m T7 127 #[lv p1, .second, lv p2, .second, iv p3, lv xd, .second, lv xv, .second, lv xq, .second, lv xf, .second, lv xr, .second, iv v50, .unset] [] _
              refine XS.iconst X7.here hx rfl (hb hby at_127) ?_
              exact k
            have hq := True.intro
            obtain rfl : v59 = (0 : Int32) := by simp only [hv59, if_pos hc108_53, if_pos hc120_55]
            exact fun t k => pre56 t k
          · have pre57 : ∀ t, own_K p e below m T7 128 #[lv p1, .second, lv p2, .second, iv p3, lv xd, .second, lv xv, .second, lv xq, .second, lv xf, .second, lv xr, .second, iv v50, .unset] [(.int (1 : Int32))] t → G t := by
              intro t k
              refine pre54 t ?_
              show own_K p e below m T7 120 #[lv p1, .second, lv p2, .second, iv p3, lv xd, .second, lv xv, .second, lv xq, .second, lv xf, .second, lv xr, .second, iv v50, .unset] [(.int (lcmpW xr ((-xv) - xr)))] _
              refine XS.ifNo X7.here hx rfl (hb hby at_120) rfl ((if0 _ _).trans (flt (mt (lw_lt _ _).mp hc120_55)).1) ?_
              show own_K p e below m T7 123 #[lv p1, .second, lv p2, .second, iv p3, lv xd, .second, lv xv, .second, lv xq, .second, lv xf, .second, lv xr, .second, iv v50, .unset] [] _
              refine XS.iconst X7.here hx rfl (hb hby at_123) ?_
              show own_K p e below m T7 124 #[lv p1, .second, lv p2, .second, iv p3, lv xd, .second, lv xv, .second, lv xq, .second, lv xf, .second, lv xr, .second, iv v50, .unset] [(.int (1 : Int32))] _
              refine XS.goto X7.here hx rfl (pc0 := 124) (pc' := 128) rfl (hb hby at_124) (by decide) (by decide) ?_
              exact k
            have hq := True.intro
            obtain rfl : v59 = (1 : Int32) := by simp only [hv59, if_pos hc108_53, if_neg hc120_55]
            exact fun t k => pre57 t k
        · have pre58 : ∀ t, own_K p e below m T7 128 #[lv p1, .second, lv p2, .second, iv p3, lv xd, .second, lv xv, .second, lv xq, .second, lv xf, .second, lv xr, .second, iv v50, .unset] [(.int (1 : Int32))] t → G t := by
            intro t k
            refine pre52 t ?_
            show own_K p e below m T7 108 #[lv p1, .second, lv p2, .second, iv p3, lv xd, .second, lv xv, .second, lv xq, .second, lv xf, .second, lv xr, .second, iv v50, .unset] [(.int (lcmpW xr (0 : Int64)))] _
            refine XS.ifYes X7.here hx rfl (pc0 := 108) (pc' := 123) rfl (hb hby at_108) rfl ((if0 _ _).trans (flt (mt (lw_lt _ _).mp hc108_53)).2.1) (by decide) (by decide) ?_
            show own_K p e below m T7 123 #[lv p1, .second, lv p2, .second, iv p3, lv xd, .second, lv xv, .second, lv xq, .second, lv xf, .second, lv xr, .second, iv v50, .unset] [] _
            refine XS.iconst X7.here hx rfl (hb hby at_123) ?_
            show own_K p e below m T7 124 #[lv p1, .second, lv p2, .second, iv p3, lv xd, .second, lv xv, .second, lv xq, .second, lv xf, .second, lv xr, .second, iv v50, .unset] [(.int (1 : Int32))] _
            refine XS.goto X7.here hx rfl (pc0 := 124) (pc' := 128) rfl (hb hby at_124) (by decide) (by decide) ?_
            exact k
          have hq := True.intro
          obtain rfl : v59 = (1 : Int32) := by simp only [hv59, if_neg hc108_53]
          exact fun t k => pre58 t k
      have pre61 : ∀ t, own_K p e below m T7 130 #[lv p1, .second, lv p2, .second, iv p3, lv xd, .second, lv xv, .second, lv xq, .second, lv xf, .second, lv xr, .second, iv v50, iv v59] [] t → G t := by
        intro t k
        refine pre60 t ?_
        show own_K p e below m T7 128 #[lv p1, .second, lv p2, .second, iv p3, lv xd, .second, lv xv, .second, lv xq, .second, lv xf, .second, lv xr, .second, iv v50, .unset] [(.int v59)] _
        refine XS.istore X7.here hx rfl (hb hby at_128) rfl (l' := #[lv p1, .second, lv p2, .second, iv p3, lv xd, .second, lv xv, .second, lv xq, .second, lv xf, .second, lv xr, .second, iv v50, iv v59]) rfl ?_
        exact k
      have hb1 : v50 = 1 := hv50.trans (own_b1 _ _ hP.1)
      have hb2 : v59 = 1 := hv59.trans (own_b2 _ _ hP.2)
      have pre62 : ∀ t, own_K p e below m T7 145 #[lv p1, .second, lv p2, .second, iv p3, lv xd, .second, lv xv, .second, lv xq, .second, lv xf, .second, lv xr, .second, iv v50, iv v59] [(.int (1 : Int32))] t → G t := by
        intro t k
        refine pre61 t ?_
        show own_K p e below m T7 130 #[lv p1, .second, lv p2, .second, iv p3, lv xd, .second, lv xv, .second, lv xq, .second, lv xf, .second, lv xr, .second, iv v50, iv v59] [] _
        refine XS.iload X7.here hx rfl (hb hby at_130) rfl ?_
        show own_K p e below m T7 132 #[lv p1, .second, lv p2, .second, iv p3, lv xd, .second, lv xv, .second, lv xq, .second, lv xf, .second, lv xr, .second, iv v50, iv v59] [(.int v50)] _
        refine XS.ifNo X7.here hx rfl (hb hby at_132) rfl ((if0 _ _).trans (feq (by rw [hb1]; decide)).1) ?_
        show own_K p e below m T7 135 #[lv p1, .second, lv p2, .second, iv p3, lv xd, .second, lv xv, .second, lv xq, .second, lv xf, .second, lv xr, .second, iv v50, iv v59] [] _
        refine XS.iload X7.here hx rfl (hb hby at_135) rfl ?_
        show own_K p e below m T7 137 #[lv p1, .second, lv p2, .second, iv p3, lv xd, .second, lv xv, .second, lv xq, .second, lv xf, .second, lv xr, .second, iv v50, iv v59] [(.int v59)] _
        refine XS.ifNo X7.here hx rfl (hb hby at_137) rfl ((if0 _ _).trans (feq (by rw [hb2]; decide)).1) ?_
        show own_K p e below m T7 140 #[lv p1, .second, lv p2, .second, iv p3, lv xd, .second, lv xv, .second, lv xq, .second, lv xf, .second, lv xr, .second, iv v50, iv v59] [] _
        refine XS.iconst X7.here hx rfl (hb hby at_140) ?_
        show own_K p e below m T7 141 #[lv p1, .second, lv p2, .second, iv p3, lv xd, .second, lv xv, .second, lv xq, .second, lv xf, .second, lv xr, .second, iv v50, iv v59] [(.int (1 : Int32))] _
        refine XS.goto X7.here hx rfl (pc0 := 141) (pc' := 145) rfl (hb hby at_141) (by decide) (by decide) ?_
        exact k
      obtain ⟨fs, hr, hrun, hended, hW, hsame⟩ := X7.leave (v := some (.int (1 : Int32))) (fun h => by rw [Bd.returns] at h; cases h)
      refine ⟨_, _, hG _ (pre62 _ ?_), hrun, hended, _, _, rfl, ?_, ⟨_, rfl⟩, hW, hsame.mono (by decide) (by decide)⟩
      · show own_K p e below m T7 145 #[lv p1, .second, lv p2, .second, iv p3, lv xd, .second, lv xv, .second, lv xq, .second, lv xf, .second, lv xr, .second, iv v50, iv v59] [(.int (1 : Int32))] _
        exact retN X7 hx (t := .boolean) Bd.returns (by simp) (hb hby at_145) hr
      · show Q0 Z p1 p2 p3 h0 n0 _ T7.heap _
        rw [eh7]
        exact ⟨rfl, N7, rfl⟩
    · have pre63 : ∀ t, own_K p e below m T7 67 #[lv p1, .second, lv p2, .second, iv p3, lv xd, .second, lv xv, .second, lv xq, .second, lv xf, .second, .unset, .unset, .unset, .unset] [] t → G t := by
        intro t k
        refine pre38 t ?_
        show own_K p e below m T7 64 #[lv p1, .second, lv p2, .second, iv p3, lv xd, .second, lv xv, .second, lv xq, .second, lv xf, .second, .unset, .unset, .unset, .unset] [(.int (lcmpW xq (xf + (1 : Int64))))] _
        refine XS.ifNo X7.here hx rfl (hb hby at_64) rfl ((if0 _ _).trans (feq (mt (lw_eq _ _).mp hc64_39)).1) ?_
        exact k
      exfalso
      exact hP1.elim hc54_14 hc64_39
set_option maxRecDepth 65536 in
set_option maxHeartbeats 40000000 in
theorem comes_1 {Post : Tables → Env → Array Value → State → Outcome → State → Prop} (hpost : ∀ tb e args s v u, (limb_1_1.after args s (.returned v) u = true ∧ limb_1_2.after args s (.returned v) u = true ∧ True) → FrameEnd s (.returned v) u (Jvm.fieldLocs frame_1_writes args s ++ Jvm.arrayLocs frame_1_arrays args s ++ Jvm.staticLocs frame_1_statics s) 0 0 → Post tb e args s (.returned v) u) :
    ArmFor flags0 classFile x code maxLocals ret World_1 tables_1 room_1 Calls_1 rest_1 Pre_1 Post := by
  intro l hfl _ _ p e ha hc hk s m args below hf hA hF happ hP
  obtain ⟨hcalls, hrest, hpre⟩ := hP
  obtain ⟨-, -, -, hnamed, -, -, -, hat⟩ := (Spec.applies_iff hf).mp happ
  obtain ⟨hg, hn⟩ := and_e (Cond.before_iff.mp (show (Jvm.Cond.and given_1 narrow_1).before args s = true from hpre))
  obtain ⟨ga1, gb1⟩ := and_e hg
  obtain ⟨ga2, gb2⟩ := and_e gb1
  obtain ⟨ga3, gb3⟩ := and_e gb2
  obtain ⟨w0, w1, w2, rfl⟩ : ∃ w0 w1 w2 : Value, args = #[w0, w1, w2] := by
    have hs : args.size = 3 := by simpa [Cond.value, given_1] using ga1
    obtain ⟨L⟩ := args
    match L, hs with
    | [w0, w1, w2], _ => exact ⟨w0, w1, w2, rfl⟩
  have hw := fun d (hd : d ∈ tables_1) => atoms_spec (ws := Jvm.Cond.code x code maxLocals ret :: tables_1) hat d (List.mem_cons_of_mem _ hd)
  have hfit : Fit s := fun {y c} hc i hi => by
    obtain ⟨ha, rfl⟩ := Array.getElem?_eq_some_iff.mp hc
    have q := List.all_eq_true.mp ((Array.all_eq_true_iff_forall_mem.mp hF) _ (Array.getElem_mem ha)) i (List.mem_range.mpr hi)
    simpa [Array.getElem?_eq_getElem hi] using q
  obtain ⟨i0, ei0⟩ := isL_v ga2
  obtain rfl : w0 = (.long i0) := Option.some.inj ei0
  obtain ⟨i1, ei1⟩ := isL_v ga3
  obtain rfl : w1 = (.long i1) := Option.some.inj ei1
  obtain ⟨i2, ei2⟩ := is_v gb3
  obtain rfl : w2 = (.int i2) := Option.some.inj ei2
  obtain ⟨n, o, h1, h2, h3, _, L, rfl, ⟨rfl, N, _⟩, hq⟩ := rm0 l s _ hw tables_1 i0 i1 i2 s.heap s.heap.size (Nat.le_refl _) p e ha hc hk s m _ below hf ((Spec.applies_iff_loose hf).mp happ).1 ⟨rfl, State.Warmed39.refl s, rfl⟩ trivial
  refine ⟨n, _, h1, h2, h3, hpost _ _ _ _ _ _ ⟨Cond.after_iff.mpr rfl, Cond.after_iff.mpr (eq_i res_at (Term.int_eval (1)) rfl), trivial⟩ ⟨hq.1, hq.2.1, (hq.2.2.sift fun y hy => Or.inr (N y hy)).mono (by decide) (by decide)⟩⟩
theorem main_1_1 : Claimed_1_1 := comes_1 fun _ _ _ _ _ _ h hF => ⟨h.1, hF⟩
theorem main_1_2 : Claimed_1_2 := comes_1 fun _ _ _ _ _ _ h hF => ⟨h.2.1, hF⟩
end Jvm.Pilot.@@N@@
namespace Jvm.Pilot.@@N@@
open Jvm Jvm.ClassFile Sem Op Lib Jvm.Free Jvm.Stand Jvm.Pilot.@@N@@.Jvm.D
/-! MADE BY PROGRAM (witnessworld.py) out of the Statement's table words and the real class files: 10 classes; the members and pool entries that the words name. The judged class is class 1, her method 1. -/
namespace start1
open Jvm.ClassFile
def u (s : String) : CpInfo := .utf8 (stringToUtf16 s)
/-- a pool by its gaps: so many unusable entries, then the entry; so many at the end -/
def gap : Nat → List CpInfo → List CpInfo
  | 0, r => r
  | n + 1, r => .unusable :: gap n r
def poolList (es : List (Nat × CpInfo)) (last : Nat) : List CpInfo := es.foldr (fun e r => gap e.1 (e.2 :: r)) (gap last [])
def pool (es : List (Nat × CpInfo)) (last : Nat) : Array CpInfo := ⟨poolList es last⟩
def fileOf (pool : Array CpInfo) (this : Nat) (attrs : Array Attribute := #[]) (ms : Array MethodInfo := #[]) (fl : Nat := 33) (sup : Nat := 0) (ifs : Array Nat := #[]) (fds : Array FieldInfo := #[]) : ClassFile where
  minorVersion := 0
  majorVersion := 65
  constantPool := pool
  accessFlags := fl
  thisClass := this
  superClass := sup
  interfaces := ifs
  fields := fds
  methods := ms
  attributes := attrs
def plain (name : String) (sup : Option ClassId) : Class where
  name := name
  kind := .ordinary
  loader := none
  accessFlags := 33
  super := sup
  interfaces := #[]
  cf := none
  fields := #[]
  methods := #[]
  instanceTypes := #[]
  staticTypes := #[]
  resolved := #[]
  callSites := []
  init := .initialized
  statics := none
  mirror := none

def pool0 : Array CpInfo := pool [(5, u "<init>"), (0, u "()V"), (1, .class_ 10), (1, u "java/lang/Object")] 113

def k0m0 : Method := { name := "<init>", desc := "()V", sig := { parameters := [], returnType := none }, accessFlags := 1, code := none }
/-- java/lang/Object -/
def k0 : Class := { plain "java/lang/Object" none with
  accessFlags := 33
  interfaces := #[]
  cf := some (fileOf pool0 8 #[] #[{ accessFlags := 1, nameIndex := 5, descriptorIndex := 6, attributes := #[] }] 33 0 #[] #[])
  fields := #[]
  methods := #[k0m0]
  instanceTypes := #[]
  staticTypes := #[]
  resolved := Array.replicate 124 none
  statics := none }

def pool1 : Array CpInfo := pool [(2, .class_ 4), (1, u "java/lang/Object"), (0, u "<init>"), (0, u "()V"), (2, .long 9223372036854775807), (1, .methodref 12 13), (0, .class_ 14), (0, .nameAndType 15 16), (0, u "java/lang/Math"), (0, u "max"), (0, u "(JJ)J"), (0, .methodref 18 19), (0, .class_ 20), (0, .nameAndType 21 16), (0, u "com/example/notewright/notewright/Figures"), (0, u "roundedQuotient"), (0, .class_ 23), (0, u "com/example/notewright/notewright/FiguresRoundedQuotientPinLaw"), (2, u "law"), (0, u "(JJI)Z")] 3

def k1m0 : Method := { name := "<init>", desc := "()V", sig := { parameters := [], returnType := none }, accessFlags := 2, code := none }
def k1c1 : Code := { maxStack := 6, maxLocals := 17, code := code, exceptionTable := #[], attributes := #[] }
def k1m1 : Method := { name := "law", desc := "(JJI)Z", sig := { parameters := [.long, .long, .int], returnType := some .boolean }, accessFlags := 9, code := some k1c1 }
/-- com/example/notewright/notewright/FiguresRoundedQuotientPinLaw -/
def k1 : Class := { plain "com/example/notewright/notewright/FiguresRoundedQuotientPinLaw" (some 0) with
  accessFlags := 49
  interfaces := #[]
  cf := some (fileOf pool1 22 #[] #[{ accessFlags := 2, nameIndex := 5, descriptorIndex := 6, attributes := #[] }, { accessFlags := 9, nameIndex := 26, descriptorIndex := 27, attributes := #[] }] 49 2 #[] #[])
  fields := #[]
  methods := #[k1m0, k1m1]
  instanceTypes := #[]
  staticTypes := #[]
  resolved := Array.replicate 31 none
  statics := none }

def pool2 : Array CpInfo := pool [(1, .class_ 2), (0, u "java/lang/Math"), (1, .class_ 6), (1, u "java/lang/Object"), (0, u "<init>"), (0, u "()V"), (89, .class_ 100), (1, u "java/lang/Math$RandomNumberGeneratorHolder"), (20, u "(JJ)J"), (50, u "negativeZeroFloatBits"), (0, u "J"), (2, u "negativeZeroDoubleBits"), (21, u "max"), (46, u "$assertionsDisabled"), (0, u "Z"), (91, u "twoToTheDoubleScaleDown"), (0, u "D"), (4, u "twoToTheDoubleScaleUp"), (9, u "E"), (3, u "PI"), (2, u "TAU"), (2, u "DEGREES_TO_RADIANS"), (0, u "RADIANS_TO_DEGREES")] 94

def k2m0 : Method := { name := "<init>", desc := "()V", sig := { parameters := [], returnType := none }, accessFlags := 2, code := none }
def k2c1 : Code := { maxStack := 4, maxLocals := 4, code := jdk_29_method_66_code, exceptionTable := #[], attributes := #[] }
def k2m1 : Method := { name := "max", desc := "(JJ)J", sig := { parameters := [.long, .long], returnType := some .long }, accessFlags := 9, code := some k2c1 }
/-- java/lang/Math -/
def k2 : Class := { plain "java/lang/Math" (some 0) with
  accessFlags := 49
  interfaces := #[]
  cf := some (fileOf pool2 1 #[.nestMembers #[98]] #[{ accessFlags := 2, nameIndex := 7, descriptorIndex := 8, attributes := #[] }, { accessFlags := 9, nameIndex := 198, descriptorIndex := 121, attributes := #[] }] 49 4 #[] #[{ accessFlags := 25, nameIndex := 354, descriptorIndex := 339, attributes := #[] }, { accessFlags := 25, nameIndex := 358, descriptorIndex := 339, attributes := #[] }, { accessFlags := 25, nameIndex := 361, descriptorIndex := 339, attributes := #[] }, { accessFlags := 26, nameIndex := 364, descriptorIndex := 339, attributes := #[] }, { accessFlags := 26, nameIndex := 365, descriptorIndex := 339, attributes := #[] }, { accessFlags := 26, nameIndex := 172, descriptorIndex := 173, attributes := #[] }, { accessFlags := 26, nameIndex := 176, descriptorIndex := 173, attributes := #[] }, { accessFlags := 8, nameIndex := 344, descriptorIndex := 339, attributes := #[] }, { accessFlags := 8, nameIndex := 338, descriptorIndex := 339, attributes := #[] }, { accessFlags := 4120, nameIndex := 245, descriptorIndex := 246, attributes := #[] }])
  fields := #[{ name := "E", type := .double, accessFlags := 25, slot := 0, constantValue := 0 }, { name := "PI", type := .double, accessFlags := 25, slot := 1, constantValue := 0 }, { name := "TAU", type := .double, accessFlags := 25, slot := 2, constantValue := 0 }, { name := "DEGREES_TO_RADIANS", type := .double, accessFlags := 26, slot := 3, constantValue := 0 }, { name := "RADIANS_TO_DEGREES", type := .double, accessFlags := 26, slot := 4, constantValue := 0 }, { name := "negativeZeroFloatBits", type := .long, accessFlags := 26, slot := 5, constantValue := 0 }, { name := "negativeZeroDoubleBits", type := .long, accessFlags := 26, slot := 6, constantValue := 0 }, { name := "twoToTheDoubleScaleUp", type := .double, accessFlags := 8, slot := 7, constantValue := 0 }, { name := "twoToTheDoubleScaleDown", type := .double, accessFlags := 8, slot := 8, constantValue := 0 }, { name := "$assertionsDisabled", type := .boolean, accessFlags := 4120, slot := 9, constantValue := 0 }]
  methods := #[k2m0, k2m1]
  instanceTypes := #[]
  staticTypes := #[.double, .double, .double, .double, .double, .long, .long, .double, .double, .boolean]
  resolved := Array.replicate 460 none
  statics := none }

def pool3 : Array CpInfo := pool [(2, .class_ 4), (1, u "java/lang/Object"), (0, u "<init>"), (0, u "()V"), (48, .class_ 56), (0, u "com/example/notewright/notewright/Figures"), (54, u "HUNDRED"), (0, u "Ljava/math/BigDecimal;"), (26, u "MONEY_ROUNDING"), (0, u "Ljava/math/RoundingMode;"), (6, u "roundedQuotient"), (31, u "DIGITS"), (0, u "I"), (2, u "CENT_DECIMALS"), (1, u "PRICE_DECIMALS"), (1, u "UNROUNDED_PERCENT_DECIMALS"), (1, u "UNROUNDED_PRICE_DECIMALS"), (1, u "PRICE"), (0, u "Ljava/lang/String;"), (15, u "(JJ)J")] 45

def k3m0 : Method := { name := "<init>", desc := "()V", sig := { parameters := [], returnType := none }, accessFlags := 2, code := none }
def k3c1 : Code := { maxStack := 6, maxLocals := 8, code := prog_20_method_19_code, exceptionTable := #[], attributes := #[] }
def k3m1 : Method := { name := "roundedQuotient", desc := "(JJ)J", sig := { parameters := [.long, .long], returnType := some .long }, accessFlags := 8, code := some k3c1 }
/-- com/example/notewright/notewright/Figures -/
def k3 : Class := { plain "com/example/notewright/notewright/Figures" (some 0) with
  accessFlags := 49
  interfaces := #[]
  cf := some (fileOf pool3 55 #[] #[{ accessFlags := 2, nameIndex := 5, descriptorIndex := 6, attributes := #[] }, { accessFlags := 8, nameIndex := 147, descriptorIndex := 208, attributes := #[] }] 49 2 #[] #[{ accessFlags := 24, nameIndex := 179, descriptorIndex := 180, attributes := #[] }, { accessFlags := 25, nameIndex := 183, descriptorIndex := 180, attributes := #[] }, { accessFlags := 26, nameIndex := 139, descriptorIndex := 140, attributes := #[] }, { accessFlags := 24, nameIndex := 185, descriptorIndex := 180, attributes := #[] }, { accessFlags := 25, nameIndex := 187, descriptorIndex := 180, attributes := #[] }, { accessFlags := 26, nameIndex := 189, descriptorIndex := 180, attributes := #[] }, { accessFlags := 26, nameIndex := 111, descriptorIndex := 112, attributes := #[] }, { accessFlags := 26, nameIndex := 191, descriptorIndex := 192, attributes := #[] }])
  fields := #[{ name := "DIGITS", type := .int, accessFlags := 24, slot := 0, constantValue := 0 }, { name := "CENT_DECIMALS", type := .int, accessFlags := 25, slot := 1, constantValue := 0 }, { name := "MONEY_ROUNDING", type := (.object "java/math/RoundingMode"), accessFlags := 26, slot := 2, constantValue := 0 }, { name := "PRICE_DECIMALS", type := .int, accessFlags := 24, slot := 3, constantValue := 0 }, { name := "UNROUNDED_PERCENT_DECIMALS", type := .int, accessFlags := 25, slot := 4, constantValue := 0 }, { name := "UNROUNDED_PRICE_DECIMALS", type := .int, accessFlags := 26, slot := 5, constantValue := 0 }, { name := "HUNDRED", type := (.object "java/math/BigDecimal"), accessFlags := 26, slot := 6, constantValue := 0 }, { name := "PRICE", type := (.object "java/lang/String"), accessFlags := 26, slot := 7, constantValue := 0 }]
  methods := #[k3m0, k3m1]
  instanceTypes := #[]
  staticTypes := #[.int, .int, (.object "java/math/RoundingMode"), .int, .int, .int, (.object "java/math/BigDecimal"), (.object "java/lang/String")]
  resolved := Array.replicate 254 none
  statics := none }

def pool4 : Array CpInfo := pool [(1, u "java/lang/Cloneable"), (0, .class_ 1), (0, u "java/lang/Object"), (0, .class_ 3)] 3

/-- java/lang/Cloneable -/
def k4 : Class := { plain "java/lang/Cloneable" (some 0) with
  accessFlags := 1537
  interfaces := #[]
  cf := some (fileOf pool4 2 #[] #[] 1537 4 #[] #[])
  fields := #[]
  methods := #[]
  instanceTypes := #[]
  staticTypes := #[]
  resolved := Array.replicate 8 none
  statics := none }

def pool5 : Array CpInfo := pool [(1, u "java/io/Serializable"), (0, .class_ 1), (0, u "java/lang/Object"), (0, .class_ 3)] 3

/-- java/io/Serializable -/
def k5 : Class := { plain "java/io/Serializable" (some 0) with
  accessFlags := 1537
  interfaces := #[]
  cf := some (fileOf pool5 2 #[] #[] 1537 4 #[] #[])
  fields := #[]
  methods := #[]
  instanceTypes := #[]
  staticTypes := #[]
  resolved := Array.replicate 8 none
  statics := none }

/-- the primitive byte -/
def k6 : Class := { plain "byte" none with kind := .primitive 'B', accessFlags := 0x411 }
/-- [B -/
def k7 : Class := { plain "[B" (some 0) with kind := .array 6 .byte, interfaces := #[4, 5], accessFlags := 1041 }

/-- the primitive int -/
def k8 : Class := { plain "int" none with kind := .primitive 'I', accessFlags := 0x411 }
/-- [I -/
def k9 : Class := { plain "[I" (some 0) with kind := .array 8 .int, interfaces := #[4, 5], accessFlags := 1041 }

def heap : Heap := #[]
def classes : Array Class := #[k0, k1, k2, k3, k4, k5, k6, k7, k8, k9]
def interned : List (Array UInt16 × Addr) := []
def slotsUsed : Nat := 0
def theMethod : MethodId := ⟨1, 1⟩
def args0 : Array Value := #[.long 1000, .long 7, .int 5]
def aboutOver (below : List Frame) : State where
  vm := { classes := classes, interned := interned.toArray }
  heap := heap
  slotsUsed := slotsUsed
  threads := #[{ frames := .invoking theMethod args0 :: below }]
def below0 : List Frame := [.native { method := ⟨0, 0⟩, args := #[] }]
def about1 : State := aboutOver below0
def p0 : Program := .bare "" "" ""
def e0 : Env := launch0.env 0 0 0
theorem w_frames : about1.frames = Frame.invoking theMethod args0 :: below0 := rfl
set_option maxRecDepth 65536 in
theorem w_args : argsFit about1.vm theMethod args0 = true := by decide +kernel
set_option maxRecDepth 65536 in
theorem w_heap : heapFits about1 = true := by decide +kernel
set_option maxRecDepth 65536 in
theorem w_runnable : about1.curStatus? = some .runnable := by decide +kernel
set_option maxRecDepth 65536 in
theorem w_alone : about1.alone = true := by decide +kernel
set_option maxRecDepth 65536 in
theorem w_named : about1.methodNamed? x = some theMethod := by decide +kernel
set_option maxRecDepth 65536 in
theorem w_hears : about1.hears theMethod below0 = true := by decide +kernel
set_option maxRecDepth 65536 in
theorem w_ripe : about1.ripe theMethod args0 below0 = true := by decide +kernel
theorem w_running : about1.status = .running := rfl
set_option maxRecDepth 65536 in
theorem w_room : about1.hasRoom e0.platform room_1 = true :=
  launch0.hasRoom_least _ room_1 (by decide +kernel) (by decide +kernel) (by decide +kernel) (by decide +kernel) (by decide +kernel) (by decide +kernel)
theorem allAtoms_all (ts : List Jvm.Cond) (a : Array Jvm.Value) (st : Jvm.State) : (allAtoms ts).before a st = ts.all (fun c => c.before a st) := by
  induction ts with
  | nil => rfl
  | cons c t ih =>
    show (Jvm.Cond.and c (allAtoms t)).before a st = _
    rw [Jvm.Cond.before_and, ih, List.all_cons]
def words1 : List Jvm.Cond := Jvm.Cond.code x code maxLocals ret :: tables_1
/-- a 'code' word, met by the world's own term for the bytes: nothing is compared byte by byte -/
theorem code_word {y : MethodName} {bytes : ByteArray} {mx : Nat} {rt : Option FieldType} {a : Array Value} {s : State} {m : MethodId} {meth : Method} {c : Code} (h1 : s.methodNamed? y = some m) (h2 : s.vm.method? m = some meth) (h3 : meth.code = some c) (h4 : c.code = bytes)
    (h5 : (c.maxLocals == mx && c.exceptionTable.isEmpty && decide (c.maxStack ≤ mostOperands) && decide (meth.sig.returnType = rt) && !meth.locks && decide (parseMethodDescriptor y.desc = some meth.sig)) = true) : (Jvm.Cond.code y bytes mx rt).before a s = true := by
  simp only [Bool.and_eq_true, beq_iff_eq, Bool.not_eq_true', decide_eq_true_eq] at h5
  obtain ⟨⟨⟨⟨⟨g1, g2⟩, g3⟩, g4⟩, g5⟩, g6⟩ := h5
  simp [Cond.before, Cond.holds, Cond.value, h1, h2, h3, h4, g1, g2, g3, g4, g5, g6]
def isCode : Jvm.Cond → Bool
  | .code _ _ _ _ => true
  | _ => false
theorem all_split {L : List Jvm.Cond} {P : Jvm.Cond → Bool} (h1 : L.all (fun c => isCode c || P c) = true) (h2 : ∀ c ∈ L.filter isCode, P c = true) : L.all P = true := by
  refine List.all_eq_true.mpr fun c hc => ?_
  have h := List.all_eq_true.mp h1 c hc
  rcases Bool.eq_false_or_eq_true (isCode c) with hi | hi
  · exact h2 c (List.mem_filter.mpr ⟨hc, hi⟩)
  · simpa [hi] using h
set_option maxRecDepth 65536 in
theorem w_c0 : (Jvm.Cond.code x code maxLocals ret).before args0 about1 = true := code_word (m := ⟨1, 1⟩) (meth := k1m1) (c := k1c1) (by decide +kernel) rfl rfl rfl (by decide +kernel)
set_option maxRecDepth 65536 in
theorem w_c1 : (Jvm.Cond.code ({ cls := "java/lang/Math", name := "max", desc := "(JJ)J" } : Jvm.MethodName) jdk_29_method_66_code (4 : Nat) (Option.some Jvm.ClassFile.FieldType.long)).before args0 about1 = true := code_word (m := ⟨2, 1⟩) (meth := k2m1) (c := k2c1) (by decide +kernel) rfl rfl rfl (by decide +kernel)
set_option maxRecDepth 65536 in
theorem w_c2 : (Jvm.Cond.code ({ cls := "com/example/notewright/notewright/Figures", name := "roundedQuotient", desc := "(JJ)J" } : Jvm.MethodName) prog_20_method_19_code (8 : Nat) (Option.some Jvm.ClassFile.FieldType.long)).before args0 about1 = true := code_word (m := ⟨3, 1⟩) (meth := k3m1) (c := k3c1) (by decide +kernel) rfl rfl rfl (by decide +kernel)
def codes1 : List Jvm.Cond := [Jvm.Cond.code x code maxLocals ret, Jvm.Cond.code ({ cls := "java/lang/Math", name := "max", desc := "(JJ)J" } : Jvm.MethodName) jdk_29_method_66_code (4 : Nat) (Option.some Jvm.ClassFile.FieldType.long), Jvm.Cond.code ({ cls := "com/example/notewright/notewright/Figures", name := "roundedQuotient", desc := "(JJ)J" } : Jvm.MethodName) prog_20_method_19_code (8 : Nat) (Option.some Jvm.ClassFile.FieldType.long)]
set_option maxRecDepth 65536 in
theorem codes_eq : words1.filter isCode = codes1 := rfl
theorem w_codes : ∀ c ∈ words1.filter isCode, c.before args0 about1 = true := by
  rw [codes_eq]
  intro c hc
  simp only [codes1, List.mem_cons, List.not_mem_nil, or_false] at hc
  rcases hc with rfl | rfl | rfl
  · exact w_c0
  · exact w_c1
  · exact w_c2
set_option maxRecDepth 65536 in
theorem w_t1 : words1.all (fun c => isCode c || c.before args0 about1) = true := by decide +kernel
theorem w_tables : (allAtoms (Jvm.Cond.code x code maxLocals ret :: tables_1)).before args0 about1 = true := by
  rw [allAtoms_all]
  show words1.all (fun c => c.before args0 about1) = true
  refine all_split ?_ w_codes
  rw [w_t1]
set_option maxRecDepth 65536 in
theorem w_case : (Jvm.Cond.and given_1 narrow_1).before args0 about1 = true := by decide +kernel
theorem w_applies : (headSpec (Jvm.Cond.code x code maxLocals ret :: tables_1) room_1).applies x e0.platform about1 = true :=
  (Spec.applies_iff w_frames).mpr ⟨w_running, w_runnable, w_alone, w_named, w_hears, w_ripe, w_room, w_tables⟩
theorem atStart : AtStart classFile x code maxLocals ret World_1 tables_1 room_1 Calls_1 rest_1 Pre_1 launch0 p0 e0 about1 theMethod args0 below0 :=
  ⟨lists_1, trivial, launch0.admits_env _ _ _, launch0.least_env, fairChoices_fair.cas, fairChoices_fair.clock, w_frames, w_args, w_heap, w_applies, trivial, trivial, w_case⟩
end start1
theorem witness_1 : WitnessClaimed_1 := ⟨start1.p0, start1.e0, start1.about1, start1.theMethod, start1.args0, start1.below0, start1.atStart⟩
end Jvm.Pilot.@@N@@
