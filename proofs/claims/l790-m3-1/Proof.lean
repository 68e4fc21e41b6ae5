import JvmDerived
import JvmDerived.Pilot.@@N@@Statement
import JvmDerived.Pilot.@@N@@Code
set_option linter.unusedVariables false
set_option linter.unusedSimpArgs false
namespace Jvm.RoadKit
open Sem ClassFile Op Lib Jvm.Stand Jvm.Free Jvm.LawKit
section New
variable {p : Program} {l : Launch} {e : Env} {R : Room} {s : State} {m : MethodId} {args : Array Value} {below : List Frame} {meth : Method} {c : Code} {T : State} {locs : List Loc} {cells slots : Nat}
theorem retI (X : Stand p l e R s m args below meth c T locs cells slots) (hx : p.tables.exec = Jvm.exec) {pc : Nat} {Ls : Array Slot} {z : Int32} {rest : List Value} (hret : meth.sig.returnType = some .int) (hd : decode c.code pc = .ok (.ireturn, 1)) {fs : List Frame}
    (hl : ∀ (f : JFrame) (acts : List Action), f.method = m → f.locked = none → f.entered = [] → (doReturn e (T.setTop f) acts (some (.int z))).1 = T.setFrames fs) : Steps p.tables e below (T.setTop (mkF m pc Ls (.int z :: rest))) (T.setFrames fs) := by
  have hm' : T.vm.method? m = some meth := X.method'
  have hn : narrow .int (.int z) = .int z := rfl
  show Steps p.tables e below (T.setTop { method := m, pc := pc, locals := Ls, stack := _ :: rest, locked := none }) _
  jvm_step X.here [X.here.top, hx, hd, hm', hret, hn]
  first | (intro acts; rw [hl _ acts rfl rfl rfl]) | rw [hl _ _ rfl rfl rfl]
  exact Steps.refl _
end New
end Jvm.RoadKit
namespace Jvm.Pilot.@@N@@
open Jvm Jvm.ClassFile Sem Op Lib Jvm.Free Jvm.Stand Jvm.LawKit Jvm.RoadKit Bundle Jvm.Pilot.@@N@@.Jvm.D
abbrev own_K (p : Program) (e : Env) (below : List Frame) (m : MethodId) (T : State) (pc : Nat) (L : Array Slot) (S : List Value) (t : State) : Prop := Steps p.tables e below (T.setTop (mkF m pc L S)) t
abbrev lv (x : Int64) : Slot := .val (.long x)

theorem own_succ (x : Int64) (h : ¬ x = (9223372036854775807 : Int64)) : x < x + (1 : Int64) ∧ (x + (1 : Int64)) - x = (1 : Int64) := by
  have c1 := c_ladd x 1
  have r1 := rng64 (x + 1)
  have r2 := rng64 x
  have e1 : (1 : Int64).toInt = 1 := by decide
  have e2 : (9223372036854775807 : Int64).toInt = 9223372036854775807 := by decide
  have hx : x.toInt ≠ 9223372036854775807 := fun q => h (Int64.toInt_inj.mp (q.trans e2.symm))
  have c2 := c_lsub (x + 1) x
  have r3 := rng64 (x + 1 - x)
  refine ⟨Int64.lt_iff_toInt_lt.mpr (by omega), Int64.toInt_inj.mp (by omega)⟩
theorem d2_0 : decode jdk_30_method_1_code 0 = .ok (.aload_n 0, 1) := by decide +kernel
theorem d2_1 : decode jdk_30_method_1_code 1 = .ok (.invokespecial 1, 3) := by decide +kernel
theorem d2_4 : decode jdk_30_method_1_code 4 = .ok (.return_, 1) := by decide +kernel
theorem pn_0 : plainName "java/lang/Record" = true := by first | (simp [plainName, overriddenIn]; done) | decide +kernel
theorem ef_2 (m : MethodId) (x0 : Addr) : entryFrame m #[(.ref x0)] 1 = mkF m 0 #[rv x0] [] := by first | (simp [entryFrame, mkF, argsToLocals, Value.category]; done) | rfl
def Q2 (Z : State) (oa : Addr) (h0 : Heap) (n0 : Nat) (rv_ : Option Value) (h_ : Heap) (L_ : List Loc) : Prop := rv_ = none ∧ Fr n0 L_ ∧ h_ = h0
set_option maxRecDepth 65536 in
set_option maxHeartbeats 40000000 in
theorem rm2 (l : Launch) (Z : State) (a0 : Array Value) (hw : ∀ d ∈ tables_1, d.before a0 Z = true) (ws : List Jvm.Cond) (oa : Addr) (h0 : Heap) (n0 : Nat) (Z0 : n0 ≤ h0.size) :
    MetFree l (⟨"java/lang/Record", "<init>", "()V"⟩ : MethodName) (head1 (Jvm.Cond.code (⟨"java/lang/Record", "<init>", "()V"⟩ : MethodName) jdk_30_method_1_code 1 none :: ws) ({ frames := 1, cells := 0, slots := 0, locals := 12 } : Room)) (fun a U => a = #[(.ref oa)] ∧ Z.Warmed39 U.vm ∧ U.heap = h0) (fun _ _ _ _ _ => True) (fun _ U o U' => ∃ v L, o = .returned v ∧ Q2 Z oa h0 n0 v U'.heap L ∧ FrameEnd U o U' L ({ frames := 1, cells := 0, slots := 0, locals := 12 } : Room).cells ({ frames := 1, cells := 0, slots := 0, locals := 12 } : Room).slots) := by
  refine MetFree.of_bodySF (plainFor_of_name pn_0) hisR ?_
  intro p e s m args below meth c s₁ Bd hml0 hP hK
  obtain ⟨rfl, hZ, hh⟩ := hP
  have hx := Bd.exec
  have hby := Bd.bytes
  have hml : c.maxLocals = 1 := hml0
  have hown : s.vm.findClass "java/lang/Record" = some m.cls := findClass_of_methodNamed Bd.named
  have hnm := (name_of_methodNamed Bd.named Bd.method).1
  have X0 : Stand p l e ({ frames := 1, cells := 0, slots := 0, locals := 12 } : Room) s m #[(.ref oa)] below meth c s₁ [] 0 0 := Stand.of_body Bd
  have e0 : s₁.heap = h0 := by rw [← hh, Bd.state]; rfl
  have N0 := Fr.nil n0
  obtain ⟨G, hG, pre0⟩ : ∃ G : State → Prop, (∀ t, G t → Steps p.tables e below (s₁.setTop (entryFrame m #[(.ref oa)] 1)) t) ∧ ∀ t, own_K p e below m s₁ 0 #[rv oa] [] t → G t := ⟨fun t => Steps p.tables e below (s₁.setTop (entryFrame m #[(.ref oa)] 1)) t, fun _ k => k, fun t k => castTop (ef_2 m oa) k⟩
  obtain ⟨T1, X1, e1, st1⟩ := initO X0 hx hZ hown (hw _ (List.mem_of_getElem? (i := 12) rfl)) (hw _ (List.mem_of_getElem? (i := 13) rfl)) (hw _ (List.mem_of_getElem? (i := 14) rfl)) e0 (g := (mkF m 1 #[rv oa] [(.ref oa)])) rfl (by rw [hml]; rfl) rfl (hb hby d2_1) (by decide) (W := 0) (by show 2 * 0 + _ ≤ _; exact Nat.le_of_eq rfl) (by decide)
  have pre2 : ∀ t, own_K p e below m T1 4 #[rv oa] [] t → G t := by
    intro t k
    refine pre0 t ?_
    show own_K p e below m s₁ 0 #[rv oa] [] _
    refine XS.aloadN X0.here hx rfl (hb hby d2_0) rfl rfl ?_
    show own_K p e below m s₁ 1 #[rv oa] [(.ref oa)] _
    refine st1 _ ?_
    exact k
  obtain ⟨fs, hr, hrun, hended, hW, hsame⟩ := X1.leave (v := none) (fun _ => rfl)
  refine ⟨_, _, hG _ (pre2 _ ?_), hrun, hended, _, _, rfl, ?_, ⟨_, rfl⟩, hW, hsame.mono (by decide) (by decide)⟩
  · show own_K p e below m T1 4 #[rv oa] [] _
    exact X1.returnOut hx Bd.returns (hb hby d2_4) hr
  · show Q2 Z oa h0 n0 _ T1.heap _
    rw [e1]
    exact ⟨rfl, N0, rfl⟩

theorem d1_0 : decode prog_146_method_1_code 0 = .ok (.aload_n 0, 1) := by decide +kernel
theorem d1_1 : decode prog_146_method_1_code 1 = .ok (.invokespecial 1, 3) := by decide +kernel
theorem pd_0 : parseMethodDescriptor "()V" = some ⟨[], none⟩ := by decide +kernel
theorem d1_4 : decode prog_146_method_1_code 4 = .ok (.aload_n 0, 1) := by decide +kernel
theorem d1_5 : decode prog_146_method_1_code 5 = .ok (.lload_n 1, 1) := by decide +kernel
theorem d1_6 : decode prog_146_method_1_code 6 = .ok (.putfield 7, 3) := by decide +kernel
theorem d1_9 : decode prog_146_method_1_code 9 = .ok (.aload_n 0, 1) := by decide +kernel
theorem d1_10 : decode prog_146_method_1_code 10 = .ok (.lload_n 3, 1) := by decide +kernel
theorem d1_11 : decode prog_146_method_1_code 11 = .ok (.putfield 13, 3) := by decide +kernel
theorem d1_14 : decode prog_146_method_1_code 14 = .ok (.return_, 1) := by decide +kernel
theorem pn_1 : plainName "evenkeel/model/CommittedOffset$Span" = true := by first | (simp [plainName, overriddenIn]; done) | decide +kernel
theorem ef_1 (m : MethodId) (x0 : Addr) (x1 : Int64) (x2 : Int64) : entryFrame m #[(.ref x0), (.long x1), (.long x2)] 5 = mkF m 0 #[rv x0, lv x1, .second, lv x2, .second] [] := by first | (simp [entryFrame, mkF, argsToLocals, Value.category]; done) | rfl
def Q1 (Z : State) (oa : Addr) (qf : Int64) (ql : Int64) (u1 : Value) (u2 : Value) (h0 : Heap) (n0 : Nat) (rv_ : Option Value) (h_ : Heap) (L_ : List Loc) : Prop := rv_ = none ∧ Fr n0 L_ ∧ Keep h0 h_ [oa] ∧ Fld Z h_ oa "evenkeel/model/CommittedOffset$Span" "last" "J" (.long ql)
set_option maxRecDepth 65536 in
set_option maxHeartbeats 40000000 in
theorem rm1 (l : Launch) (Z : State) (a0 : Array Value) (hw : ∀ d ∈ tables_1, d.before a0 Z = true) (ws : List Jvm.Cond) (oa : Addr) (qf : Int64) (ql : Int64) (u1 : Value) (u2 : Value) (h0 : Heap) (n0 : Nat) (Z0 : n0 ≤ h0.size) (E_ : Exa Z h0 oa "evenkeel/model/CommittedOffset$Span") (F1 : Fld Z h0 oa "evenkeel/model/CommittedOffset$Span" "first" "J" u1) (F2 : Fld Z h0 oa "evenkeel/model/CommittedOffset$Span" "last" "J" u2) (g_ : n0 ≤ oa) :
    MetFree l (⟨"evenkeel/model/CommittedOffset$Span", "<init>", "(JJ)V"⟩ : MethodName) (head1 (Jvm.Cond.code (⟨"evenkeel/model/CommittedOffset$Span", "<init>", "(JJ)V"⟩ : MethodName) prog_146_method_1_code 5 none :: ws) ({ frames := 2, cells := 0, slots := 0, locals := 24 } : Room)) (fun a U => a = #[(.ref oa), (.long qf), (.long ql)] ∧ Z.Warmed39 U.vm ∧ U.heap = h0) (fun _ _ _ _ _ => True) (fun _ U o U' => ∃ v L, o = .returned v ∧ Q1 Z oa qf ql u1 u2 h0 n0 v U'.heap L ∧ FrameEnd U o U' L ({ frames := 2, cells := 0, slots := 0, locals := 24 } : Room).cells ({ frames := 2, cells := 0, slots := 0, locals := 24 } : Room).slots) := by
  refine MetFree.of_bodySF (plainFor_of_name pn_1) hisR ?_
  intro p e s m args below meth c s₁ Bd hml0 hP hK
  obtain ⟨rfl, hZ, hh⟩ := hP
  have hx := Bd.exec
  have hby := Bd.bytes
  have hml : c.maxLocals = 5 := hml0
  have hown : s.vm.findClass "evenkeel/model/CommittedOffset$Span" = some m.cls := findClass_of_methodNamed Bd.named
  have hnm := (name_of_methodNamed Bd.named Bd.method).1
  have X0 : Stand p l e ({ frames := 2, cells := 0, slots := 0, locals := 24 } : Room) s m #[(.ref oa), (.long qf), (.long ql)] below meth c s₁ [] 0 0 := Stand.of_body Bd
  have e0 : s₁.heap = h0 := by rw [← hh, Bd.state]; rfl
  have N0 := Fr.nil n0
  obtain ⟨G, hG, pre0⟩ : ∃ G : State → Prop, (∀ t, G t → Steps p.tables e below (s₁.setTop (entryFrame m #[(.ref oa), (.long qf), (.long ql)] 5)) t) ∧ ∀ t, own_K p e below m s₁ 0 #[rv oa, lv qf, .second, lv ql, .second] [] t → G t := ⟨fun t => Steps p.tables e below (s₁.setTop (entryFrame m #[(.ref oa), (.long qf), (.long ql)] 5)) t, fun _ k => k, fun t k => castTop (ef_1 m oa qf ql) k⟩
  obtain ⟨_, _, ⟨T1, L1, k1, n1⟩, -, X1, ⟨Lc1, hQ1, l1, y1, z1⟩, st1⟩ := X0.specialBack hx (y := (⟨"java/lang/Record", "<init>", "()V"⟩ : MethodName)) rfl hown (mvT hZ (hw _ (List.mem_of_getElem? (i := 7) rfl))) (mvT hZ (hw _ (List.mem_of_getElem? (i := 8) rfl))) (mvT hZ (hw _ (List.mem_of_getElem? (i := 11) rfl))) (by decide) (backOf (W := 0) (rm2 l Z a0 hw [] oa h0 n0 Z0 ) hZ (hw _ (List.mem_of_getElem? (i := 11) rfl)) (hw _ (List.mem_of_getElem? (i := 10) rfl)) (by decide) (by decide)) (g := (mkF m 1 #[rv oa, lv qf, .second, lv ql, .second] [(.ref oa)])) rfl (by rw [hml]; rfl) (Steps.refl _) (a := oa) (argsL := []) (rest := []) (lenOf pd_0 rfl) rfl (by show 2 * 0 + _ ≤ _; exact Nat.le_of_eq rfl) (hb hby d1_1) (fun _ _ => ⟨rfl, e0, (by decide : 0 + 0 ≤ _), (by decide : 0 + 0 ≤ _)⟩)
  dsimp only [Pt.U, Pt.locs, Pt.cells, Pt.slots] at X1 l1 y1 z1 st1 hQ1
  subst l1 y1 z1
  obtain ⟨rfl, Nq1, eh1⟩ := hQ1
  have N1 := Fr.app N0 Nq1
  obtain ⟨T2, h2, X2, e2, W2, st2⟩ := putF X1 hx hZ hown (host := "") (Or.inl (hw _ (List.mem_of_getElem? (i := 15) rfl))) Via.refl eh1 F1 E_ (Or.inr ⟨(hw _ (List.mem_of_getElem? (i := 16) rfl)), rfl, hnm⟩) (hw _ (List.mem_of_getElem? (i := 2) rfl)) (ty := .long) (by decide) rfl rfl (g := (mkF m 6 #[rv oa, lv qf, .second, lv ql, .second] [(.long qf), (.ref oa)])) rfl rfl (hb hby d1_6)
  have f2w := F1.same W2
  have K2 : Keep h0 h2 [oa] := (Keep.refl h0 [oa]).wr W2 (Or.inl (List.mem_of_getElem? (i := 0) rfl))
  have N2 := Fr.snoc X2 N1 g_
  have sz2 : n0 ≤ h2.size := Nat.le_trans Z0 (Keep.of_wr W2).1
  have f4 : Fld Z h2 oa "evenkeel/model/CommittedOffset$Span" "last" "J" u2 := (F2.other W2 (Or.inr (slot_ne (Or.inr (hw _ (List.mem_of_getElem? (i := 18) rfl))) (Or.inr (hw _ (List.mem_of_getElem? (i := 16) rfl))) (by decide) (t := .long) (t' := .long) (by decide) (by decide))))
  have f5 : Exa Z h2 oa "evenkeel/model/CommittedOffset$Span" := (E_.wr W2)
  obtain ⟨T3, h3, X3, e3, W3, st3⟩ := putF X2 hx hZ hown (host := "") (Or.inl (hw _ (List.mem_of_getElem? (i := 17) rfl))) Via.refl e2 f4 f5 (Or.inr ⟨(hw _ (List.mem_of_getElem? (i := 18) rfl)), rfl, hnm⟩) (hw _ (List.mem_of_getElem? (i := 2) rfl)) (ty := .long) (by decide) rfl rfl (g := (mkF m 11 #[rv oa, lv qf, .second, lv ql, .second] [(.long ql), (.ref oa)])) rfl rfl (hb hby d1_11)
  have f3w := f4.same W3
  have K3 : Keep h0 h3 [oa] := K2.wr W3 (Or.inl (List.mem_of_getElem? (i := 0) rfl))
  have N3 := Fr.snoc X3 N2 g_
  have sz3 : n0 ≤ h3.size := Nat.le_trans sz2 (Keep.of_wr W3).1
  have pre6 : ∀ t, own_K p e below m T3 14 #[rv oa, lv qf, .second, lv ql, .second] [] t → G t := by
    intro t k
    refine pre0 t ?_
    show own_K p e below m s₁ 0 #[rv oa, lv qf, .second, lv ql, .second] [] _
    refine XS.aloadN X0.here hx rfl (hb hby d1_0) rfl rfl ?_
    show own_K p e below m s₁ 1 #[rv oa, lv qf, .second, lv ql, .second] [(.ref oa)] _
    refine st1.trans ?_
    show own_K p e below m T1 4 #[rv oa, lv qf, .second, lv ql, .second] [] _
    refine XS.aloadN X1.here hx rfl (hb hby d1_4) rfl rfl ?_
    show own_K p e below m T1 5 #[rv oa, lv qf, .second, lv ql, .second] [(.ref oa)] _
    refine XS.lloadN X1.here hx rfl (hb hby d1_5) rfl ?_
    show own_K p e below m T1 6 #[rv oa, lv qf, .second, lv ql, .second] [(.long qf), (.ref oa)] _
    refine st2 _ ?_
    show own_K p e below m T2 9 #[rv oa, lv qf, .second, lv ql, .second] [] _
    refine XS.aloadN X2.here hx rfl (hb hby d1_9) rfl rfl ?_
    show own_K p e below m T2 10 #[rv oa, lv qf, .second, lv ql, .second] [(.ref oa)] _
    refine XS.lloadN X2.here hx rfl (hb hby d1_10) rfl ?_
    show own_K p e below m T2 11 #[rv oa, lv qf, .second, lv ql, .second] [(.long ql), (.ref oa)] _
    refine st3 _ ?_
    exact k
  obtain ⟨fs, hr, hrun, hended, hW, hsame⟩ := X3.leave (v := none) (fun _ => rfl)
  refine ⟨_, _, hG _ (pre6 _ ?_), hrun, hended, _, _, rfl, ?_, ⟨_, rfl⟩, hW, hsame.mono (by decide) (by decide)⟩
  · show own_K p e below m T3 14 #[rv oa, lv qf, .second, lv ql, .second] [] _
    exact X3.returnOut hx Bd.returns (hb hby d1_14) hr
  · show Q1 Z oa qf ql u1 u2 h0 n0 _ T3.heap _
    rw [e3]
    exact ⟨rfl, N3, K3, f3w⟩

theorem d4_0 : decode prog_146_method_2_code 0 = .ok (.aload_n 0, 1) := by decide +kernel
theorem d4_1 : decode prog_146_method_2_code 1 = .ok (.getfield 13, 3) := by decide +kernel
theorem d4_4 : decode prog_146_method_2_code 4 = .ok (.ldc2_w 18, 3) := by decide +kernel
theorem d4_7 : decode prog_146_method_2_code 7 = .ok (.lcmp, 1) := by decide +kernel
theorem d4_8 : decode prog_146_method_2_code 8 = .ok (.ifCond .ne 10, 3) := by decide +kernel
theorem d4_11 : decode prog_146_method_2_code 11 = .ok (.aload_n 0, 1) := by decide +kernel
theorem d4_12 : decode prog_146_method_2_code 12 = .ok (.getfield 13, 3) := by decide +kernel
theorem d4_15 : decode prog_146_method_2_code 15 = .ok (.goto 9, 3) := by decide +kernel
theorem d4_24 : decode prog_146_method_2_code 24 = .ok (.lreturn, 1) := by decide +kernel
theorem d4_18 : decode prog_146_method_2_code 18 = .ok (.aload_n 0, 1) := by decide +kernel
theorem d4_19 : decode prog_146_method_2_code 19 = .ok (.getfield 13, 3) := by decide +kernel
theorem d4_22 : decode prog_146_method_2_code 22 = .ok (.lconst 1, 1) := by decide +kernel
theorem d4_23 : decode prog_146_method_2_code 23 = .ok (.ladd, 1) := by decide +kernel
theorem ef_4 (m : MethodId) (x0 : Addr) : entryFrame m #[(.ref x0)] 1 = mkF m 0 #[rv x0] [] := by first | (simp [entryFrame, mkF, argsToLocals, Value.category]; done) | rfl
def Q4 (Z : State) (oa : Addr) (wl : Int64) (h0 : Heap) (n0 : Nat) (rv_ : Option Value) (h_ : Heap) (L_ : List Loc) : Prop := rv_ = some (.long (if wl = (9223372036854775807 : Int64) then wl else (wl + (1 : Int64)))) ∧ Fr n0 L_ ∧ h_ = h0
set_option maxRecDepth 65536 in
set_option maxHeartbeats 40000000 in
theorem rm4 (l : Launch) (Z : State) (a0 : Array Value) (hw : ∀ d ∈ tables_1, d.before a0 Z = true) (ws : List Jvm.Cond) (oa : Addr) (wl : Int64) (h0 : Heap) (n0 : Nat) (Z0 : n0 ≤ h0.size) (F2 : Fld Z h0 oa "evenkeel/model/CommittedOffset$Span" "last" "J" (.long wl)) :
    MetFree l (⟨"evenkeel/model/CommittedOffset$Span", "end", "()J"⟩ : MethodName) (head1 (Jvm.Cond.code (⟨"evenkeel/model/CommittedOffset$Span", "end", "()J"⟩ : MethodName) prog_146_method_2_code 1 (some .long) :: ws) ({ frames := 0, cells := 0, slots := 0, locals := 0 } : Room)) (fun a U => a = #[(.ref oa)] ∧ Z.Warmed39 U.vm ∧ U.heap = h0) (fun _ _ _ _ _ => True) (fun _ U o U' => ∃ v L, o = .returned v ∧ Q4 Z oa wl h0 n0 v U'.heap L ∧ FrameEnd U o U' L ({ frames := 0, cells := 0, slots := 0, locals := 0 } : Room).cells ({ frames := 0, cells := 0, slots := 0, locals := 0 } : Room).slots) := by
  refine MetFree.of_bodySF (plainFor_of_name pn_1) hisR ?_
  intro p e s m args below meth c s₁ Bd hml0 hP hK
  obtain ⟨rfl, hZ, hh⟩ := hP
  have hx := Bd.exec
  have hby := Bd.bytes
  have hml : c.maxLocals = 1 := hml0
  have hown : s.vm.findClass "evenkeel/model/CommittedOffset$Span" = some m.cls := findClass_of_methodNamed Bd.named
  have hnm := (name_of_methodNamed Bd.named Bd.method).1
  have X0 : Stand p l e ({ frames := 0, cells := 0, slots := 0, locals := 0 } : Room) s m #[(.ref oa)] below meth c s₁ [] 0 0 := Stand.of_body Bd
  have e0 : s₁.heap = h0 := by rw [← hh, Bd.state]; rfl
  have N0 := Fr.nil n0
  obtain ⟨G, hG, pre0⟩ : ∃ G : State → Prop, (∀ t, G t → Steps p.tables e below (s₁.setTop (entryFrame m #[(.ref oa)] 1)) t) ∧ ∀ t, own_K p e below m s₁ 0 #[rv oa] [] t → G t := ⟨fun t => Steps p.tables e below (s₁.setTop (entryFrame m #[(.ref oa)] 1)) t, fun _ k => k, fun t k => castTop (ef_4 m oa) k⟩
  obtain ⟨T1, X1, e1, st1⟩ := getF X0 hx hZ hown (host := "") (Or.inl (hw _ (List.mem_of_getElem? (i := 17) rfl))) Via.refl e0 F2 (g := (mkF m 1 #[rv oa] [(.ref oa)])) rfl rfl (hb hby d4_1)
  have pre2 : ∀ t, own_K p e below m T1 8 #[rv oa] [(.int (lcmpW wl (9223372036854775807 : Int64)))] t → G t := by
    intro t k
    refine pre0 t ?_
    show own_K p e below m s₁ 0 #[rv oa] [] _
    refine XS.aloadN X0.here hx rfl (hb hby d4_0) rfl rfl ?_
    show own_K p e below m s₁ 1 #[rv oa] [(.ref oa)] _
    refine st1 _ ?_
    show own_K p e below m T1 4 #[rv oa] [(.long wl)] _
    refine X1.ldc2Long hx hown (mvT hZ (hw _ (List.mem_of_getElem? (i := 24) rfl))) (g := (mkF m 4 #[rv oa] [(.long wl)])) rfl (hb hby d4_4) _ ?_
    show own_K p e below m T1 7 #[rv oa] [(.long (9223372036854775807 : Int64)), (.long wl)] _
    refine XS.lcmp X1.here hx rfl (hb hby d4_7) rfl ?_
    exact k
  by_cases hc8_3 : wl = (9223372036854775807 : Int64)
  · obtain ⟨T4, X4, e4, st4⟩ := getF X1 hx hZ hown (host := "") (Or.inl (hw _ (List.mem_of_getElem? (i := 17) rfl))) Via.refl e1 F2 (g := (mkF m 12 #[rv oa] [(.ref oa)])) rfl rfl (hb hby d4_12)
    have pre5 : ∀ t, own_K p e below m T4 24 #[rv oa] [(.long wl)] t → G t := by
      intro t k
      refine pre2 t ?_
      show own_K p e below m T1 8 #[rv oa] [(.int (lcmpW wl (9223372036854775807 : Int64)))] _
      refine XS.ifNo X1.here hx rfl (hb hby d4_8) rfl ((if0 _ _).trans (teq ((lw_eq _ _).mpr hc8_3)).2) ?_
      show own_K p e below m T1 11 #[rv oa] [] _
      refine XS.aloadN X1.here hx rfl (hb hby d4_11) rfl rfl ?_
      show own_K p e below m T1 12 #[rv oa] [(.ref oa)] _
      refine st4 _ ?_
      show own_K p e below m T4 15 #[rv oa] [(.long wl)] _
      refine XS.goto X4.here hx rfl (pc0 := 15) (pc' := 24) rfl (hb hby d4_15) (by decide) (by decide) ?_
      exact k
    obtain ⟨fs, hr, hrun, hended, hW, hsame⟩ := X4.leave (v := some (.long wl)) (fun h => by rw [Bd.returns] at h; cases h)
    refine ⟨_, _, hG _ (pre5 _ ?_), hrun, hended, _, _, rfl, ?_, ⟨_, rfl⟩, hW, hsame.mono (by decide) (by decide)⟩
    · show own_K p e below m T4 24 #[rv oa] [(.long wl)] _
      jvm_step X4.here [X4.here.top, hx, (hb hby d4_24), X4.method', Bd.returns, narrow]
      first | (intro acts; rw [hr _ acts rfl rfl rfl]) | rw [hr _ _ rfl rfl rfl]
      exact Steps.refl _
    · show Q4 Z oa wl h0 n0 _ T4.heap _
      rw [e4]
      exact ⟨(by simp [hc8_3]), N0, rfl⟩
  · obtain ⟨T6, X6, e6, st6⟩ := getF X1 hx hZ hown (host := "") (Or.inl (hw _ (List.mem_of_getElem? (i := 17) rfl))) Via.refl e1 F2 (g := (mkF m 19 #[rv oa] [(.ref oa)])) rfl rfl (hb hby d4_19)
    have pre7 : ∀ t, own_K p e below m T6 24 #[rv oa] [(.long (wl + (1 : Int64)))] t → G t := by
      intro t k
      refine pre2 t ?_
      show own_K p e below m T1 8 #[rv oa] [(.int (lcmpW wl (9223372036854775807 : Int64)))] _
      refine XS.ifYes X1.here hx rfl (pc0 := 8) (pc' := 18) rfl (hb hby d4_8) rfl ((if0 _ _).trans (feq (mt (lw_eq _ _).mp hc8_3)).2) (by decide) (by decide) ?_
      show own_K p e below m T1 18 #[rv oa] [] _
      refine XS.aloadN X1.here hx rfl (hb hby d4_18) rfl rfl ?_
      show own_K p e below m T1 19 #[rv oa] [(.ref oa)] _
      refine st6 _ ?_
      show own_K p e below m T6 22 #[rv oa] [(.long wl)] _
      refine XS.lconst X6.here hx rfl (hb hby d4_22) ?_
      show own_K p e below m T6 23 #[rv oa] [(.long (1 : Int64)), (.long wl)] _
      refine XS.ladd X6.here hx rfl (hb hby d4_23) rfl ?_
      exact k
    obtain ⟨fs, hr, hrun, hended, hW, hsame⟩ := X6.leave (v := some (.long (wl + (1 : Int64)))) (fun h => by rw [Bd.returns] at h; cases h)
    refine ⟨_, _, hG _ (pre7 _ ?_), hrun, hended, _, _, rfl, ?_, ⟨_, rfl⟩, hW, hsame.mono (by decide) (by decide)⟩
    · show own_K p e below m T6 24 #[rv oa] [(.long (wl + (1 : Int64)))] _
      jvm_step X6.here [X6.here.top, hx, (hb hby d4_24), X6.method', Bd.returns, narrow]
      first | (intro acts; rw [hr _ acts rfl rfl rfl]) | rw [hr _ _ rfl rfl rfl]
      exact Steps.refl _
    · show Q4 Z oa wl h0 n0 _ T6.heap _
      rw [e6]
      exact ⟨(by simp [hc8_3]), N0, rfl⟩

theorem pd_1 : parseMethodDescriptor "(JJ)V" = some ⟨[.long, .long], none⟩ := by decide +kernel
theorem pd_2 : parseMethodDescriptor "()J" = some ⟨[], some .long⟩ := by decide +kernel
theorem pn_2 : plainName "evenkeel/model/SpanEndPinLaw" = true := by first | (simp [plainName, overriddenIn]; done) | decide +kernel
theorem ef_0 (m : MethodId) (x0 : Int64) (x1 : Int64) (x2 : Int64) (x3 : Int32) : entryFrame m #[(.long x0), (.long x1), (.long x2), (.int x3)] maxLocals = mkF m 0 #[lv x0, .second, lv x1, .second, lv x2, .second, iv x3, .unset, .unset, .unset, .unset, .unset, .unset, .unset] [] := by first | (simp [entryFrame, mkF, argsToLocals, Value.category, maxLocals]; done) | rfl
def Q0 (Z : State) (p1 : Int64) (p2 : Int64) (p3 : Int64) (p4 : Int32) (h0 : Heap) (n0 : Nat) (rv_ : Option Value) (h_ : Heap) (L_ : List Loc) : Prop := rv_ = some (.int (1 : Int32)) ∧ Fr n0 L_ ∧ Keep h0 h_ []
set_option maxRecDepth 65536 in
set_option maxHeartbeats 40000000 in
theorem rm0 (l : Launch) (Z : State) (a0 : Array Value) (hw : ∀ d ∈ tables_1, d.before a0 Z = true) (ws : List Jvm.Cond) (p1 : Int64) (p2 : Int64) (p3 : Int64) (p4 : Int32) (h0 : Heap) (n0 : Nat) (Z0 : n0 ≤ h0.size) :
    MetFree l x (head1 (Jvm.Cond.code x code maxLocals ret :: ws) room_1) (fun a U => a = #[(.long p1), (.long p2), (.long p3), (.int p4)] ∧ Z.Warmed39 U.vm ∧ U.heap = h0) (fun _ _ _ _ _ => True) (fun _ U o U' => ∃ v L, o = .returned v ∧ Q0 Z p1 p2 p3 p4 h0 n0 v U'.heap L ∧ FrameEnd U o U' L 2 4) := by
  refine MetFree.of_bodySF (plainFor_of_name pn_2) hisR ?_
  intro p e s m args below meth c s₁ Bd hml0 hP hK
  obtain ⟨rfl, hZ, hh⟩ := hP
  have hx := Bd.exec
  have hby := Bd.bytes
  have hml : c.maxLocals = 14 := hml0
  have hown : s.vm.findClass "evenkeel/model/SpanEndPinLaw" = some m.cls := findClass_of_methodNamed Bd.named
  have hnm := (name_of_methodNamed Bd.named Bd.method).1
  have X0 : Stand p l e room_1 s m #[(.long p1), (.long p2), (.long p3), (.int p4)] below meth c s₁ [] 0 0 := Stand.of_body Bd
  have e0 : s₁.heap = h0 := by rw [← hh, Bd.state]; rfl
  have N0 := Fr.nil n0
  obtain ⟨G, hG, pre0⟩ : ∃ G : State → Prop, (∀ t, G t → Steps p.tables e below (s₁.setTop (entryFrame m #[(.long p1), (.long p2), (.long p3), (.int p4)] maxLocals)) t) ∧ ∀ t, own_K p e below m s₁ 0 #[lv p1, .second, lv p2, .second, lv p3, .second, iv p4, .unset, .unset, .unset, .unset, .unset, .unset, .unset] [] t → G t := ⟨fun t => Steps p.tables e below (s₁.setTop (entryFrame m #[(.long p1), (.long p2), (.long p3), (.int p4)] maxLocals)) t, fun _ k => k, fun t k => castTop (ef_0 m p1 p2 p3 p4) k⟩
  have pre1 : ∀ t, own_K p e below m s₁ 11 #[lv p1, .second, lv p2, .second, lv p3, .second, iv p4, iv (p4 &&& (3 : Int32)), lv p2, .second, .unset, .unset, .unset, .unset] [(.int (p4 &&& (3 : Int32)))] t → G t := by
    intro t k
    refine pre0 t ?_
    show own_K p e below m s₁ 0 #[lv p1, .second, lv p2, .second, lv p3, .second, iv p4, .unset, .unset, .unset, .unset, .unset, .unset, .unset] [] _
    refine XS.iload X0.here hx rfl (hb hby at_0) rfl ?_
    show own_K p e below m s₁ 2 #[lv p1, .second, lv p2, .second, lv p3, .second, iv p4, .unset, .unset, .unset, .unset, .unset, .unset, .unset] [(.int p4)] _
    refine XS.iconst X0.here hx rfl (hb hby at_2) ?_
    show own_K p e below m s₁ 3 #[lv p1, .second, lv p2, .second, lv p3, .second, iv p4, .unset, .unset, .unset, .unset, .unset, .unset, .unset] [(.int (3 : Int32)), (.int p4)] _
    refine XS.iand X0.here hx rfl (hb hby at_3) rfl ?_
    show own_K p e below m s₁ 4 #[lv p1, .second, lv p2, .second, lv p3, .second, iv p4, .unset, .unset, .unset, .unset, .unset, .unset, .unset] [(.int (p4 &&& (3 : Int32)))] _
    refine XS.istore X0.here hx rfl (hb hby at_4) rfl (l' := #[lv p1, .second, lv p2, .second, lv p3, .second, iv p4, iv (p4 &&& (3 : Int32)), .unset, .unset, .unset, .unset, .unset, .unset]) rfl ?_
    show own_K p e below m s₁ 6 #[lv p1, .second, lv p2, .second, lv p3, .second, iv p4, iv (p4 &&& (3 : Int32)), .unset, .unset, .unset, .unset, .unset, .unset] [] _
    refine XS.lloadN X0.here hx rfl (hb hby at_6) rfl ?_
    show own_K p e below m s₁ 7 #[lv p1, .second, lv p2, .second, lv p3, .second, iv p4, iv (p4 &&& (3 : Int32)), .unset, .unset, .unset, .unset, .unset, .unset] [(.long p2)] _
    refine XS.lstore X0.here hx rfl (hb hby at_7) rfl (l' := #[lv p1, .second, lv p2, .second, lv p3, .second, iv p4, iv (p4 &&& (3 : Int32)), lv p2, .second, .unset, .unset, .unset, .unset]) rfl ?_
    show own_K p e below m s₁ 9 #[lv p1, .second, lv p2, .second, lv p3, .second, iv p4, iv (p4 &&& (3 : Int32)), lv p2, .second, .unset, .unset, .unset, .unset] [] _
    refine XS.iload X0.here hx rfl (hb hby at_9) rfl ?_
    exact k
  obtain ⟨v11, hv11⟩ : ∃ z : Int64, z = (if (p4 &&& (3 : Int32)) = (0 : Int32) then (9223372036854775807 : Int64) else (if (p4 &&& (3 : Int32)) = (1 : Int32) then (9223372036854775806 : Int64) else (if (p4 &&& (3 : Int32)) = (2 : Int32) then (-9223372036854775808 : Int64) else p2))) := ⟨_, rfl⟩
  have pre12 : ∀ t, own_K p e below m s₁ 47 #[lv p1, .second, lv p2, .second, lv p3, .second, iv p4, iv (p4 &&& (3 : Int32)), lv v11, .second, .unset, .unset, .unset, .unset] [] t → G t := by
    by_cases hc11_2 : (p4 &&& (3 : Int32)) = (0 : Int32)
    · have pre3 : ∀ t, own_K p e below m s₁ 47 #[lv p1, .second, lv p2, .second, lv p3, .second, iv p4, iv (p4 &&& (3 : Int32)), lv (9223372036854775807 : Int64), .second, .unset, .unset, .unset, .unset] [] t → G t := by
        intro t k
        refine pre1 t ?_
        show own_K p e below m s₁ 11 #[lv p1, .second, lv p2, .second, lv p3, .second, iv p4, iv (p4 &&& (3 : Int32)), lv p2, .second, .unset, .unset, .unset, .unset] [(.int (p4 &&& (3 : Int32)))] _
        refine XS.ifNo X0.here hx rfl (hb hby at_11) rfl ((if0 _ _).trans (teq hc11_2).2) ?_
        show own_K p e below m s₁ 14 #[lv p1, .second, lv p2, .second, lv p3, .second, iv p4, iv (p4 &&& (3 : Int32)), lv p2, .second, .unset, .unset, .unset, .unset] [] _
        refine X0.ldc2Long hx hown (mvT hZ (hw _ (List.mem_of_getElem? (i := 25) rfl))) (g := (mkF m 14 #[lv p1, .second, lv p2, .second, lv p3, .second, iv p4, iv (p4 &&& (3 : Int32)), lv p2, .second, .unset, .unset, .unset, .unset] [])) rfl (hb hby at_14) _ ?_
        show own_K p e below m s₁ 17 #[lv p1, .second, lv p2, .second, lv p3, .second, iv p4, iv (p4 &&& (3 : Int32)), lv p2, .second, .unset, .unset, .unset, .unset] [(.long (9223372036854775807 : Int64))] _
        refine XS.lstore X0.here hx rfl (hb hby at_17) rfl (l' := #[lv p1, .second, lv p2, .second, lv p3, .second, iv p4, iv (p4 &&& (3 : Int32)), lv (9223372036854775807 : Int64), .second, .unset, .unset, .unset, .unset]) rfl ?_
        show own_K p e below m s₁ 19 #[lv p1, .second, lv p2, .second, lv p3, .second, iv p4, iv (p4 &&& (3 : Int32)), lv (9223372036854775807 : Int64), .second, .unset, .unset, .unset, .unset] [] _
        refine XS.goto X0.here hx rfl (pc0 := 19) (pc' := 47) rfl (hb hby at_19) (by decide) (by decide) ?_
        exact k
      have hq := True.intro
      obtain rfl : v11 = (9223372036854775807 : Int64) := by simp only [hv11, if_pos hc11_2]
      exact fun t k => pre3 t k
    · have pre4 : ∀ t, own_K p e below m s₁ 25 #[lv p1, .second, lv p2, .second, lv p3, .second, iv p4, iv (p4 &&& (3 : Int32)), lv p2, .second, .unset, .unset, .unset, .unset] [(.int (1 : Int32)), (.int (p4 &&& (3 : Int32)))] t → G t := by
        intro t k
        refine pre1 t ?_
        show own_K p e below m s₁ 11 #[lv p1, .second, lv p2, .second, lv p3, .second, iv p4, iv (p4 &&& (3 : Int32)), lv p2, .second, .unset, .unset, .unset, .unset] [(.int (p4 &&& (3 : Int32)))] _
        refine XS.ifYes X0.here hx rfl (pc0 := 11) (pc' := 22) rfl (hb hby at_11) rfl ((if0 _ _).trans (feq hc11_2).2) (by decide) (by decide) ?_
        show own_K p e below m s₁ 22 #[lv p1, .second, lv p2, .second, lv p3, .second, iv p4, iv (p4 &&& (3 : Int32)), lv p2, .second, .unset, .unset, .unset, .unset] [] _
        refine XS.iload X0.here hx rfl (hb hby at_22) rfl ?_
        show own_K p e below m s₁ 24 #[lv p1, .second, lv p2, .second, lv p3, .second, iv p4, iv (p4 &&& (3 : Int32)), lv p2, .second, .unset, .unset, .unset, .unset] [(.int (p4 &&& (3 : Int32)))] _
        refine XS.iconst X0.here hx rfl (hb hby at_24) ?_
        exact k
      by_cases hc25_5 : (p4 &&& (3 : Int32)) = (1 : Int32)
      · have pre6 : ∀ t, own_K p e below m s₁ 47 #[lv p1, .second, lv p2, .second, lv p3, .second, iv p4, iv (p4 &&& (3 : Int32)), lv (9223372036854775806 : Int64), .second, .unset, .unset, .unset, .unset] [] t → G t := by
          intro t k
          refine pre4 t ?_
          show own_K p e below m s₁ 25 #[lv p1, .second, lv p2, .second, lv p3, .second, iv p4, iv (p4 &&& (3 : Int32)), lv p2, .second, .unset, .unset, .unset, .unset] [(.int (1 : Int32)), (.int (p4 &&& (3 : Int32)))] _
          refine XS.icmpNo X0.here hx rfl (hb hby at_25) rfl (teq hc25_5).2 ?_
          show own_K p e below m s₁ 28 #[lv p1, .second, lv p2, .second, lv p3, .second, iv p4, iv (p4 &&& (3 : Int32)), lv p2, .second, .unset, .unset, .unset, .unset] [] _
          refine X0.ldc2Long hx hown (mvT hZ (hw _ (List.mem_of_getElem? (i := 26) rfl))) (g := (mkF m 28 #[lv p1, .second, lv p2, .second, lv p3, .second, iv p4, iv (p4 &&& (3 : Int32)), lv p2, .second, .unset, .unset, .unset, .unset] [])) rfl (hb hby at_28) _ ?_
          show own_K p e below m s₁ 31 #[lv p1, .second, lv p2, .second, lv p3, .second, iv p4, iv (p4 &&& (3 : Int32)), lv p2, .second, .unset, .unset, .unset, .unset] [(.long (9223372036854775806 : Int64))] _
          refine XS.lstore X0.here hx rfl (hb hby at_31) rfl (l' := #[lv p1, .second, lv p2, .second, lv p3, .second, iv p4, iv (p4 &&& (3 : Int32)), lv (9223372036854775806 : Int64), .second, .unset, .unset, .unset, .unset]) rfl ?_
          show own_K p e below m s₁ 33 #[lv p1, .second, lv p2, .second, lv p3, .second, iv p4, iv (p4 &&& (3 : Int32)), lv (9223372036854775806 : Int64), .second, .unset, .unset, .unset, .unset] [] _
          refine XS.goto X0.here hx rfl (pc0 := 33) (pc' := 47) rfl (hb hby at_33) (by decide) (by decide) ?_
          exact k
        have hq := True.intro
        obtain rfl : v11 = (9223372036854775806 : Int64) := by simp only [hv11, if_neg hc11_2, if_pos hc25_5]
        exact fun t k => pre6 t k
      · have pre7 : ∀ t, own_K p e below m s₁ 39 #[lv p1, .second, lv p2, .second, lv p3, .second, iv p4, iv (p4 &&& (3 : Int32)), lv p2, .second, .unset, .unset, .unset, .unset] [(.int (2 : Int32)), (.int (p4 &&& (3 : Int32)))] t → G t := by
          intro t k
          refine pre4 t ?_
          show own_K p e below m s₁ 25 #[lv p1, .second, lv p2, .second, lv p3, .second, iv p4, iv (p4 &&& (3 : Int32)), lv p2, .second, .unset, .unset, .unset, .unset] [(.int (1 : Int32)), (.int (p4 &&& (3 : Int32)))] _
          refine XS.icmpYes X0.here hx rfl (pc0 := 25) (pc' := 36) rfl (hb hby at_25) rfl (feq hc25_5).2 (by decide) (by decide) ?_
          show own_K p e below m s₁ 36 #[lv p1, .second, lv p2, .second, lv p3, .second, iv p4, iv (p4 &&& (3 : Int32)), lv p2, .second, .unset, .unset, .unset, .unset] [] _
          refine XS.iload X0.here hx rfl (hb hby at_36) rfl ?_
          show own_K p e below m s₁ 38 #[lv p1, .second, lv p2, .second, lv p3, .second, iv p4, iv (p4 &&& (3 : Int32)), lv p2, .second, .unset, .unset, .unset, .unset] [(.int (p4 &&& (3 : Int32)))] _
          refine XS.iconst X0.here hx rfl (hb hby at_38) ?_
          exact k
        by_cases hc39_8 : (p4 &&& (3 : Int32)) = (2 : Int32)
        · have pre9 : ∀ t, own_K p e below m s₁ 47 #[lv p1, .second, lv p2, .second, lv p3, .second, iv p4, iv (p4 &&& (3 : Int32)), lv (-9223372036854775808 : Int64), .second, .unset, .unset, .unset, .unset] [] t → G t := by
            intro t k
            refine pre7 t ?_
            show own_K p e below m s₁ 39 #[lv p1, .second, lv p2, .second, lv p3, .second, iv p4, iv (p4 &&& (3 : Int32)), lv p2, .second, .unset, .unset, .unset, .unset] [(.int (2 : Int32)), (.int (p4 &&& (3 : Int32)))] _
            refine XS.icmpNo X0.here hx rfl (hb hby at_39) rfl (teq hc39_8).2 ?_
            show own_K p e below m s₁ 42 #[lv p1, .second, lv p2, .second, lv p3, .second, iv p4, iv (p4 &&& (3 : Int32)), lv p2, .second, .unset, .unset, .unset, .unset] [] _
            refine X0.ldc2Long hx hown (mvT hZ (hw _ (List.mem_of_getElem? (i := 0) rfl))) (g := (mkF m 42 #[lv p1, .second, lv p2, .second, lv p3, .second, iv p4, iv (p4 &&& (3 : Int32)), lv p2, .second, .unset, .unset, .unset, .unset] [])) rfl (hb hby at_42) _ ?_
            show own_K p e below m s₁ 45 #[lv p1, .second, lv p2, .second, lv p3, .second, iv p4, iv (p4 &&& (3 : Int32)), lv p2, .second, .unset, .unset, .unset, .unset] [(.long (-9223372036854775808 : Int64))] _
            refine XS.lstore X0.here hx rfl (hb hby at_45) rfl (l' := #[lv p1, .second, lv p2, .second, lv p3, .second, iv p4, iv (p4 &&& (3 : Int32)), lv (-9223372036854775808 : Int64), .second, .unset, .unset, .unset, .unset]) rfl ?_
            exact k
          have hq := True.intro
          obtain rfl : v11 = (-9223372036854775808 : Int64) := by simp only [hv11, if_neg hc11_2, if_neg hc25_5, if_pos hc39_8]
          exact fun t k => pre9 t k
        · have pre10 : ∀ t, own_K p e below m s₁ 47 #[lv p1, .second, lv p2, .second, lv p3, .second, iv p4, iv (p4 &&& (3 : Int32)), lv p2, .second, .unset, .unset, .unset, .unset] [] t → G t := by
            intro t k
            refine pre7 t ?_
            show own_K p e below m s₁ 39 #[lv p1, .second, lv p2, .second, lv p3, .second, iv p4, iv (p4 &&& (3 : Int32)), lv p2, .second, .unset, .unset, .unset, .unset] [(.int (2 : Int32)), (.int (p4 &&& (3 : Int32)))] _
            refine XS.icmpYes X0.here hx rfl (pc0 := 39) (pc' := 47) rfl (hb hby at_39) rfl (feq hc39_8).2 (by decide) (by decide) ?_
            exact k
          have hq := True.intro
          obtain rfl : v11 = p2 := by simp only [hv11, if_neg hc11_2, if_neg hc25_5, if_neg hc39_8]
          exact fun t k => pre10 t k
  obtain ⟨T13, h13, X13, e13, E13, A13, D13, -, st13⟩ := newO X0 hx hZ hown (hw _ (List.mem_of_getElem? (i := 1) rfl)) (hw _ (List.mem_of_getElem? (i := 2) rfl)) (hw _ (List.mem_of_getElem? (i := 3) rfl)) e0 (g := (mkF m 47 #[lv p1, .second, lv p2, .second, lv p3, .second, iv p4, iv (p4 &&& (3 : Int32)), lv v11, .second, .unset, .unset, .unset, .unset] [])) rfl (hb hby at_47) (by decide) (by decide)
  obtain ⟨b13, g13⟩ : ∃ z, z = h0.size := ⟨_, rfl⟩
  rw [← g13] at A13 D13 st13
  have ge_b13 : n0 ≤ b13 := Nat.le_trans Z0 (Nat.le_of_eq g13.symm)
  have sz_b13 : h0.size ≤ b13 := Nat.le_trans (Keep.refl h0 []).1 (Nat.le_of_eq g13.symm)
  have K13 : Keep h0 h13 [] := (Keep.refl h0 []).ext E13
  have sz13 : n0 ≤ h13.size := Nat.le_trans Z0 E13.1
  have f14 : Fld Z h13 b13 "evenkeel/model/CommittedOffset$Span" "first" "J" (.long (0 : Int64)) := D13 (Or.inr (hw _ (List.mem_of_getElem? (i := 16) rfl))) (ty := .long) (by decide)
  have f15 : Fld Z h13 b13 "evenkeel/model/CommittedOffset$Span" "last" "J" (.long (0 : Int64)) := D13 (Or.inr (hw _ (List.mem_of_getElem? (i := 18) rfl))) (ty := .long) (by decide)
  obtain ⟨_, _, ⟨T16, L16, k16, n16⟩, -, X16, ⟨Lc16, hQ16, l16, y16, z16⟩, st16⟩ := X13.specialBack hx (y := (⟨"evenkeel/model/CommittedOffset$Span", "<init>", "(JJ)V"⟩ : MethodName)) rfl hown (mvT hZ (hw _ (List.mem_of_getElem? (i := 4) rfl))) (mvT hZ (hw _ (List.mem_of_getElem? (i := 5) rfl))) (mvT hZ (hw _ (List.mem_of_getElem? (i := 6) rfl))) (by decide) (backOf (W := 1) (rm1 l Z a0 hw [] b13 p1 v11 (.long (0 : Int64)) (.long (0 : Int64)) h13 n0 sz13 A13 f14 f15 ge_b13) hZ (hw _ (List.mem_of_getElem? (i := 6) rfl)) (hw _ (List.mem_of_getElem? (i := 3) rfl)) (by decide) (by decide)) (g := (mkF m 54 #[lv p1, .second, lv p2, .second, lv p3, .second, iv p4, iv (p4 &&& (3 : Int32)), lv v11, .second, .unset, .unset, .unset, .unset] [(.long v11), (.long p1), (.ref b13), (.ref b13)])) rfl (by rw [hml]; rfl) (Steps.refl _) (a := b13) (argsL := [(.long p1), (.long v11)]) (rest := [(.ref b13)]) (lenOf pd_1 rfl) rfl (by show 2 * 0 + _ ≤ _; exact Nat.le_of_eq rfl) (hb hby at_54) (fun _ _ => ⟨rfl, e13, (by decide : 1 + 0 ≤ _), (by decide : 2 + 0 ≤ _)⟩)
  dsimp only [Pt.U, Pt.locs, Pt.cells, Pt.slots] at X16 l16 y16 z16 st16 hQ16
  subst l16 y16 z16
  obtain ⟨rfl, Nq16, Kc16, Fl_16⟩ := hQ16
  have N16 := Fr.app N0 Nq16
  have K16 : Keep h0 T16.heap [] := K13.trans Kc16 (allS (Or.inr sz_b13) all0)
  have sz16 : n0 ≤ T16.heap.size := Nat.le_trans sz13 Kc16.1
  have f18 : Exa Z T16.heap b13 "evenkeel/model/CommittedOffset$Span" := (A13.keep Kc16)
  obtain ⟨cq17, kq17, q17a, q17b, q17c⟩ := isOf hZ rfl f18
  obtain ⟨_, _, ⟨T17, L17, k17, n17⟩, -, X17, ⟨Lc17, hQ17, l17, y17, z17⟩, st17⟩ := X16.virtualBack hx (y := (⟨"evenkeel/model/CommittedOffset$Span", "end", "()J"⟩ : MethodName)) (z := (⟨"evenkeel/model/CommittedOffset$Span", "end", "()J"⟩ : MethodName)) hown (mvT hZ (hw _ (List.mem_of_getElem? (i := 19) rfl))) (mvT hZ (hw _ (List.mem_of_getElem? (i := 20) rfl))) (notFace_of_selects (args := #[]) (mvT hZ (hw _ (List.mem_of_getElem? (i := 22) rfl)))) (mvT hZ (hw _ (List.mem_of_getElem? (i := 22) rfl))) (mvT hZ (hw _ (List.mem_of_getElem? (i := 21) rfl))) (by decide) (backOf (W := 0) (rm4 l Z a0 hw [] b13 v11 T16.heap n0 sz16 Fl_16) hZ (hw _ (List.mem_of_getElem? (i := 23) rfl)) (hw _ (List.mem_of_getElem? (i := 3) rfl)) (by decide) (by decide)) q17a q17c (g := (mkF m 61 #[lv p1, .second, lv p2, .second, lv p3, .second, iv p4, iv (p4 &&& (3 : Int32)), lv v11, .second, rv b13, .unset, .unset, .unset] [(.ref b13)])) rfl (by rw [hml]; rfl) (Steps.refl _) (argsL := []) (rest := []) (lenOf pd_2 rfl) rfl (by show 2 * 0 + _ ≤ _; exact Nat.le_of_eq rfl) (hb hby at_61) (fun _ _ => ⟨rfl, rfl, (by decide : 1 + 0 ≤ _), (by decide : 2 + 0 ≤ _)⟩)
  dsimp only [Pt.U, Pt.locs, Pt.cells, Pt.slots] at X17 l17 y17 z17 st17 hQ17
  subst l17 y17 z17
  obtain ⟨rfl, Nq17, eh17⟩ := hQ17
  have N17 := Fr.app N16 Nq17
  have pre19 : ∀ t, own_K p e below m T17 64 #[lv p1, .second, lv p2, .second, lv p3, .second, iv p4, iv (p4 &&& (3 : Int32)), lv v11, .second, rv b13, .unset, .unset, .unset] [(.long (if v11 = (9223372036854775807 : Int64) then v11 else (v11 + (1 : Int64))))] t → G t := by
    intro t k
    refine pre12 t ?_
    show own_K p e below m s₁ 47 #[lv p1, .second, lv p2, .second, lv p3, .second, iv p4, iv (p4 &&& (3 : Int32)), lv v11, .second, .unset, .unset, .unset, .unset] [] _
    refine st13 _ ?_
    show own_K p e below m T13 50 #[lv p1, .second, lv p2, .second, lv p3, .second, iv p4, iv (p4 &&& (3 : Int32)), lv v11, .second, .unset, .unset, .unset, .unset] [(.ref b13)] _
    refine XS.dup X13.here hx rfl (hb hby at_50) rfl rfl ?_
    show own_K p e below m T13 51 #[lv p1, .second, lv p2, .second, lv p3, .second, iv p4, iv (p4 &&& (3 : Int32)), lv v11, .second, .unset, .unset, .unset, .unset] [(.ref b13), (.ref b13)] _
    refine XS.lloadN X13.here hx rfl (hb hby at_51) rfl ?_
    show own_K p e below m T13 52 #[lv p1, .second, lv p2, .second, lv p3, .second, iv p4, iv (p4 &&& (3 : Int32)), lv v11, .second, .unset, .unset, .unset, .unset] [(.long p1), (.ref b13), (.ref b13)] _
    refine XS.lload X13.here hx rfl (hb hby at_52) rfl ?_
    show own_K p e below m T13 54 #[lv p1, .second, lv p2, .second, lv p3, .second, iv p4, iv (p4 &&& (3 : Int32)), lv v11, .second, .unset, .unset, .unset, .unset] [(.long v11), (.long p1), (.ref b13), (.ref b13)] _
    refine st16.trans ?_
    show own_K p e below m T16 57 #[lv p1, .second, lv p2, .second, lv p3, .second, iv p4, iv (p4 &&& (3 : Int32)), lv v11, .second, .unset, .unset, .unset, .unset] [(.ref b13)] _
    refine XS.astore X16.here hx rfl (hb hby at_57) rfl rfl (l' := #[lv p1, .second, lv p2, .second, lv p3, .second, iv p4, iv (p4 &&& (3 : Int32)), lv v11, .second, rv b13, .unset, .unset, .unset]) rfl ?_
    show own_K p e below m T16 59 #[lv p1, .second, lv p2, .second, lv p3, .second, iv p4, iv (p4 &&& (3 : Int32)), lv v11, .second, rv b13, .unset, .unset, .unset] [] _
    refine XS.aload X16.here hx rfl (hb hby at_59) rfl rfl ?_
    show own_K p e below m T16 61 #[lv p1, .second, lv p2, .second, lv p3, .second, iv p4, iv (p4 &&& (3 : Int32)), lv v11, .second, rv b13, .unset, .unset, .unset] [(.ref b13)] _
    refine st17.trans ?_
    exact k
  obtain ⟨xe, hxe⟩ : ∃ z : Int64, z = (if v11 = (9223372036854775807 : Int64) then v11 else (v11 + (1 : Int64))) := ⟨_, rfl⟩
  have pre20 : ∀ t, own_K p e below m T17 64 #[lv p1, .second, lv p2, .second, lv p3, .second, iv p4, iv (p4 &&& (3 : Int32)), lv v11, .second, rv b13, .unset, .unset, .unset] [(.long xe)] t → G t := fun t k => pre19 t (by rw [hxe] at k; exact k)
  obtain ⟨T21, h21, X21, e21, E21, A21, D21, -, st21⟩ := newO X17 hx hZ hown (hw _ (List.mem_of_getElem? (i := 1) rfl)) (hw _ (List.mem_of_getElem? (i := 2) rfl)) (hw _ (List.mem_of_getElem? (i := 3) rfl)) eh17 (g := (mkF m 66 #[lv p1, .second, lv p2, .second, lv p3, .second, iv p4, iv (p4 &&& (3 : Int32)), lv v11, .second, rv b13, lv xe, .second, .unset] [])) rfl (hb hby at_66) (by decide) (by decide)
  obtain ⟨b21, g21⟩ : ∃ z, z = T16.heap.size := ⟨_, rfl⟩
  rw [← g21] at A21 D21 st21
  have ne21_b13 : b13 ≠ b21 := Nat.ne_of_lt (Nat.lt_of_lt_of_le f18.lt (Nat.le_of_eq g21.symm))
  have ge_b21 : n0 ≤ b21 := Nat.le_trans sz16 (Nat.le_of_eq g21.symm)
  have sz_b21 : h0.size ≤ b21 := Nat.le_trans K16.1 (Nat.le_of_eq g21.symm)
  have K21 : Keep h0 h21 [] := K16.ext E21
  have sz21 : n0 ≤ h21.size := Nat.le_trans sz16 E21.1
  have f22 : Fld Z h21 b21 "evenkeel/model/CommittedOffset$Span" "first" "J" (.long (0 : Int64)) := D21 (Or.inr (hw _ (List.mem_of_getElem? (i := 16) rfl))) (ty := .long) (by decide)
  have f23 : Fld Z h21 b21 "evenkeel/model/CommittedOffset$Span" "last" "J" (.long (0 : Int64)) := D21 (Or.inr (hw _ (List.mem_of_getElem? (i := 18) rfl))) (ty := .long) (by decide)
  obtain ⟨_, _, ⟨T24, L24, k24, n24⟩, -, X24, ⟨Lc24, hQ24, l24, y24, z24⟩, st24⟩ := X21.specialBack hx (y := (⟨"evenkeel/model/CommittedOffset$Span", "<init>", "(JJ)V"⟩ : MethodName)) rfl hown (mvT hZ (hw _ (List.mem_of_getElem? (i := 4) rfl))) (mvT hZ (hw _ (List.mem_of_getElem? (i := 5) rfl))) (mvT hZ (hw _ (List.mem_of_getElem? (i := 6) rfl))) (by decide) (backOf (W := 1) (rm1 l Z a0 hw [] b21 p3 v11 (.long (0 : Int64)) (.long (0 : Int64)) h21 n0 sz21 A21 f22 f23 ge_b21) hZ (hw _ (List.mem_of_getElem? (i := 6) rfl)) (hw _ (List.mem_of_getElem? (i := 3) rfl)) (by decide) (by decide)) (g := (mkF m 74 #[lv p1, .second, lv p2, .second, lv p3, .second, iv p4, iv (p4 &&& (3 : Int32)), lv v11, .second, rv b13, lv xe, .second, .unset] [(.long v11), (.long p3), (.ref b21), (.ref b21)])) rfl (by rw [hml]; rfl) (Steps.refl _) (a := b21) (argsL := [(.long p3), (.long v11)]) (rest := [(.ref b21)]) (lenOf pd_1 rfl) rfl (by show 2 * 0 + _ ≤ _; exact Nat.le_of_eq rfl) (hb hby at_74) (fun _ _ => ⟨rfl, e21, (by decide : 2 + 0 ≤ _), (by decide : 4 + 0 ≤ _)⟩)
  dsimp only [Pt.U, Pt.locs, Pt.cells, Pt.slots] at X24 l24 y24 z24 st24 hQ24
  subst l24 y24 z24
  obtain ⟨rfl, Nq24, Kc24, Fl_24⟩ := hQ24
  have N24 := Fr.app N17 Nq24
  have K24 : Keep h0 T24.heap [] := K21.trans Kc24 (allS (Or.inr sz_b21) all0)
  have sz24 : n0 ≤ T24.heap.size := Nat.le_trans sz21 Kc24.1
  have f26 : Exa Z T24.heap b21 "evenkeel/model/CommittedOffset$Span" := (A21.keep Kc24)
  obtain ⟨cq25, kq25, q25a, q25b, q25c⟩ := isOf hZ rfl f26
  obtain ⟨_, _, ⟨T25, L25, k25, n25⟩, -, X25, ⟨Lc25, hQ25, l25, y25, z25⟩, st25⟩ := X24.virtualBack hx (y := (⟨"evenkeel/model/CommittedOffset$Span", "end", "()J"⟩ : MethodName)) (z := (⟨"evenkeel/model/CommittedOffset$Span", "end", "()J"⟩ : MethodName)) hown (mvT hZ (hw _ (List.mem_of_getElem? (i := 19) rfl))) (mvT hZ (hw _ (List.mem_of_getElem? (i := 20) rfl))) (notFace_of_selects (args := #[]) (mvT hZ (hw _ (List.mem_of_getElem? (i := 22) rfl)))) (mvT hZ (hw _ (List.mem_of_getElem? (i := 22) rfl))) (mvT hZ (hw _ (List.mem_of_getElem? (i := 21) rfl))) (by decide) (backOf (W := 0) (rm4 l Z a0 hw [] b21 v11 T24.heap n0 sz24 Fl_24) hZ (hw _ (List.mem_of_getElem? (i := 23) rfl)) (hw _ (List.mem_of_getElem? (i := 3) rfl)) (by decide) (by decide)) q25a q25c (g := (mkF m 81 #[lv p1, .second, lv p2, .second, lv p3, .second, iv p4, iv (p4 &&& (3 : Int32)), lv v11, .second, rv b13, lv xe, .second, rv b21] [(.ref b21)])) rfl (by rw [hml]; rfl) (Steps.refl _) (argsL := []) (rest := []) (lenOf pd_2 rfl) rfl (by show 2 * 0 + _ ≤ _; exact Nat.le_of_eq rfl) (hb hby at_81) (fun _ _ => ⟨rfl, rfl, (by decide : 2 + 0 ≤ _), (by decide : 4 + 0 ≤ _)⟩)
  dsimp only [Pt.U, Pt.locs, Pt.cells, Pt.slots] at X25 l25 y25 z25 st25 hQ25
  subst l25 y25 z25
  obtain ⟨rfl, Nq25, eh25⟩ := hQ25
  have N25 := Fr.app N24 Nq25
  have pre27 : ∀ t, own_K p e below m T25 84 #[lv p1, .second, lv p2, .second, lv p3, .second, iv p4, iv (p4 &&& (3 : Int32)), lv v11, .second, rv b13, lv xe, .second, rv b21] [(.long (if v11 = (9223372036854775807 : Int64) then v11 else (v11 + (1 : Int64))))] t → G t := by
    intro t k
    refine pre20 t ?_
    show own_K p e below m T17 64 #[lv p1, .second, lv p2, .second, lv p3, .second, iv p4, iv (p4 &&& (3 : Int32)), lv v11, .second, rv b13, .unset, .unset, .unset] [(.long xe)] _
    refine XS.lstore X17.here hx rfl (hb hby at_64) rfl (l' := #[lv p1, .second, lv p2, .second, lv p3, .second, iv p4, iv (p4 &&& (3 : Int32)), lv v11, .second, rv b13, lv xe, .second, .unset]) rfl ?_
    show own_K p e below m T17 66 #[lv p1, .second, lv p2, .second, lv p3, .second, iv p4, iv (p4 &&& (3 : Int32)), lv v11, .second, rv b13, lv xe, .second, .unset] [] _
    refine st21 _ ?_
    show own_K p e below m T21 69 #[lv p1, .second, lv p2, .second, lv p3, .second, iv p4, iv (p4 &&& (3 : Int32)), lv v11, .second, rv b13, lv xe, .second, .unset] [(.ref b21)] _
    refine XS.dup X21.here hx rfl (hb hby at_69) rfl rfl ?_
    show own_K p e below m T21 70 #[lv p1, .second, lv p2, .second, lv p3, .second, iv p4, iv (p4 &&& (3 : Int32)), lv v11, .second, rv b13, lv xe, .second, .unset] [(.ref b21), (.ref b21)] _
    refine XS.lload X21.here hx rfl (hb hby at_70) rfl ?_
    show own_K p e below m T21 72 #[lv p1, .second, lv p2, .second, lv p3, .second, iv p4, iv (p4 &&& (3 : Int32)), lv v11, .second, rv b13, lv xe, .second, .unset] [(.long p3), (.ref b21), (.ref b21)] _
    refine XS.lload X21.here hx rfl (hb hby at_72) rfl ?_
    show own_K p e below m T21 74 #[lv p1, .second, lv p2, .second, lv p3, .second, iv p4, iv (p4 &&& (3 : Int32)), lv v11, .second, rv b13, lv xe, .second, .unset] [(.long v11), (.long p3), (.ref b21), (.ref b21)] _
    refine st24.trans ?_
    show own_K p e below m T24 77 #[lv p1, .second, lv p2, .second, lv p3, .second, iv p4, iv (p4 &&& (3 : Int32)), lv v11, .second, rv b13, lv xe, .second, .unset] [(.ref b21)] _
    refine XS.astore X24.here hx rfl (hb hby at_77) rfl rfl (l' := #[lv p1, .second, lv p2, .second, lv p3, .second, iv p4, iv (p4 &&& (3 : Int32)), lv v11, .second, rv b13, lv xe, .second, rv b21]) rfl ?_
    show own_K p e below m T24 79 #[lv p1, .second, lv p2, .second, lv p3, .second, iv p4, iv (p4 &&& (3 : Int32)), lv v11, .second, rv b13, lv xe, .second, rv b21] [] _
    refine XS.aload X24.here hx rfl (hb hby at_79) rfl rfl ?_
    show own_K p e below m T24 81 #[lv p1, .second, lv p2, .second, lv p3, .second, iv p4, iv (p4 &&& (3 : Int32)), lv v11, .second, rv b13, lv xe, .second, rv b21] [(.ref b21)] _
    refine st25.trans ?_
    exact k
  obtain ⟨xt, hxt⟩ : ∃ z : Int64, z = (if v11 = (9223372036854775807 : Int64) then v11 else (v11 + (1 : Int64))) := ⟨_, rfl⟩
  have pre28 : ∀ t, own_K p e below m T25 84 #[lv p1, .second, lv p2, .second, lv p3, .second, iv p4, iv (p4 &&& (3 : Int32)), lv v11, .second, rv b13, lv xe, .second, rv b21] [(.long xt)] t → G t := fun t k => pre27 t (by rw [hxt] at k; exact k)
  have pre29 : ∀ t, own_K p e below m T25 98 #[lv p1, .second, lv p2, .second, lv p3, .second, iv p4, iv (p4 &&& (3 : Int32)), lv v11, .second, rv b13, lv xe, .second, rv b21] [(.int (lcmpW v11 (9223372036854775807 : Int64)))] t → G t := by
    intro t k
    refine pre28 t ?_
    show own_K p e below m T25 84 #[lv p1, .second, lv p2, .second, lv p3, .second, iv p4, iv (p4 &&& (3 : Int32)), lv v11, .second, rv b13, lv xe, .second, rv b21] [(.long xt)] _
    refine XS.lload X25.here hx rfl (hb hby at_84) rfl ?_
    show own_K p e below m T25 86 #[lv p1, .second, lv p2, .second, lv p3, .second, iv p4, iv (p4 &&& (3 : Int32)), lv v11, .second, rv b13, lv xe, .second, rv b21] [(.long xe), (.long xt)] _
    refine XS.lcmp X25.here hx rfl (hb hby at_86) rfl ?_
    show own_K p e below m T25 87 #[lv p1, .second, lv p2, .second, lv p3, .second, iv p4, iv (p4 &&& (3 : Int32)), lv v11, .second, rv b13, lv xe, .second, rv b21] [(.int (lcmpW xt xe))] _
    refine XS.ifYes X25.here hx rfl (pc0 := 87) (pc' := 92) rfl (hb hby at_87) rfl ((if0 _ _).trans (teq ((lw_eq _ _).mpr (hxt.trans hxe.symm))).1) (by decide) (by decide) ?_
    show own_K p e below m T25 92 #[lv p1, .second, lv p2, .second, lv p3, .second, iv p4, iv (p4 &&& (3 : Int32)), lv v11, .second, rv b13, lv xe, .second, rv b21] [] _
    refine XS.lload X25.here hx rfl (hb hby at_92) rfl ?_
    show own_K p e below m T25 94 #[lv p1, .second, lv p2, .second, lv p3, .second, iv p4, iv (p4 &&& (3 : Int32)), lv v11, .second, rv b13, lv xe, .second, rv b21] [(.long v11)] _
    refine X25.ldc2Long hx hown (mvT hZ (hw _ (List.mem_of_getElem? (i := 25) rfl))) (g := (mkF m 94 #[lv p1, .second, lv p2, .second, lv p3, .second, iv p4, iv (p4 &&& (3 : Int32)), lv v11, .second, rv b13, lv xe, .second, rv b21] [(.long v11)])) rfl (hb hby at_94) _ ?_
    show own_K p e below m T25 97 #[lv p1, .second, lv p2, .second, lv p3, .second, iv p4, iv (p4 &&& (3 : Int32)), lv v11, .second, rv b13, lv xe, .second, rv b21] [(.long (9223372036854775807 : Int64)), (.long v11)] _
    refine XS.lcmp X25.here hx rfl (hb hby at_97) rfl ?_
    exact k
  by_cases hc98_30 : v11 = (9223372036854775807 : Int64)
  · have pre31 : ∀ t, own_K p e below m T25 115 #[lv p1, .second, lv p2, .second, lv p3, .second, iv p4, iv (p4 &&& (3 : Int32)), lv v11, .second, rv b13, lv xe, .second, rv b21] [(.int (1 : Int32))] t → G t := by
      intro t k
      refine pre29 t ?_
      show own_K p e below m T25 98 #[lv p1, .second, lv p2, .second, lv p3, .second, iv p4, iv (p4 &&& (3 : Int32)), lv v11, .second, rv b13, lv xe, .second, rv b21] [(.int (lcmpW v11 (9223372036854775807 : Int64)))] _
      refine XS.ifNo X25.here hx rfl (hb hby at_98) rfl ((if0 _ _).trans (teq ((lw_eq _ _).mpr hc98_30)).2) ?_
      show own_K p e below m T25 101 #[lv p1, .second, lv p2, .second, lv p3, .second, iv p4, iv (p4 &&& (3 : Int32)), lv v11, .second, rv b13, lv xe, .second, rv b21] [] _
      refine XS.lload X25.here hx rfl (hb hby at_101) rfl ?_
      show own_K p e below m T25 103 #[lv p1, .second, lv p2, .second, lv p3, .second, iv p4, iv (p4 &&& (3 : Int32)), lv v11, .second, rv b13, lv xe, .second, rv b21] [(.long xe)] _
      refine X25.ldc2Long hx hown (mvT hZ (hw _ (List.mem_of_getElem? (i := 25) rfl))) (g := (mkF m 103 #[lv p1, .second, lv p2, .second, lv p3, .second, iv p4, iv (p4 &&& (3 : Int32)), lv v11, .second, rv b13, lv xe, .second, rv b21] [(.long xe)])) rfl (hb hby at_103) _ ?_
      show own_K p e below m T25 106 #[lv p1, .second, lv p2, .second, lv p3, .second, iv p4, iv (p4 &&& (3 : Int32)), lv v11, .second, rv b13, lv xe, .second, rv b21] [(.long (9223372036854775807 : Int64)), (.long xe)] _
      refine XS.lcmp X25.here hx rfl (hb hby at_106) rfl ?_
      show own_K p e below m T25 107 #[lv p1, .second, lv p2, .second, lv p3, .second, iv p4, iv (p4 &&& (3 : Int32)), lv v11, .second, rv b13, lv xe, .second, rv b21] [(.int (lcmpW xe (9223372036854775807 : Int64)))] _
      refine XS.ifNo X25.here hx rfl (hb hby at_107) rfl ((if0 _ _).trans (teq ((lw_eq _ _).mpr (by rw [hxe, if_pos hc98_30]; exact hc98_30))).2) ?_
      show own_K p e below m T25 110 #[lv p1, .second, lv p2, .second, lv p3, .second, iv p4, iv (p4 &&& (3 : Int32)), lv v11, .second, rv b13, lv xe, .second, rv b21] [] _
      refine XS.iconst X25.here hx rfl (hb hby at_110) ?_
      show own_K p e below m T25 111 #[lv p1, .second, lv p2, .second, lv p3, .second, iv p4, iv (p4 &&& (3 : Int32)), lv v11, .second, rv b13, lv xe, .second, rv b21] [(.int (1 : Int32))] _
      refine XS.goto X25.here hx rfl (pc0 := 111) (pc' := 115) rfl (hb hby at_111) (by decide) (by decide) ?_
      exact k
    obtain ⟨fs, hr, hrun, hended, hW, hsame⟩ := X25.leave (v := some (.int (1 : Int32))) (fun h => by rw [Bd.returns] at h; cases h)
    refine ⟨_, _, hG _ (pre31 _ ?_), hrun, hended, _, _, rfl, ?_, ⟨_, rfl⟩, hW, hsame.mono (by decide) (by decide)⟩
    · show own_K p e below m T25 115 #[lv p1, .second, lv p2, .second, lv p3, .second, iv p4, iv (p4 &&& (3 : Int32)), lv v11, .second, rv b13, lv xe, .second, rv b21] [(.int (1 : Int32))] _
      exact retN X25 hx (t := .boolean) Bd.returns (by simp) (hb hby at_115) hr
    · show Q0 Z p1 p2 p3 p4 h0 n0 _ T25.heap _
      rw [eh25]
      exact ⟨rfl, N25, K24⟩
  · have pre32 : ∀ t, own_K p e below m T25 139 #[lv p1, .second, lv p2, .second, lv p3, .second, iv p4, iv (p4 &&& (3 : Int32)), lv v11, .second, rv b13, lv xe, .second, rv b21] [(.int (1 : Int32))] t → G t := by
      intro t k
      refine pre29 t ?_
      show own_K p e below m T25 98 #[lv p1, .second, lv p2, .second, lv p3, .second, iv p4, iv (p4 &&& (3 : Int32)), lv v11, .second, rv b13, lv xe, .second, rv b21] [(.int (lcmpW v11 (9223372036854775807 : Int64)))] _
      refine XS.ifYes X25.here hx rfl (pc0 := 98) (pc' := 116) rfl (hb hby at_98) rfl ((if0 _ _).trans (feq (mt (lw_eq _ _).mp hc98_30)).2) (by decide) (by decide) ?_
      show own_K p e below m T25 116 #[lv p1, .second, lv p2, .second, lv p3, .second, iv p4, iv (p4 &&& (3 : Int32)), lv v11, .second, rv b13, lv xe, .second, rv b21] [] _
      refine XS.lload X25.here hx rfl (hb hby at_116) rfl ?_
      show own_K p e below m T25 118 #[lv p1, .second, lv p2, .second, lv p3, .second, iv p4, iv (p4 &&& (3 : Int32)), lv v11, .second, rv b13, lv xe, .second, rv b21] [(.long xe)] _
      refine XS.lload X25.here hx rfl (hb hby at_118) rfl ?_
      show own_K p e below m T25 120 #[lv p1, .second, lv p2, .second, lv p3, .second, iv p4, iv (p4 &&& (3 : Int32)), lv v11, .second, rv b13, lv xe, .second, rv b21] [(.long v11), (.long xe)] _
      refine XS.lcmp X25.here hx rfl (hb hby at_120) rfl ?_
      show own_K p e below m T25 121 #[lv p1, .second, lv p2, .second, lv p3, .second, iv p4, iv (p4 &&& (3 : Int32)), lv v11, .second, rv b13, lv xe, .second, rv b21] [(.int (lcmpW xe v11))] _
      refine XS.ifNo X25.here hx rfl (hb hby at_121) rfl ((if0 _ _).trans (tlt ((lw_gt _ _).mpr (by rw [hxe, if_neg hc98_30]; exact (own_succ _ hc98_30).1))).2.2.2) ?_
      show own_K p e below m T25 124 #[lv p1, .second, lv p2, .second, lv p3, .second, iv p4, iv (p4 &&& (3 : Int32)), lv v11, .second, rv b13, lv xe, .second, rv b21] [] _
      refine XS.lload X25.here hx rfl (hb hby at_124) rfl ?_
      show own_K p e below m T25 126 #[lv p1, .second, lv p2, .second, lv p3, .second, iv p4, iv (p4 &&& (3 : Int32)), lv v11, .second, rv b13, lv xe, .second, rv b21] [(.long xe)] _
      refine XS.lload X25.here hx rfl (hb hby at_126) rfl ?_
      show own_K p e below m T25 128 #[lv p1, .second, lv p2, .second, lv p3, .second, iv p4, iv (p4 &&& (3 : Int32)), lv v11, .second, rv b13, lv xe, .second, rv b21] [(.long v11), (.long xe)] _
      refine XS.lsub X25.here hx rfl (hb hby at_128) rfl ?_
      show own_K p e below m T25 129 #[lv p1, .second, lv p2, .second, lv p3, .second, iv p4, iv (p4 &&& (3 : Int32)), lv v11, .second, rv b13, lv xe, .second, rv b21] [(.long (xe - v11))] _
      refine XS.lconst X25.here hx rfl (hb hby at_129) ?_
      show own_K p e below m T25 130 #[lv p1, .second, lv p2, .second, lv p3, .second, iv p4, iv (p4 &&& (3 : Int32)), lv v11, .second, rv b13, lv xe, .second, rv b21] [(.long (1 : Int64)), (.long (xe - v11))] _
      refine XS.lcmp X25.here hx rfl (hb hby at_130) rfl ?_
      show own_K p e below m T25 131 #[lv p1, .second, lv p2, .second, lv p3, .second, iv p4, iv (p4 &&& (3 : Int32)), lv v11, .second, rv b13, lv xe, .second, rv b21] [(.int (lcmpW (xe - v11) (1 : Int64)))] _
      refine XS.ifNo X25.here hx rfl (hb hby at_131) rfl ((if0 _ _).trans (teq ((lw_eq _ _).mpr (by rw [hxe, if_neg hc98_30]; exact (own_succ _ hc98_30).2))).2) ?_
      show own_K p e below m T25 134 #[lv p1, .second, lv p2, .second, lv p3, .second, iv p4, iv (p4 &&& (3 : Int32)), lv v11, .second, rv b13, lv xe, .second, rv b21] [] _
      refine XS.iconst X25.here hx rfl (hb hby at_134) ?_
      show own_K p e below m T25 135 #[lv p1, .second, lv p2, .second, lv p3, .second, iv p4, iv (p4 &&& (3 : Int32)), lv v11, .second, rv b13, lv xe, .second, rv b21] [(.int (1 : Int32))] _
      refine XS.goto X25.here hx rfl (pc0 := 135) (pc' := 139) rfl (hb hby at_135) (by decide) (by decide) ?_
      exact k
    obtain ⟨fs, hr, hrun, hended, hW, hsame⟩ := X25.leave (v := some (.int (1 : Int32))) (fun h => by rw [Bd.returns] at h; cases h)
    refine ⟨_, _, hG _ (pre32 _ ?_), hrun, hended, _, _, rfl, ?_, ⟨_, rfl⟩, hW, hsame.mono (by decide) (by decide)⟩
    · show own_K p e below m T25 139 #[lv p1, .second, lv p2, .second, lv p3, .second, iv p4, iv (p4 &&& (3 : Int32)), lv v11, .second, rv b13, lv xe, .second, rv b21] [(.int (1 : Int32))] _
      exact retN X25 hx (t := .boolean) Bd.returns (by simp) (hb hby at_139) hr
    · show Q0 Z p1 p2 p3 p4 h0 n0 _ T25.heap _
      rw [eh25]
      exact ⟨rfl, N25, K24⟩
set_option maxRecDepth 65536 in
set_option maxHeartbeats 40000000 in
theorem comes_1 {Post : Tables → Env → Array Value → State → Outcome → State → Prop} (hpost : ∀ tb e args s v u, (limb_1_1.after args s (.returned v) u = true ∧ limb_1_2.after args s (.returned v) u = true ∧ True) → FrameEnd s (.returned v) u (Jvm.fieldLocs frame_1_writes args s ++ Jvm.arrayLocs frame_1_arrays args s ++ Jvm.staticLocs frame_1_statics s) 16 128 → Post tb e args s (.returned v) u) :
    ArmFor flags0 classFile x code maxLocals ret World_1 tables_1 room_1 Calls_1 rest_1 Pre_1 Post := by
  intro l hfl _ _ p e ha hc hk s m args below hf hA hF happ hP
  obtain ⟨hcalls, hrest, hpre⟩ := hP
  obtain ⟨-, -, -, hnamed, -, -, -, hat⟩ := (Spec.applies_iff hf).mp happ
  obtain ⟨hg, hn⟩ := and_e (Cond.before_iff.mp (show (Jvm.Cond.and given_1 narrow_1).before args s = true from hpre))
  obtain ⟨ga1, gb1⟩ := and_e hg
  obtain ⟨ga2, gb2⟩ := and_e gb1
  obtain ⟨ga3, gb3⟩ := and_e gb2
  obtain ⟨ga4, gb4⟩ := and_e gb3
  obtain ⟨w0, w1, w2, w3, rfl⟩ : ∃ w0 w1 w2 w3 : Value, args = #[w0, w1, w2, w3] := by
    have hs : args.size = 4 := by simpa [Cond.value, given_1] using ga1
    obtain ⟨L⟩ := args
    match L, hs with
    | [w0, w1, w2, w3], _ => exact ⟨w0, w1, w2, w3, rfl⟩
  have hw := fun d (hd : d ∈ tables_1) => atoms_spec (ws := Jvm.Cond.code x code maxLocals ret :: tables_1) hat d (List.mem_cons_of_mem _ hd)
  have hfit : Fit s := fun {y c} hc i hi => by
    obtain ⟨ha, rfl⟩ := Array.getElem?_eq_some_iff.mp hc
    have q := List.all_eq_true.mp ((Array.all_eq_true_iff_forall_mem.mp hF) _ (Array.getElem_mem ha)) i (List.mem_range.mpr hi)
    simpa [Array.getElem?_eq_getElem hi] using q
  obtain ⟨i0, ei0⟩ := isL_v ga2
  obtain rfl : w0 = (.long i0) := Option.some.inj ei0
  obtain ⟨i1, ei1⟩ := isL_v ga3
  obtain rfl : w1 = (.long i1) := Option.some.inj ei1
  obtain ⟨i2, ei2⟩ := isL_v ga4
  obtain rfl : w2 = (.long i2) := Option.some.inj ei2
  obtain ⟨i3, ei3⟩ := is_v gb4
  obtain rfl : w3 = (.int i3) := Option.some.inj ei3
  obtain ⟨n, o, h1, h2, h3, _, L, rfl, ⟨rfl, N, _⟩, hq⟩ := rm0 l s _ hw tables_1 i0 i1 i2 i3 s.heap s.heap.size (Nat.le_refl _) p e ha hc hk s m _ below hf ((Spec.applies_iff_loose hf).mp happ).1 ⟨rfl, State.Warmed39.refl s, rfl⟩ trivial
  refine ⟨n, _, h1, h2, h3, hpost _ _ _ _ _ _ ⟨Cond.after_iff.mpr rfl, Cond.after_iff.mpr (eq_i res_at (Term.int_eval (1)) rfl), trivial⟩ ⟨hq.1, hq.2.1, (hq.2.2.sift fun y hy => Or.inr (N y hy)).mono (by decide) (by decide)⟩⟩
theorem main_1_1 : Claimed_1_1 := comes_1 fun _ _ _ _ _ _ h hF => ⟨h.1, hF⟩
theorem main_1_2 : Claimed_1_2 := comes_1 fun _ _ _ _ _ _ h hF => ⟨h.2.1, hF⟩
end Jvm.Pilot.@@N@@
namespace Jvm.Pilot.@@N@@
open Jvm Jvm.ClassFile Sem Op Lib Jvm.Free Jvm.Stand Jvm.Pilot.@@N@@.Jvm.D
/-! MADE BY PROGRAM (witnessworld.py) out of the Statement's table words and the real class files: 10 classes; the members and pool entries that the words name. The judged class is class 1, her method 1. -/
namespace start1
open Jvm.ClassFile
def u (s : String) : CpInfo := .utf8 (stringToUtf16 s)
/-- a pool by its gaps: so many unusable entries, then the entry; so many at the end -/
def gap : Nat → List CpInfo → List CpInfo
  | 0, r => r
  | n + 1, r => .unusable :: gap n r
def poolList (es : List (Nat × CpInfo)) (last : Nat) : List CpInfo := es.foldr (fun e r => gap e.1 (e.2 :: r)) (gap last [])
def pool (es : List (Nat × CpInfo)) (last : Nat) : Array CpInfo := ⟨poolList es last⟩
def fileOf (pool : Array CpInfo) (this : Nat) (attrs : Array Attribute := #[]) (ms : Array MethodInfo := #[]) (fl : Nat := 33) (sup : Nat := 0) (ifs : Array Nat := #[]) (fds : Array FieldInfo := #[]) : ClassFile where
  minorVersion := 0
  majorVersion := 65
  constantPool := pool
  accessFlags := fl
  thisClass := this
  superClass := sup
  interfaces := ifs
  fields := fds
  methods := ms
  attributes := attrs
def plain (name : String) (sup : Option ClassId) : Class where
  name := name
  kind := .ordinary
  loader := none
  accessFlags := 33
  super := sup
  interfaces := #[]
  cf := none
  fields := #[]
  methods := #[]
  instanceTypes := #[]
  staticTypes := #[]
  resolved := #[]
  callSites := []
  init := .initialized
  statics := none
  mirror := none

def pool0 : Array CpInfo := pool [(5, u "<init>"), (0, u "()V"), (1, .class_ 10), (1, u "java/lang/Object")] 113

def k0c0 : Code := { maxStack := 0, maxLocals := 1, code := object_method_1_code, exceptionTable := #[], attributes := #[] }
def k0m0 : Method := { name := "<init>", desc := "()V", sig := { parameters := [], returnType := none }, accessFlags := 1, code := some k0c0 }
/-- java/lang/Object -/
def k0 : Class := { plain "java/lang/Object" none with
  accessFlags := 33
  interfaces := #[]
  cf := some (fileOf pool0 8 #[] #[{ accessFlags := 1, nameIndex := 5, descriptorIndex := 6, attributes := #[] }] 33 0 #[] #[])
  fields := #[]
  methods := #[k0m0]
  instanceTypes := #[]
  staticTypes := #[]
  resolved := Array.replicate 124 none
  statics := none }

def pool1 : Array CpInfo := pool [(2, .class_ 4), (1, u "java/lang/Object"), (0, u "<init>"), (0, u "()V"), (2, .long 9223372036854775807), (1, .long 9223372036854775806), (1, .long 9223372036854775808), (1, .class_ 16), (0, u "evenkeel/model/CommittedOffset$Span"), (0, .methodref 15 18), (0, .nameAndType 5 19), (0, u "(JJ)V"), (0, .methodref 15 21), (0, .nameAndType 22 23), (0, u "end"), (0, u "()J"), (0, .class_ 25), (0, u "evenkeel/model/SpanEndPinLaw"), (2, u "law"), (0, u "(JJJI)Z")] 7

def k1m0 : Method := { name := "<init>", desc := "()V", sig := { parameters := [], returnType := none }, accessFlags := 1, code := none }
def k1c1 : Code := { maxStack := 6, maxLocals := 14, code := code, exceptionTable := #[], attributes := #[] }
def k1m1 : Method := { name := "law", desc := "(JJJI)Z", sig := { parameters := [.long, .long, .long, .int], returnType := some .boolean }, accessFlags := 9, code := some k1c1 }
/-- evenkeel/model/SpanEndPinLaw -/
def k1 : Class := { plain "evenkeel/model/SpanEndPinLaw" (some 0) with
  accessFlags := 49
  interfaces := #[]
  cf := some (fileOf pool1 24 #[] #[{ accessFlags := 1, nameIndex := 5, descriptorIndex := 6, attributes := #[] }, { accessFlags := 9, nameIndex := 28, descriptorIndex := 29, attributes := #[] }] 49 2 #[] #[])
  fields := #[]
  methods := #[k1m0, k1m1]
  instanceTypes := #[]
  staticTypes := #[]
  resolved := Array.replicate 37 none
  statics := none }

def pool2 : Array CpInfo := pool [(1, .methodref 2 3), (0, .class_ 4), (0, .nameAndType 5 6), (0, u "java/lang/Object"), (0, u "<init>"), (0, u "()V"), (0, .class_ 8), (0, u "java/lang/Record")] 13

def k2c0 : Code := { maxStack := 1, maxLocals := 1, code := jdk_30_method_1_code, exceptionTable := #[], attributes := #[] }
def k2m0 : Method := { name := "<init>", desc := "()V", sig := { parameters := [], returnType := none }, accessFlags := 4, code := some k2c0 }
/-- java/lang/Record -/
def k2 : Class := { plain "java/lang/Record" (some 0) with
  accessFlags := 1057
  interfaces := #[]
  cf := some (fileOf pool2 7 #[] #[{ accessFlags := 4, nameIndex := 5, descriptorIndex := 6, attributes := #[] }] 1057 2 #[] #[])
  fields := #[]
  methods := #[k2m0]
  instanceTypes := #[]
  staticTypes := #[]
  resolved := Array.replicate 22 none
  statics := none }

def pool3 : Array CpInfo := pool [(1, .methodref 2 3), (0, .class_ 4), (0, .nameAndType 5 6), (0, u "java/lang/Record"), (0, u "<init>"), (0, u "()V"), (0, .fieldref 8 9), (0, .class_ 10), (0, .nameAndType 11 12), (0, u "evenkeel/model/CommittedOffset$Span"), (0, u "first"), (0, u "J"), (0, .fieldref 8 14), (0, .nameAndType 15 12), (0, u "last"), (2, .long 9223372036854775807), (13, u "(JJ)V"), (3, u "end"), (0, u "()J"), (8, .class_ 47), (0, u "evenkeel/model/CommittedOffset")] 28

def k3c0 : Code := { maxStack := 3, maxLocals := 5, code := prog_146_method_1_code, exceptionTable := #[], attributes := #[] }
def k3m0 : Method := { name := "<init>", desc := "(JJ)V", sig := { parameters := [.long, .long], returnType := none }, accessFlags := 1, code := some k3c0 }
def k3c1 : Code := { maxStack := 4, maxLocals := 1, code := prog_146_method_2_code, exceptionTable := #[], attributes := #[] }
def k3m1 : Method := { name := "end", desc := "()J", sig := { parameters := [], returnType := some .long }, accessFlags := 1, code := some k3c1 }
/-- evenkeel/model/CommittedOffset$Span -/
def k3 : Class := { plain "evenkeel/model/CommittedOffset$Span" (some 2) with
  accessFlags := 49
  interfaces := #[]
  cf := some (fileOf pool3 8 #[.nestHost 46] #[{ accessFlags := 1, nameIndex := 5, descriptorIndex := 32, attributes := #[] }, { accessFlags := 1, nameIndex := 36, descriptorIndex := 37, attributes := #[] }] 49 2 #[] #[{ accessFlags := 18, nameIndex := 11, descriptorIndex := 12, attributes := #[] }, { accessFlags := 18, nameIndex := 15, descriptorIndex := 12, attributes := #[] }])
  fields := #[{ name := "first", type := .long, accessFlags := 18, slot := 0, constantValue := 0 }, { name := "last", type := .long, accessFlags := 18, slot := 1, constantValue := 0 }]
  methods := #[k3m0, k3m1]
  instanceTypes := #[.long, .long]
  staticTypes := #[]
  resolved := Array.replicate 76 none
  statics := none }

def pool4 : Array CpInfo := pool [(1, u "java/lang/Cloneable"), (0, .class_ 1), (0, u "java/lang/Object"), (0, .class_ 3)] 3

/-- java/lang/Cloneable -/
def k4 : Class := { plain "java/lang/Cloneable" (some 0) with
  accessFlags := 1537
  interfaces := #[]
  cf := some (fileOf pool4 2 #[] #[] 1537 4 #[] #[])
  fields := #[]
  methods := #[]
  instanceTypes := #[]
  staticTypes := #[]
  resolved := Array.replicate 8 none
  statics := none }

def pool5 : Array CpInfo := pool [(1, u "java/io/Serializable"), (0, .class_ 1), (0, u "java/lang/Object"), (0, .class_ 3)] 3

/-- java/io/Serializable -/
def k5 : Class := { plain "java/io/Serializable" (some 0) with
  accessFlags := 1537
  interfaces := #[]
  cf := some (fileOf pool5 2 #[] #[] 1537 4 #[] #[])
  fields := #[]
  methods := #[]
  instanceTypes := #[]
  staticTypes := #[]
  resolved := Array.replicate 8 none
  statics := none }

/-- the primitive byte -/
def k6 : Class := { plain "byte" none with kind := .primitive 'B', accessFlags := 0x411 }
/-- [B -/
def k7 : Class := { plain "[B" (some 0) with kind := .array 6 .byte, interfaces := #[4, 5], accessFlags := 1041 }

/-- the primitive int -/
def k8 : Class := { plain "int" none with kind := .primitive 'I', accessFlags := 0x411 }
/-- [I -/
def k9 : Class := { plain "[I" (some 0) with kind := .array 8 .int, interfaces := #[4, 5], accessFlags := 1041 }

def heap : Heap := #[]
def classes : Array Class := #[k0, k1, k2, k3, k4, k5, k6, k7, k8, k9]
def interned : List (Array UInt16 × Addr) := []
def slotsUsed : Nat := 0
def theMethod : MethodId := ⟨1, 1⟩
def args0 : Array Value := #[.long 3, .long 9, .long 4, .int 3]
def aboutOver (below : List Frame) : State where
  vm := { classes := classes, interned := interned.toArray }
  heap := heap
  slotsUsed := slotsUsed
  threads := #[{ frames := .invoking theMethod args0 :: below }]
def below0 : List Frame := [.native { method := ⟨0, 0⟩, args := #[] }]
def about1 : State := aboutOver below0
def p0 : Program := .bare "" "" ""
def e0 : Env := launch0.env 0 0 0
theorem w_frames : about1.frames = Frame.invoking theMethod args0 :: below0 := rfl
set_option maxRecDepth 65536 in
theorem w_args : argsFit about1.vm theMethod args0 = true := by decide +kernel
set_option maxRecDepth 65536 in
theorem w_heap : heapFits about1 = true := by decide +kernel
set_option maxRecDepth 65536 in
theorem w_runnable : about1.curStatus? = some .runnable := by decide +kernel
set_option maxRecDepth 65536 in
theorem w_alone : about1.alone = true := by decide +kernel
set_option maxRecDepth 65536 in
theorem w_named : about1.methodNamed? x = some theMethod := by decide +kernel
set_option maxRecDepth 65536 in
theorem w_hears : about1.hears theMethod below0 = true := by decide +kernel
set_option maxRecDepth 65536 in
theorem w_ripe : about1.ripe theMethod args0 below0 = true := by decide +kernel
theorem w_running : about1.status = .running := rfl
set_option maxRecDepth 65536 in
theorem w_room : about1.hasRoom e0.platform room_1 = true :=
  launch0.hasRoom_least _ room_1 (by decide +kernel) (by decide +kernel) (by decide +kernel) (by decide +kernel) (by decide +kernel) (by decide +kernel)
theorem allAtoms_all (ts : List Jvm.Cond) (a : Array Jvm.Value) (st : Jvm.State) : (allAtoms ts).before a st = ts.all (fun c => c.before a st) := by
  induction ts with
  | nil => rfl
  | cons c t ih =>
    show (Jvm.Cond.and c (allAtoms t)).before a st = _
    rw [Jvm.Cond.before_and, ih, List.all_cons]
def words1 : List Jvm.Cond := Jvm.Cond.code x code maxLocals ret :: tables_1
/-- a 'code' word, met by the world's own term for the bytes: nothing is compared byte by byte -/
theorem code_word {y : MethodName} {bytes : ByteArray} {mx : Nat} {rt : Option FieldType} {a : Array Value} {s : State} {m : MethodId} {meth : Method} {c : Code} (h1 : s.methodNamed? y = some m) (h2 : s.vm.method? m = some meth) (h3 : meth.code = some c) (h4 : c.code = bytes)
    (h5 : (c.maxLocals == mx && c.exceptionTable.isEmpty && decide (c.maxStack ≤ mostOperands) && decide (meth.sig.returnType = rt) && !meth.locks && decide (parseMethodDescriptor y.desc = some meth.sig)) = true) : (Jvm.Cond.code y bytes mx rt).before a s = true := by
  simp only [Bool.and_eq_true, beq_iff_eq, Bool.not_eq_true', decide_eq_true_eq] at h5
  obtain ⟨⟨⟨⟨⟨g1, g2⟩, g3⟩, g4⟩, g5⟩, g6⟩ := h5
  simp [Cond.before, Cond.holds, Cond.value, h1, h2, h3, h4, g1, g2, g3, g4, g5, g6]
def isCode : Jvm.Cond → Bool
  | .code _ _ _ _ => true
  | _ => false
theorem all_split {L : List Jvm.Cond} {P : Jvm.Cond → Bool} (h1 : L.all (fun c => isCode c || P c) = true) (h2 : ∀ c ∈ L.filter isCode, P c = true) : L.all P = true := by
  refine List.all_eq_true.mpr fun c hc => ?_
  have h := List.all_eq_true.mp h1 c hc
  rcases Bool.eq_false_or_eq_true (isCode c) with hi | hi
  · exact h2 c (List.mem_filter.mpr ⟨hc, hi⟩)
  · simpa [hi] using h
set_option maxRecDepth 65536 in
theorem w_c0 : (Jvm.Cond.code x code maxLocals ret).before args0 about1 = true := code_word (m := ⟨1, 1⟩) (meth := k1m1) (c := k1c1) (by decide +kernel) rfl rfl rfl (by decide +kernel)
set_option maxRecDepth 65536 in
theorem w_c1 : (Jvm.Cond.code ({ cls := "evenkeel/model/CommittedOffset$Span", name := "<init>", desc := "(JJ)V" } : Jvm.MethodName) prog_146_method_1_code (5 : Nat) (Option.none : Option Jvm.ClassFile.FieldType)).before args0 about1 = true := code_word (m := ⟨3, 0⟩) (meth := k3m0) (c := k3c0) (by decide +kernel) rfl rfl rfl (by decide +kernel)
set_option maxRecDepth 65536 in
theorem w_c2 : (Jvm.Cond.code ({ cls := "java/lang/Record", name := "<init>", desc := "()V" } : Jvm.MethodName) jdk_30_method_1_code (1 : Nat) (Option.none : Option Jvm.ClassFile.FieldType)).before args0 about1 = true := code_word (m := ⟨2, 0⟩) (meth := k2m0) (c := k2c0) (by decide +kernel) rfl rfl rfl (by decide +kernel)
set_option maxRecDepth 65536 in
theorem w_c3 : (Jvm.Cond.code ({ cls := "java/lang/Object", name := "<init>", desc := "()V" } : Jvm.MethodName) object_method_1_code (1 : Nat) (Option.none : Option Jvm.ClassFile.FieldType)).before args0 about1 = true := code_word (m := ⟨0, 0⟩) (meth := k0m0) (c := k0c0) (by decide +kernel) rfl rfl rfl (by decide +kernel)
set_option maxRecDepth 65536 in
theorem w_c4 : (Jvm.Cond.code ({ cls := "evenkeel/model/CommittedOffset$Span", name := "end", desc := "()J" } : Jvm.MethodName) prog_146_method_2_code (1 : Nat) (Option.some Jvm.ClassFile.FieldType.long)).before args0 about1 = true := code_word (m := ⟨3, 1⟩) (meth := k3m1) (c := k3c1) (by decide +kernel) rfl rfl rfl (by decide +kernel)
def codes1 : List Jvm.Cond := [Jvm.Cond.code x code maxLocals ret, Jvm.Cond.code ({ cls := "evenkeel/model/CommittedOffset$Span", name := "<init>", desc := "(JJ)V" } : Jvm.MethodName) prog_146_method_1_code (5 : Nat) (Option.none : Option Jvm.ClassFile.FieldType), Jvm.Cond.code ({ cls := "java/lang/Record", name := "<init>", desc := "()V" } : Jvm.MethodName) jdk_30_method_1_code (1 : Nat) (Option.none : Option Jvm.ClassFile.FieldType), Jvm.Cond.code ({ cls := "java/lang/Object", name := "<init>", desc := "()V" } : Jvm.MethodName) object_method_1_code (1 : Nat) (Option.none : Option Jvm.ClassFile.FieldType), Jvm.Cond.code ({ cls := "evenkeel/model/CommittedOffset$Span", name := "end", desc := "()J" } : Jvm.MethodName) prog_146_method_2_code (1 : Nat) (Option.some Jvm.ClassFile.FieldType.long)]
set_option maxRecDepth 65536 in
theorem codes_eq : words1.filter isCode = codes1 := rfl
theorem w_codes : ∀ c ∈ words1.filter isCode, c.before args0 about1 = true := by
  rw [codes_eq]
  intro c hc
  simp only [codes1, List.mem_cons, List.not_mem_nil, or_false] at hc
  rcases hc with rfl | rfl | rfl | rfl | rfl
  · exact w_c0
  · exact w_c1
  · exact w_c2
  · exact w_c3
  · exact w_c4
set_option maxRecDepth 65536 in
theorem w_t1 : (words1.take 24).all (fun c => isCode c || c.before args0 about1) = true := by decide +kernel
set_option maxRecDepth 65536 in
theorem w_t2 : (words1.drop 24).all (fun c => isCode c || c.before args0 about1) = true := by decide +kernel
theorem w_tables : (allAtoms (Jvm.Cond.code x code maxLocals ret :: tables_1)).before args0 about1 = true := by
  rw [allAtoms_all]
  show words1.all (fun c => c.before args0 about1) = true
  refine all_split ?_ w_codes
  rw [← List.take_append_drop 24 words1, List.all_append, w_t1, w_t2]
  rfl
set_option maxRecDepth 65536 in
theorem w_case : (Jvm.Cond.and given_1 narrow_1).before args0 about1 = true := by decide +kernel
theorem w_applies : (headSpec (Jvm.Cond.code x code maxLocals ret :: tables_1) room_1).applies x e0.platform about1 = true :=
  (Spec.applies_iff w_frames).mpr ⟨w_running, w_runnable, w_alone, w_named, w_hears, w_ripe, w_room, w_tables⟩
theorem atStart : AtStart classFile x code maxLocals ret World_1 tables_1 room_1 Calls_1 rest_1 Pre_1 launch0 p0 e0 about1 theMethod args0 below0 :=
  ⟨lists_1, trivial, launch0.admits_env _ _ _, launch0.least_env, fairChoices_fair.cas, fairChoices_fair.clock, w_frames, w_args, w_heap, w_applies, trivial, trivial, w_case⟩
end start1
theorem witness_1 : WitnessClaimed_1 := ⟨start1.p0, start1.e0, start1.about1, start1.theMethod, start1.args0, start1.below0, start1.atStart⟩
end Jvm.Pilot.@@N@@
