import JvmDerived
import JvmDerived.Pilot.@@N@@Statement
import JvmDerived.Pilot.@@N@@Code
set_option linter.unusedVariables false
set_option linter.unusedSimpArgs false
namespace Jvm.RoadKit
open Sem ClassFile Op Lib Jvm.Stand Jvm.Free Jvm.LawKit
section New
variable {p : Program} {l : Launch} {e : Env} {R : Room} {s : State} {m : MethodId} {args : Array Value} {below : List Frame} {meth : Method} {c : Code} {T : State} {locs : List Loc} {cells slots : Nat}
theorem retI (X : Stand p l e R s m args below meth c T locs cells slots) (hx : p.tables.exec = Jvm.exec) {pc : Nat} {Ls : Array Slot} {z : Int32} {rest : List Value} (hret : meth.sig.returnType = some .int) (hd : decode c.code pc = .ok (.ireturn, 1)) {fs : List Frame}
    (hl : ∀ (f : JFrame) (acts : List Action), f.method = m → f.locked = none → f.entered = [] → (doReturn e (T.setTop f) acts (some (.int z))).1 = T.setFrames fs) : Steps p.tables e below (T.setTop (mkF m pc Ls (.int z :: rest))) (T.setFrames fs) := by
  have hm' : T.vm.method? m = some meth := X.method'
  have hn : narrow .int (.int z) = .int z := rfl
  show Steps p.tables e below (T.setTop { method := m, pc := pc, locals := Ls, stack := _ :: rest, locked := none }) _
  jvm_step X.here [X.here.top, hx, hd, hm', hret, hn]
  first | (intro acts; rw [hl _ acts rfl rfl rfl]) | rw [hl _ _ rfl rfl rfl]
  exact Steps.refl _
end New
end Jvm.RoadKit
namespace Jvm.Pilot.@@N@@
open Jvm Jvm.ClassFile Sem Op Lib Jvm.Free Jvm.Stand Jvm.LawKit Jvm.RoadKit Bundle Jvm.Pilot.@@N@@.Jvm.D
abbrev own_K (p : Program) (e : Env) (below : List Frame) (m : MethodId) (T : State) (pc : Nat) (L : Array Slot) (S : List Value) (t : State) : Prop := Steps p.tables e below (T.setTop (mkF m pc L S)) t
abbrev lv (x : Int64) : Slot := .val (.long x)
section OwnLib
variable {p : Program} {l : Launch} {e : Env} {R : Room} {s : State} {m : MethodId} {args : Array Value} {below : List Frame} {meth : Method} {c : Code} {T : State} {locs : List Loc} {cells slots : Nat} {Z : State} {h : Heap} {a : Addr} {k : ClassId} {ty : FieldType} {n j : Int32} {vs : List Value} {dv v : Value}
theorem own_len (X : Stand p l e R s m args below meth c T locs cells slots) (hx : p.tables.exec = Jvm.exec) (hZ : Z.Warmed39 s.vm) (eT : T.heap = h) (V : Arv Z h a k ty n vs dv) {g : JFrame} (hg : g.method = m) {rest : List Value} (hs : g.stack = .ref a :: rest) (hd : decode c.code g.pc = .ok (.arraylength, 1)) (target : State)
    (hr : Steps p.tables e below (T.setTop { g with pc := g.pc + 1, stack := .int n :: rest }) target) : Steps p.tables e below (T.setTop g) target := by
  obtain ⟨cl, Ar, -, S, N, -, -⟩ := V
  refine X.arraylength hx (by rw [eT]; exact Ar.1) (State.isArrayOf_alike hZ.alike Ar.2.1) hg hs hd target ?_
  rw [len_of S N]
  exact hr
theorem own_aal (X : Stand p l e R s m args below meth c T locs cells slots) (hx : p.tables.exec = Jvm.exec) (hZ : Z.Warmed39 s.vm) (eT : T.heap = h) (V : Arv Z h a k ty n vs dv) (hty : ty.isReference = true) (hj : ¬ j < 0 ∧ j < n) (hv : vs.getD j.toNatClampNeg dv = v) {g : JFrame} (hg : g.method = m) {rest : List Value} (hs : g.stack = .int j :: .ref a :: rest) (hd : decode c.code g.pc = .ok (.aaload, 1)) (target : State)
    (hr : Steps p.tables e below (T.setTop { g with pc := g.pc + 1, stack := v :: rest }) target) : Steps p.tables e below (T.setTop g) target := by
  obtain ⟨cl, Ar, -, S, -, H, -⟩ := V
  have hin := inb_of S hj
  exact X.aaload hx (by rw [eT]; exact Ar.1) (State.isArrayOf_alike hZ.alike Ar.2.1) hty Ar.2.2 hin (H.at hin hv) hg hs hd target hr
theorem own_aas (X : Stand p l e R s m args below meth c T locs cells slots) (hx : p.tables.exec = Jvm.exec) (hZ : Z.Warmed39 s.vm) (eT : T.heap = h) (V : Arv Z h a k ty n vs dv) (hty : ty.isReference = true) (hf : fits ty v = true) (F : ∀ cl : Cell, Arr Z h a cl ty → cl.cls = k → Sto Z h a v) (hj : ¬ j < 0 ∧ j < n) {g : JFrame} (hg : g.method = m) {rest : List Value} (hs : g.stack = v :: .int j :: .ref a :: rest) (hd : decode c.code g.pc = .ok (.aastore, 1)) {i : Nat} (hi : j.toNatClampNeg = i) (hl : i < vs.length) :
    ∃ T' h', Stand p l e R s m args below meth c T' (locs ++ [⟨a, j.toNatClampNeg⟩]) cells slots ∧ T'.heap = h' ∧ Wr h h' a j.toNatClampNeg v ∧ Arv Z h' a k ty n (vs.set i v) dv ∧ ∀ target, Steps p.tables e below (T'.setTop { g with pc := g.pc + 1, stack := rest }) target → Steps p.tables e below (T.setTop g) target := by
  obtain ⟨cl, Ar, q, S, N, H, G⟩ := V
  obtain ⟨T', h', X', e', W, st⟩ := stR X hx hZ eT Ar (inb_of S hj) hty (F cl Ar q) hg hs hd
  exact ⟨T', h', X', e', W, Arv.set Ar q S N H G hf W i hi hl, st⟩
end OwnLib

theorem own_bit (x : Int32) : ¬ (x &&& (1 : Int32)) < (0 : Int32) ∧ (x &&& (1 : Int32)) < (2 : Int32) := by
  have h := c_and x 1 (by decide)
  have e1 : (1 : Int32).toInt = 1 := by decide
  have e2 : (2 : Int32).toInt = 2 := by decide
  have e0 : (0 : Int32).toInt = 0 := by decide
  rw [Int32.lt_iff_toInt_lt, Int32.lt_iff_toInt_lt, e0, e2]
  omega
theorem own_bit' {u v : Value} (x : Int32) : (x &&& (1 : Int32)).toNatClampNeg < [u, v].length := by
  have h := own_bit x
  have h1 := nat_of h.1
  have h2 := Int32.lt_iff_toInt_lt.mp h.2
  have e2 : (2 : Int32).toInt = 2 := by decide
  show _ < 2
  omega
theorem d1_0 : decode prog_18_method_5_code 0 = .ok (.iconst 2, 1) := by decide +kernel
theorem d1_1 : decode prog_18_method_5_code 1 = .ok (.anewarray 1, 3) := by decide +kernel
theorem d1_4 : decode prog_18_method_5_code 4 = .ok (.dup, 1) := by decide +kernel
theorem d1_5 : decode prog_18_method_5_code 5 = .ok (.iconst 0, 1) := by decide +kernel
theorem d1_6 : decode prog_18_method_5_code 6 = .ok (.getstatic 3, 3) := by decide +kernel
theorem d1_9 : decode prog_18_method_5_code 9 = .ok (.aastore, 1) := by decide +kernel
theorem d1_10 : decode prog_18_method_5_code 10 = .ok (.dup, 1) := by decide +kernel
theorem d1_11 : decode prog_18_method_5_code 11 = .ok (.iconst 1, 1) := by decide +kernel
theorem d1_12 : decode prog_18_method_5_code 12 = .ok (.getstatic 7, 3) := by decide +kernel
theorem d1_15 : decode prog_18_method_5_code 15 = .ok (.aastore, 1) := by decide +kernel
theorem d1_16 : decode prog_18_method_5_code 16 = .ok (.areturn, 1) := by decide +kernel
theorem pn_0 : plainName "com/example/notewright/notewright/Discounting" = true := by first | (simp [plainName, overriddenIn]; done) | decide +kernel
theorem ef_1 (m : MethodId)  : entryFrame m #[] 0 = mkF m 0 #[] [] := by first | (simp [entryFrame, mkF, argsToLocals, Value.category]; done) | rfl
def Q1 (Z : State) (c1 : Addr) (c2 : Addr) (h0 : Heap) (n0 : Nat) (rv_ : Option Value) (h_ : Heap) (L_ : List Loc) : Prop := ∃ (rb : Addr) (rk : ClassId), rv_ = some (.ref rb) ∧ Fr n0 L_ ∧ Keep h0 h_ [] ∧ h0.size ≤ rb ∧ Arv Z h_ rb rk (.object "com/example/notewright/notewright/Discounting") (2 : Int32) [(.ref c1), (.ref c2)] .null ∧ Ovr Z rk "com/example/notewright/notewright/Discounting"
set_option maxRecDepth 65536 in
set_option maxHeartbeats 40000000 in
theorem rm1 (l : Launch) (Z : State) (a0 : Array Value) (hw : ∀ d ∈ tables_1, d.before a0 Z = true) (ws : List Jvm.Cond) (c1 : Addr) (c2 : Addr) (h0 : Heap) (n0 : Nat) (Z0 : n0 ≤ h0.size) (O_ : Old Z n0 h0) (S1 : Sta Z Z.heap "com/example/notewright/notewright/Discounting" "SEMIANNUAL_30_360" "Lcom/example/notewright/notewright/Discounting;" (.ref c1)) (S2 : Sta Z Z.heap "com/example/notewright/notewright/Discounting" "ANNUAL_ACTUAL_ACTUAL_ICMA" "Lcom/example/notewright/notewright/Discounting;" (.ref c2)) (I1 : Exa Z Z.heap c1 "com/example/notewright/notewright/Discounting") (I2 : Exa Z Z.heap c2 "com/example/notewright/notewright/Discounting") :
    MetFree l (⟨"com/example/notewright/notewright/Discounting", "ofTermsFiles", "()[Lcom/example/notewright/notewright/Discounting;"⟩ : MethodName) (head1 (Jvm.Cond.code (⟨"com/example/notewright/notewright/Discounting", "ofTermsFiles", "()[Lcom/example/notewright/notewright/Discounting;"⟩ : MethodName) prog_18_method_5_code 0 (some (.array (.object "com/example/notewright/notewright/Discounting"))) :: ws) ({ frames := 0, cells := 1, slots := 2, locals := 0 } : Room)) (fun a U => a = #[] ∧ Z.Warmed39 U.vm ∧ U.heap = h0) (fun _ _ _ _ _ => True) (fun _ U o U' => ∃ v L, o = .returned v ∧ Q1 Z c1 c2 h0 n0 v U'.heap L ∧ FrameEnd U o U' L ({ frames := 0, cells := 1, slots := 2, locals := 0 } : Room).cells ({ frames := 0, cells := 1, slots := 2, locals := 0 } : Room).slots) := by
  refine MetFree.of_bodySF (plainFor_of_name pn_0) hisR ?_
  intro p e s m args below meth c s₁ Bd hml0 hP hK
  obtain ⟨rfl, hZ, hh⟩ := hP
  have hx := Bd.exec
  have hby := Bd.bytes
  have hml : c.maxLocals = 0 := hml0
  have hown : s.vm.findClass "com/example/notewright/notewright/Discounting" = some m.cls := findClass_of_methodNamed Bd.named
  have hnm := (name_of_methodNamed Bd.named Bd.method).1
  have X0 : Stand p l e ({ frames := 0, cells := 1, slots := 2, locals := 0 } : Room) s m #[] below meth c s₁ [] 0 0 := Stand.of_body Bd
  have e0 : s₁.heap = h0 := by rw [← hh, Bd.state]; rfl
  have N0 := Fr.nil n0
  obtain ⟨G, hG, pre0⟩ : ∃ G : State → Prop, (∀ t, G t → Steps p.tables e below (s₁.setTop (entryFrame m #[] 0)) t) ∧ ∀ t, own_K p e below m s₁ 0 #[] [] t → G t := ⟨fun t => Steps p.tables e below (s₁.setTop (entryFrame m #[] 0)) t, fun _ k => k, fun t k => castTop (ef_1 m ) k⟩
  obtain ⟨T1, h1, k1, X1, e1, E1, A1, O1, st1⟩ := newR X0 hx hZ hown (hw _ (List.mem_of_getElem? (i := 4) rfl)) (hw _ (List.mem_of_getElem? (i := 5) rfl)) e0 (g := (mkF m 1 #[] [(.int (2 : Int32))])) rfl (hb hby d1_1) rfl (by decide) (cap := 2) (by decide) (by decide) (by decide) (by decide)
  obtain ⟨b1, g1⟩ : ∃ z, z = h0.size := ⟨_, rfl⟩
  rw [← g1] at A1 st1
  have ge_b1 : n0 ≤ b1 := Nat.le_trans Z0 (Nat.le_of_eq g1.symm)
  have sz_b1 : h0.size ≤ b1 := Nat.le_trans (Keep.refl h0 []).1 (Nat.le_of_eq g1.symm)
  have K1 : Keep h0 h1 [] := (Keep.refl h0 []).ext E1
  have sz1 : n0 ≤ h1.size := Nat.le_trans Z0 E1.1
  have V1 : Arv Z h1 b1 k1 (.object "com/example/notewright/notewright/Discounting") (2 : Int32) [.null, .null] .null := (Arv.new A1 (by decide)).pad (pad_rep [] .null 2)
  have f3 : Old Z n0 h1 := (O_.ext E1)
  obtain ⟨T2, X2, e2, st2⟩ := getS2 X1 hx hZ hown (host := "") (Or.inl (hw _ (List.mem_of_getElem? (i := 6) rfl))) Via.refl e1 (Sta.ext f3.2 S1) (g := (mkF m 6 #[] [(.int (0 : Int32)), (.ref b1), (.ref b1)])) rfl (hb hby d1_6)
  obtain ⟨T4, h4, X4, e4, W4, V4, st4⟩ := own_aas X2 hx hZ e2 V1 rfl rfl (fun _ A q => Sto.ofV A q O1 (Ins.self (Exa.ext f3.2 I1))) ⟨by decide, by decide⟩ (g := (mkF m 9 #[] [(.ref c1), (.int (0 : Int32)), (.ref b1), (.ref b1)])) rfl rfl (hb hby d1_9) (i := 0) rfl (Nat.le_of_ble_eq_true rfl)
  have K4 : Keep h0 h4 [] := K1.wr W4 (Or.inr sz_b1)
  have N4 := Fr.snoc X4 N0 ge_b1
  have sz4 : n0 ≤ h4.size := Nat.le_trans sz1 (Keep.of_wr W4).1
  have Vw4 : Arv Z h4 b1 k1 (.object "com/example/notewright/notewright/Discounting") (2 : Int32) [(.ref c1), .null] .null := V4
  have f6 : Old Z n0 h4 := (f3.wr W4 ge_b1)
  obtain ⟨T5, X5, e5, st5⟩ := getS2 X4 hx hZ hown (host := "") (Or.inl (hw _ (List.mem_of_getElem? (i := 9) rfl))) Via.refl e4 (Sta.ext f6.2 S2) (g := (mkF m 12 #[] [(.int (1 : Int32)), (.ref b1), (.ref b1)])) rfl (hb hby d1_12)
  obtain ⟨T7, h7, X7, e7, W7, V7, st7⟩ := own_aas X5 hx hZ e5 Vw4 rfl rfl (fun _ A q => Sto.ofV A q O1 (Ins.self (Exa.ext f6.2 I2))) ⟨by decide, by decide⟩ (g := (mkF m 15 #[] [(.ref c2), (.int (1 : Int32)), (.ref b1), (.ref b1)])) rfl rfl (hb hby d1_15) (i := 1) rfl (Nat.le_of_ble_eq_true rfl)
  have K7 : Keep h0 h7 [] := K4.wr W7 (Or.inr sz_b1)
  have N7 := Fr.snoc X7 N4 ge_b1
  have sz7 : n0 ≤ h7.size := Nat.le_trans sz4 (Keep.of_wr W7).1
  have Vw7 : Arv Z h7 b1 k1 (.object "com/example/notewright/notewright/Discounting") (2 : Int32) [(.ref c1), (.ref c2)] .null := V7
  have pre8 : ∀ t, own_K p e below m T7 16 #[] [(.ref b1)] t → G t := by
    intro t k
    refine pre0 t ?_
    show own_K p e below m s₁ 0 #[] [] _
    refine XS.iconst X0.here hx rfl (hb hby d1_0) ?_
    show own_K p e below m s₁ 1 #[] [(.int (2 : Int32))] _
    refine st1 _ ?_
    show own_K p e below m T1 4 #[] [(.ref b1)] _
    refine XS.dup X1.here hx rfl (hb hby d1_4) rfl rfl ?_
    show own_K p e below m T1 5 #[] [(.ref b1), (.ref b1)] _
    refine XS.iconst X1.here hx rfl (hb hby d1_5) ?_
    show own_K p e below m T1 6 #[] [(.int (0 : Int32)), (.ref b1), (.ref b1)] _
    refine st2 _ ?_
    show own_K p e below m T2 9 #[] [(.ref c1), (.int (0 : Int32)), (.ref b1), (.ref b1)] _
    refine st4 _ ?_
    show own_K p e below m T4 10 #[] [(.ref b1)] _
    refine XS.dup X4.here hx rfl (hb hby d1_10) rfl rfl ?_
    show own_K p e below m T4 11 #[] [(.ref b1), (.ref b1)] _
    refine XS.iconst X4.here hx rfl (hb hby d1_11) ?_
    show own_K p e below m T4 12 #[] [(.int (1 : Int32)), (.ref b1), (.ref b1)] _
    refine st5 _ ?_
    show own_K p e below m T5 15 #[] [(.ref c2), (.int (1 : Int32)), (.ref b1), (.ref b1)] _
    refine st7 _ ?_
    exact k
  obtain ⟨fs, hr, hrun, hended, hW, hsame⟩ := X7.leave (v := some (.ref b1)) (fun h => by rw [Bd.returns] at h; cases h)
  refine ⟨_, _, hG _ (pre8 _ ?_), hrun, hended, _, _, rfl, ?_, ⟨_, rfl⟩, hW, hsame.mono (by decide) (by decide)⟩
  · show own_K p e below m T7 16 #[] [(.ref b1)] _
    exact retOut X7 hx Bd.returns rfl (Or.inr (Or.inr (Or.inr (Or.inr ⟨rfl, rfl, rfl⟩)))) (hb hby d1_16) hr
  · show Q1 Z c1 c2 h0 n0 _ T7.heap _
    rw [e7]
    exact ⟨b1, k1, rfl, N7, K7, sz_b1, Vw7, O1⟩

theorem d2_0 : decode method_2_code 0 = .ok (.aload_n 0, 1) := by decide +kernel
theorem d2_1 : decode method_2_code 1 = .ok (.ifnull 31, 3) := by decide +kernel
theorem d2_4 : decode method_2_code 4 = .ok (.aload_n 0, 1) := by decide +kernel
theorem d2_5 : decode method_2_code 5 = .ok (.arraylength, 1) := by decide +kernel
theorem d2_6 : decode method_2_code 6 = .ok (.iconst 2, 1) := by decide +kernel
theorem d2_7 : decode method_2_code 7 = .ok (.if_icmp .ne 25, 3) := by decide +kernel
theorem d2_10 : decode method_2_code 10 = .ok (.aload_n 0, 1) := by decide +kernel
theorem d2_11 : decode method_2_code 11 = .ok (.iconst 0, 1) := by decide +kernel
theorem d2_12 : decode method_2_code 12 = .ok (.aaload, 1) := by decide +kernel
theorem d2_13 : decode method_2_code 13 = .ok (.getstatic 7, 3) := by decide +kernel
theorem d2_16 : decode method_2_code 16 = .ok (.if_acmp .ne 16, 3) := by decide +kernel
theorem d2_19 : decode method_2_code 19 = .ok (.aload_n 0, 1) := by decide +kernel
theorem d2_20 : decode method_2_code 20 = .ok (.iconst 1, 1) := by decide +kernel
theorem d2_21 : decode method_2_code 21 = .ok (.aaload, 1) := by decide +kernel
theorem d2_22 : decode method_2_code 22 = .ok (.getstatic 13, 3) := by decide +kernel
theorem d2_25 : decode method_2_code 25 = .ok (.if_acmp .ne 7, 3) := by decide +kernel
theorem d2_28 : decode method_2_code 28 = .ok (.iconst 1, 1) := by decide +kernel
theorem d2_29 : decode method_2_code 29 = .ok (.goto 4, 3) := by decide +kernel
theorem d2_33 : decode method_2_code 33 = .ok (.ireturn, 1) := by decide +kernel
theorem pn_1 : plainName "com/example/notewright/notewright/DiscountingOfTermsFilesPinLaw" = true := by first | (simp [plainName, overriddenIn]; done) | decide +kernel
theorem ef_2 (m : MethodId) (x0 : Addr) : entryFrame m #[(.ref x0)] 1 = mkF m 0 #[rv x0] [] := by first | (simp [entryFrame, mkF, argsToLocals, Value.category]; done) | rfl
def Q2 (Z : State) (oa : Addr) (c1 : Addr) (c2 : Addr) (rk : ClassId) (h0 : Heap) (n0 : Nat) (rv_ : Option Value) (h_ : Heap) (L_ : List Loc) : Prop := rv_ = some (.int (1 : Int32)) ∧ Fr n0 L_ ∧ h_ = h0
set_option maxRecDepth 65536 in
set_option maxHeartbeats 40000000 in
theorem rm2 (l : Launch) (Z : State) (a0 : Array Value) (hw : ∀ d ∈ tables_1, d.before a0 Z = true) (ws : List Jvm.Cond) (oa : Addr) (c1 : Addr) (c2 : Addr) (rk : ClassId) (h0 : Heap) (n0 : Nat) (Z0 : n0 ≤ h0.size) (O_ : Old Z n0 h0) (S1 : Sta Z Z.heap "com/example/notewright/notewright/Discounting" "SEMIANNUAL_30_360" "Lcom/example/notewright/notewright/Discounting;" (.ref c1)) (S2 : Sta Z Z.heap "com/example/notewright/notewright/Discounting" "ANNUAL_ACTUAL_ACTUAL_ICMA" "Lcom/example/notewright/notewright/Discounting;" (.ref c2)) (Va : Arv Z h0 oa rk (.object "com/example/notewright/notewright/Discounting") (2 : Int32) [(.ref c1), (.ref c2)] .null) :
    MetFree l (⟨"com/example/notewright/notewright/DiscountingOfTermsFilesPinLaw", "isTheList", "([Lcom/example/notewright/notewright/Discounting;)Z"⟩ : MethodName) (head1 (Jvm.Cond.code (⟨"com/example/notewright/notewright/DiscountingOfTermsFilesPinLaw", "isTheList", "([Lcom/example/notewright/notewright/Discounting;)Z"⟩ : MethodName) method_2_code 1 (some .boolean) :: ws) ({ frames := 0, cells := 0, slots := 0, locals := 0 } : Room)) (fun a U => a = #[(.ref oa)] ∧ Z.Warmed39 U.vm ∧ U.heap = h0) (fun _ _ _ _ _ => True) (fun _ U o U' => ∃ v L, o = .returned v ∧ Q2 Z oa c1 c2 rk h0 n0 v U'.heap L ∧ FrameEnd U o U' L ({ frames := 0, cells := 0, slots := 0, locals := 0 } : Room).cells ({ frames := 0, cells := 0, slots := 0, locals := 0 } : Room).slots) := by
  refine MetFree.of_bodySF (plainFor_of_name pn_1) hisR ?_
  intro p e s m args below meth c s₁ Bd hml0 hP hK
  obtain ⟨rfl, hZ, hh⟩ := hP
  have hx := Bd.exec
  have hby := Bd.bytes
  have hml : c.maxLocals = 1 := hml0
  have hown : s.vm.findClass "com/example/notewright/notewright/DiscountingOfTermsFilesPinLaw" = some m.cls := findClass_of_methodNamed Bd.named
  have hnm := (name_of_methodNamed Bd.named Bd.method).1
  have X0 : Stand p l e ({ frames := 0, cells := 0, slots := 0, locals := 0 } : Room) s m #[(.ref oa)] below meth c s₁ [] 0 0 := Stand.of_body Bd
  have e0 : s₁.heap = h0 := by rw [← hh, Bd.state]; rfl
  have N0 := Fr.nil n0
  obtain ⟨G, hG, pre0⟩ : ∃ G : State → Prop, (∀ t, G t → Steps p.tables e below (s₁.setTop (entryFrame m #[(.ref oa)] 1)) t) ∧ ∀ t, own_K p e below m s₁ 0 #[rv oa] [] t → G t := ⟨fun t => Steps p.tables e below (s₁.setTop (entryFrame m #[(.ref oa)] 1)) t, fun _ k => k, fun t k => castTop (ef_2 m oa) k⟩
  obtain ⟨T3, X3, e3, st3⟩ := getS2 X0 hx hZ hown (host := "") (Or.inl (hw _ (List.mem_of_getElem? (i := 15) rfl))) Via.refl e0 (Sta.ext O_.2 S1) (g := (mkF m 13 #[rv oa] [(.ref c1)])) rfl (hb hby d2_13)
  obtain ⟨T5, X5, e5, st5⟩ := getS2 X3 hx hZ hown (host := "") (Or.inl (hw _ (List.mem_of_getElem? (i := 16) rfl))) Via.refl e3 (Sta.ext O_.2 S2) (g := (mkF m 22 #[rv oa] [(.ref c2)])) rfl (hb hby d2_22)
  have pre6 : ∀ t, own_K p e below m T5 33 #[rv oa] [(.int (1 : Int32))] t → G t := by
    intro t k
    refine pre0 t ?_
    show own_K p e below m s₁ 0 #[rv oa] [] _
    refine XS.aloadN X0.here hx rfl (hb hby d2_0) rfl rfl ?_
    show own_K p e below m s₁ 1 #[rv oa] [(.ref oa)] _
    refine XS.ifnullNo X0.here hx rfl (hb hby d2_1) rfl ?_
    show own_K p e below m s₁ 4 #[rv oa] [] _
    refine XS.aloadN X0.here hx rfl (hb hby d2_4) rfl rfl ?_
    show own_K p e below m s₁ 5 #[rv oa] [(.ref oa)] _
    refine own_len X0 hx hZ e0 Va (g := (mkF m 5 #[rv oa] [(.ref oa)])) rfl rfl (hb hby d2_5) _ ?_
    show own_K p e below m s₁ 6 #[rv oa] [(.int (2 : Int32))] _
    refine XS.iconst X0.here hx rfl (hb hby d2_6) ?_
    show own_K p e below m s₁ 7 #[rv oa] [(.int (2 : Int32)), (.int (2 : Int32))] _
    refine XS.icmpNo X0.here hx rfl (hb hby d2_7) rfl (teq (by decide : (2 : Int32) = (2 : Int32))).2 ?_
    show own_K p e below m s₁ 10 #[rv oa] [] _
    refine XS.aloadN X0.here hx rfl (hb hby d2_10) rfl rfl ?_
    show own_K p e below m s₁ 11 #[rv oa] [(.ref oa)] _
    refine XS.iconst X0.here hx rfl (hb hby d2_11) ?_
    show own_K p e below m s₁ 12 #[rv oa] [(.int (0 : Int32)), (.ref oa)] _
    refine own_aal X0 hx hZ e0 Va rfl (v := (.ref c1)) ⟨by decide, by decide⟩ rfl (g := (mkF m 12 #[rv oa] [(.int (0 : Int32)), (.ref oa)])) rfl rfl (hb hby d2_12) _ ?_
    show own_K p e below m s₁ 13 #[rv oa] [(.ref c1)] _
    refine st3 _ ?_
    show own_K p e below m T3 16 #[rv oa] [(.ref c1), (.ref c1)] _
    refine Jvm.RoadKit.acmp (g := (mkF m 16 #[rv oa] [(.ref c1), (.ref c1)])) X3 hx rfl rfl rfl (pc0 := 16) (pc' := 19) (same := true) rfl (hb hby d2_16) rfl (decide_eq_true rfl) (by decide) (by decide) ?_
    show own_K p e below m T3 19 #[rv oa] [] _
    refine XS.aloadN X3.here hx rfl (hb hby d2_19) rfl rfl ?_
    show own_K p e below m T3 20 #[rv oa] [(.ref oa)] _
    refine XS.iconst X3.here hx rfl (hb hby d2_20) ?_
    show own_K p e below m T3 21 #[rv oa] [(.int (1 : Int32)), (.ref oa)] _
    refine own_aal X3 hx hZ e3 Va rfl (v := (.ref c2)) ⟨by decide, by decide⟩ rfl (g := (mkF m 21 #[rv oa] [(.int (1 : Int32)), (.ref oa)])) rfl rfl (hb hby d2_21) _ ?_
    show own_K p e below m T3 22 #[rv oa] [(.ref c2)] _
    refine st5 _ ?_
    show own_K p e below m T5 25 #[rv oa] [(.ref c2), (.ref c2)] _
    refine Jvm.RoadKit.acmp (g := (mkF m 25 #[rv oa] [(.ref c2), (.ref c2)])) X5 hx rfl rfl rfl (pc0 := 25) (pc' := 28) (same := true) rfl (hb hby d2_25) rfl (decide_eq_true rfl) (by decide) (by decide) ?_
    show own_K p e below m T5 28 #[rv oa] [] _
    refine XS.iconst X5.here hx rfl (hb hby d2_28) ?_
    show own_K p e below m T5 29 #[rv oa] [(.int (1 : Int32))] _
    refine XS.goto X5.here hx rfl (pc0 := 29) (pc' := 33) rfl (hb hby d2_29) (by decide) (by decide) ?_
    exact k
  obtain ⟨fs, hr, hrun, hended, hW, hsame⟩ := X5.leave (v := some (.int (1 : Int32))) (fun h => by rw [Bd.returns] at h; cases h)
  refine ⟨_, _, hG _ (pre6 _ ?_), hrun, hended, _, _, rfl, ?_, ⟨_, rfl⟩, hW, hsame.mono (by decide) (by decide)⟩
  · show own_K p e below m T5 33 #[rv oa] [(.int (1 : Int32))] _
    exact retN X5 hx (t := .boolean) Bd.returns (by simp) (hb hby d2_33) hr
  · show Q2 Z oa c1 c2 rk h0 n0 _ T5.heap _
    rw [e5]
    exact ⟨rfl, N0, rfl⟩

theorem pd_0 : parseMethodDescriptor "()[Lcom/example/notewright/notewright/Discounting;" = some ⟨[], some (.array (.object "com/example/notewright/notewright/Discounting"))⟩ := by decide +kernel
theorem pd_1 : parseMethodDescriptor "([Lcom/example/notewright/notewright/Discounting;)Z" = some ⟨[(.array (.object "com/example/notewright/notewright/Discounting"))], some .boolean⟩ := by decide +kernel
theorem ef_0 (m : MethodId) (x0 : Int32) : entryFrame m #[(.int x0)] maxLocals = mkF m 0 #[iv x0, .unset, .unset, .unset] [] := by first | (simp [entryFrame, mkF, argsToLocals, Value.category, maxLocals]; done) | rfl
def Q0 (Z : State) (p1 : Int32) (c1 : Addr) (c2 : Addr) (c3 : Addr) (h0 : Heap) (n0 : Nat) (rv_ : Option Value) (h_ : Heap) (L_ : List Loc) : Prop := rv_ = some (.int (1 : Int32)) ∧ Fr n0 L_ ∧ Keep h0 h_ []
set_option maxRecDepth 65536 in
set_option maxHeartbeats 40000000 in
theorem rm0 (l : Launch) (Z : State) (a0 : Array Value) (hw : ∀ d ∈ tables_1, d.before a0 Z = true) (ws : List Jvm.Cond) (p1 : Int32) (c1 : Addr) (c2 : Addr) (c3 : Addr) (h0 : Heap) (n0 : Nat) (Z0 : n0 ≤ h0.size) (O_ : Old Z n0 h0) (S1 : Sta Z Z.heap "com/example/notewright/notewright/Discounting" "SEMIANNUAL_30_360" "Lcom/example/notewright/notewright/Discounting;" (.ref c1)) (S2 : Sta Z Z.heap "com/example/notewright/notewright/Discounting" "ANNUAL_ACTUAL_ACTUAL_ICMA" "Lcom/example/notewright/notewright/Discounting;" (.ref c2)) (S3 : Sta Z Z.heap "com/example/notewright/notewright/Discounting" "SEMIANNUAL_ACTUAL_ACTUAL_ICMA" "Lcom/example/notewright/notewright/Discounting;" (.ref c3)) (I1 : Exa Z Z.heap c1 "com/example/notewright/notewright/Discounting") (I2 : Exa Z Z.heap c2 "com/example/notewright/notewright/Discounting") (I3 : Exa Z Z.heap c3 "com/example/notewright/notewright/Discounting") :
    MetFree l x (head1 (Jvm.Cond.code x code maxLocals ret :: ws) room_1) (fun a U => a = #[(.int p1)] ∧ Z.Warmed39 U.vm ∧ U.heap = h0) (fun _ _ _ _ _ => True) (fun _ U o U' => ∃ v L, o = .returned v ∧ Q0 Z p1 c1 c2 c3 h0 n0 v U'.heap L ∧ FrameEnd U o U' L 2 4) := by
  refine MetFree.of_bodySF (plainFor_of_name pn_1) hisR ?_
  intro p e s m args below meth c s₁ Bd hml0 hP hK
  obtain ⟨rfl, hZ, hh⟩ := hP
  have hx := Bd.exec
  have hby := Bd.bytes
  have hml : c.maxLocals = 4 := hml0
  have hown : s.vm.findClass "com/example/notewright/notewright/DiscountingOfTermsFilesPinLaw" = some m.cls := findClass_of_methodNamed Bd.named
  have hnm := (name_of_methodNamed Bd.named Bd.method).1
  have X0 : Stand p l e room_1 s m #[(.int p1)] below meth c s₁ [] 0 0 := Stand.of_body Bd
  have e0 : s₁.heap = h0 := by rw [← hh, Bd.state]; rfl
  have N0 := Fr.nil n0
  obtain ⟨G, hG, pre0⟩ : ∃ G : State → Prop, (∀ t, G t → Steps p.tables e below (s₁.setTop (entryFrame m #[(.int p1)] maxLocals)) t) ∧ ∀ t, own_K p e below m s₁ 0 #[iv p1, .unset, .unset, .unset] [] t → G t := ⟨fun t => Steps p.tables e below (s₁.setTop (entryFrame m #[(.int p1)] maxLocals)) t, fun _ k => k, fun t k => castTop (ef_0 m p1) k⟩
  obtain ⟨_, _, ⟨T1, L1, k1, n1⟩, -, X1, ⟨Lc1, hQ1, l1, y1, z1⟩, st1⟩ := Jvm.LawKit.callS X0 hx (y := (⟨"com/example/notewright/notewright/Discounting", "ofTermsFiles", "()[Lcom/example/notewright/notewright/Discounting;"⟩ : MethodName)) hown (mvT hZ (hw _ (List.mem_of_getElem? (i := 0) rfl))) (mvT hZ (hw _ (List.mem_of_getElem? (i := 1) rfl))) (mvT hZ (hw _ (List.mem_of_getElem? (i := 2) rfl))) (mvT hZ (hw _ (List.mem_of_getElem? (i := 3) rfl))) (by decide) (backOf (W := 0) (rm1 l Z a0 hw [] c1 c2 h0 n0 Z0 O_ S1 S2 I1 I2) hZ (hw _ (List.mem_of_getElem? (i := 3) rfl)) (hw _ (List.mem_of_getElem? (i := 2) rfl)) (by decide) (by decide)) (g := (mkF m 0 #[iv p1, .unset, .unset, .unset] [])) rfl (by rw [hml]; rfl) (argsL := []) (rest := []) (lenOf pd_0 rfl) rfl (by show 2 * 0 + _ ≤ _; exact Nat.le_of_eq rfl) (hb hby at_0) (fun _ _ => ⟨rfl, e0, (by decide : 0 + 1 ≤ _), (by decide : 0 + 2 ≤ _)⟩)
  dsimp only [Pt.U, Pt.locs, Pt.cells, Pt.slots] at X1 l1 y1 z1 st1 hQ1
  subst l1 y1 z1
  obtain ⟨rb1, rk1, rfl, Nq1, Kc1, gt_1, Va_1, Ov_1⟩ := hQ1
  have N1 := Fr.app N0 Nq1
  have K1 : Keep h0 T1.heap [] := (Keep.refl h0 []).trans Kc1 all0
  have sz1 : n0 ≤ T1.heap.size := Nat.le_trans Z0 Kc1.1
  have ge_rb1 : n0 ≤ rb1 := Nat.le_trans Z0 gt_1
  have sz_rb1 : h0.size ≤ rb1 := Nat.le_trans (Keep.refl h0 []).1 gt_1
  have f3 : Old Z n0 T1.heap := (O_.keep Kc1 all0)
  obtain ⟨_, _, ⟨T2, L2, k2, n2⟩, -, X2, ⟨Lc2, hQ2, l2, y2, z2⟩, st2⟩ := Jvm.LawKit.callS X1 hx (y := (⟨"com/example/notewright/notewright/DiscountingOfTermsFilesPinLaw", "isTheList", "([Lcom/example/notewright/notewright/Discounting;)Z"⟩ : MethodName)) hown (mvT hZ (hw _ (List.mem_of_getElem? (i := 11) rfl))) (mvT hZ (hw _ (List.mem_of_getElem? (i := 12) rfl))) (mvT hZ (hw _ (List.mem_of_getElem? (i := 13) rfl))) (mvT hZ (hw _ (List.mem_of_getElem? (i := 14) rfl))) (by decide) (backOf (W := 0) (rm2 l Z a0 hw [] rb1 c1 c2 rk1 T1.heap n0 sz1 f3 S1 S2 Va_1) hZ (hw _ (List.mem_of_getElem? (i := 14) rfl)) (hw _ (List.mem_of_getElem? (i := 13) rfl)) (by decide) (by decide)) (g := (mkF m 5 #[iv p1, rv rb1, .unset, .unset] [(.ref rb1)])) rfl (by rw [hml]; rfl) (argsL := [(.ref rb1)]) (rest := []) (lenOf pd_1 rfl) rfl (by show 2 * 0 + _ ≤ _; exact Nat.le_of_eq rfl) (hb hby at_5) (fun _ _ => ⟨rfl, rfl, (by decide : 1 + 0 ≤ _), (by decide : 2 + 0 ≤ _)⟩)
  dsimp only [Pt.U, Pt.locs, Pt.cells, Pt.slots] at X2 l2 y2 z2 st2 hQ2
  subst l2 y2 z2
  obtain ⟨rfl, Nq2, eh2⟩ := hQ2
  have N2 := Fr.app N1 Nq2
  have pre4 : ∀ t, own_K p e below m T2 22 #[iv p1, rv rb1, iv (p1 &&& (1 : Int32)), .unset] [(.int (p1 &&& (2 : Int32))), (.int (p1 &&& (1 : Int32))), (.ref rb1)] t → G t := by
    intro t k
    refine pre0 t ?_
    show own_K p e below m s₁ 0 #[iv p1, .unset, .unset, .unset] [] _
    refine st1 _ ?_
    show own_K p e below m T1 3 #[iv p1, .unset, .unset, .unset] [(.ref rb1)] _
    refine XS.astoreN X1.here hx rfl (hb hby at_3) rfl rfl (l' := #[iv p1, rv rb1, .unset, .unset]) rfl ?_
    show own_K p e below m T1 4 #[iv p1, rv rb1, .unset, .unset] [] _
    refine XS.aloadN X1.here hx rfl (hb hby at_4) rfl rfl ?_
    show own_K p e below m T1 5 #[iv p1, rv rb1, .unset, .unset] [(.ref rb1)] _
    refine st2 _ ?_
    show own_K p e below m T2 8 #[iv p1, rv rb1, .unset, .unset] [(.int (1 : Int32))] _
    refine XS.ifYes X2.here hx rfl (pc0 := 8) (pc' := 13) rfl (hb hby at_8) rfl ((if0 _ _).trans (feq (by decide : ¬ ((1 : Int32) = (0 : Int32)))).2) (by decide) (by decide) ?_
    show own_K p e below m T2 13 #[iv p1, rv rb1, .unset, .unset] [] _
    refine XS.iloadN X2.here hx rfl (hb hby at_13) rfl ?_
    show own_K p e below m T2 14 #[iv p1, rv rb1, .unset, .unset] [(.int p1)] _
    refine XS.iconst X2.here hx rfl (hb hby at_14) ?_
    show own_K p e below m T2 15 #[iv p1, rv rb1, .unset, .unset] [(.int (1 : Int32)), (.int p1)] _
    refine XS.iand X2.here hx rfl (hb hby at_15) rfl ?_
    show own_K p e below m T2 16 #[iv p1, rv rb1, .unset, .unset] [(.int (p1 &&& (1 : Int32)))] _
    refine XS.istoreN X2.here hx rfl (hb hby at_16) rfl (l' := #[iv p1, rv rb1, iv (p1 &&& (1 : Int32)), .unset]) rfl ?_
    show own_K p e below m T2 17 #[iv p1, rv rb1, iv (p1 &&& (1 : Int32)), .unset] [] _
    refine XS.aloadN X2.here hx rfl (hb hby at_17) rfl rfl ?_
    show own_K p e below m T2 18 #[iv p1, rv rb1, iv (p1 &&& (1 : Int32)), .unset] [(.ref rb1)] _
    refine XS.iloadN X2.here hx rfl (hb hby at_18) rfl ?_
    show own_K p e below m T2 19 #[iv p1, rv rb1, iv (p1 &&& (1 : Int32)), .unset] [(.int (p1 &&& (1 : Int32))), (.ref rb1)] _
    refine XS.iloadN X2.here hx rfl (hb hby at_19) rfl ?_
    show own_K p e below m T2 20 #[iv p1, rv rb1, iv (p1 &&& (1 : Int32)), .unset] [(.int p1), (.int (p1 &&& (1 : Int32))), (.ref rb1)] _
    refine XS.iconst X2.here hx rfl (hb hby at_20) ?_
    show own_K p e below m T2 21 #[iv p1, rv rb1, iv (p1 &&& (1 : Int32)), .unset] [(.int (2 : Int32)), (.int p1), (.int (p1 &&& (1 : Int32))), (.ref rb1)] _
    refine XS.iand X2.here hx rfl (hb hby at_21) rfl ?_
    exact k
  by_cases hc22_5 : (p1 &&& (2 : Int32)) = (0 : Int32)
  · obtain ⟨T6, h6, X6, e6, W6, V6, st6⟩ := own_aas X2 hx hZ eh2 Va_1 rfl rfl (fun _ _ _ => Or.inl rfl) (own_bit p1) (g := (mkF m 32 #[iv p1, rv rb1, iv (p1 &&& (1 : Int32)), .unset] [.null, (.int (p1 &&& (1 : Int32))), (.ref rb1)])) rfl rfl (hb hby at_32) (i := _) rfl (own_bit' p1)
    have K6 : Keep h0 h6 [] := K1.wr W6 (Or.inr sz_rb1)
    have N6 := Fr.snoc X6 N2 ge_rb1
    have sz6 : n0 ≤ h6.size := Nat.le_trans sz1 (Keep.of_wr W6).1
    have Vw6 : Arv Z h6 rb1 rk1 (.object "com/example/notewright/notewright/Discounting") (2 : Int32) (List.set [(.ref c1), (.ref c2)] ((p1 &&& (1 : Int32))).toNatClampNeg .null) .null := V6
    have f8 : Old Z n0 h6 := (f3.wr W6 ge_rb1)
    obtain ⟨_, _, ⟨T7, L7, k7, n7⟩, -, X7, ⟨Lc7, hQ7, l7, y7, z7⟩, st7⟩ := Jvm.LawKit.callS X6 hx (y := (⟨"com/example/notewright/notewright/Discounting", "ofTermsFiles", "()[Lcom/example/notewright/notewright/Discounting;"⟩ : MethodName)) hown (mvT hZ (hw _ (List.mem_of_getElem? (i := 0) rfl))) (mvT hZ (hw _ (List.mem_of_getElem? (i := 1) rfl))) (mvT hZ (hw _ (List.mem_of_getElem? (i := 2) rfl))) (mvT hZ (hw _ (List.mem_of_getElem? (i := 3) rfl))) (by decide) (backOf (W := 0) (rm1 l Z a0 hw [] c1 c2 h6 n0 sz6 f8 S1 S2 I1 I2) hZ (hw _ (List.mem_of_getElem? (i := 3) rfl)) (hw _ (List.mem_of_getElem? (i := 2) rfl)) (by decide) (by decide)) (g := (mkF m 33 #[iv p1, rv rb1, iv (p1 &&& (1 : Int32)), .unset] [])) rfl (by rw [hml]; rfl) (argsL := []) (rest := []) (lenOf pd_0 rfl) rfl (by show 2 * 0 + _ ≤ _; exact Nat.le_of_eq rfl) (hb hby at_33) (fun _ _ => ⟨rfl, e6, (by decide : 1 + 1 ≤ _), (by decide : 2 + 2 ≤ _)⟩)
    dsimp only [Pt.U, Pt.locs, Pt.cells, Pt.slots] at X7 l7 y7 z7 st7 hQ7
    subst l7 y7 z7
    obtain ⟨rb7, rk7, rfl, Nq7, Kc7, gt_7, Va_7, Ov_7⟩ := hQ7
    have N7 := Fr.app N6 Nq7
    have K7 : Keep h0 T7.heap [] := K6.trans Kc7 all0
    have sz7 : n0 ≤ T7.heap.size := Nat.le_trans sz6 Kc7.1
    have ge_rb7 : n0 ≤ rb7 := Nat.le_trans sz6 gt_7
    have sz_rb7 : h0.size ≤ rb7 := Nat.le_trans K6.1 gt_7
    have ne_rb1_rb7 : rb1 ≠ rb7 := Nat.ne_of_lt (Nat.lt_of_lt_of_le Vw6.lt gt_7)
    have f10 : Old Z n0 T7.heap := (f8.keep Kc7 all0)
    obtain ⟨_, _, ⟨T9, L9, k9, n9⟩, -, X9, ⟨Lc9, hQ9, l9, y9, z9⟩, st9⟩ := Jvm.LawKit.callS X7 hx (y := (⟨"com/example/notewright/notewright/DiscountingOfTermsFilesPinLaw", "isTheList", "([Lcom/example/notewright/notewright/Discounting;)Z"⟩ : MethodName)) hown (mvT hZ (hw _ (List.mem_of_getElem? (i := 11) rfl))) (mvT hZ (hw _ (List.mem_of_getElem? (i := 12) rfl))) (mvT hZ (hw _ (List.mem_of_getElem? (i := 13) rfl))) (mvT hZ (hw _ (List.mem_of_getElem? (i := 14) rfl))) (by decide) (backOf (W := 0) (rm2 l Z a0 hw [] rb7 c1 c2 rk7 T7.heap n0 sz7 f10 S1 S2 Va_7) hZ (hw _ (List.mem_of_getElem? (i := 14) rfl)) (hw _ (List.mem_of_getElem? (i := 13) rfl)) (by decide) (by decide)) (g := (mkF m 43 #[iv p1, rv rb1, iv (p1 &&& (1 : Int32)), rv rb7] [(.ref rb7)])) rfl (by rw [hml]; rfl) (argsL := [(.ref rb7)]) (rest := []) (lenOf pd_1 rfl) rfl (by show 2 * 0 + _ ≤ _; exact Nat.le_of_eq rfl) (hb hby at_43) (fun _ _ => ⟨rfl, rfl, (by decide : 2 + 0 ≤ _), (by decide : 4 + 0 ≤ _)⟩)
    dsimp only [Pt.U, Pt.locs, Pt.cells, Pt.slots] at X9 l9 y9 z9 st9 hQ9
    subst l9 y9 z9
    obtain ⟨rfl, Nq9, eh9⟩ := hQ9
    have N9 := Fr.app N7 Nq9
    have pre11 : ∀ t, own_K p e below m T9 54 #[iv p1, rv rb1, iv (p1 &&& (1 : Int32)), rv rb7] [(.int (1 : Int32))] t → G t := by
      intro t k
      refine pre4 t ?_
      show own_K p e below m T2 22 #[iv p1, rv rb1, iv (p1 &&& (1 : Int32)), .unset] [(.int (p1 &&& (2 : Int32))), (.int (p1 &&& (1 : Int32))), (.ref rb1)] _
      refine XS.ifYes X2.here hx rfl (pc0 := 22) (pc' := 31) rfl (hb hby at_22) rfl ((if0 _ _).trans (teq hc22_5).1) (by decide) (by decide) ?_
      show own_K p e below m T2 31 #[iv p1, rv rb1, iv (p1 &&& (1 : Int32)), .unset] [(.int (p1 &&& (1 : Int32))), (.ref rb1)] _
      refine XS.aconstNull X2.here hx rfl (hb hby at_31) ?_
      show own_K p e below m T2 32 #[iv p1, rv rb1, iv (p1 &&& (1 : Int32)), .unset] [.null, (.int (p1 &&& (1 : Int32))), (.ref rb1)] _
      refine st6 _ ?_
      show own_K p e below m T6 33 #[iv p1, rv rb1, iv (p1 &&& (1 : Int32)), .unset] [] _
      refine st7 _ ?_
      show own_K p e below m T7 36 #[iv p1, rv rb1, iv (p1 &&& (1 : Int32)), .unset] [(.ref rb7)] _
      refine XS.astoreN X7.here hx rfl (hb hby at_36) rfl rfl (l' := #[iv p1, rv rb1, iv (p1 &&& (1 : Int32)), rv rb7]) rfl ?_
      show own_K p e below m T7 37 #[iv p1, rv rb1, iv (p1 &&& (1 : Int32)), rv rb7] [] _
      refine XS.aloadN X7.here hx rfl (hb hby at_37) rfl rfl ?_
      show own_K p e below m T7 38 #[iv p1, rv rb1, iv (p1 &&& (1 : Int32)), rv rb7] [(.ref rb7)] _
      refine XS.aloadN X7.here hx rfl (hb hby at_38) rfl rfl ?_
      show own_K p e below m T7 39 #[iv p1, rv rb1, iv (p1 &&& (1 : Int32)), rv rb7] [(.ref rb1), (.ref rb7)] _
      refine Jvm.RoadKit.acmp (g := (mkF m 39 #[iv p1, rv rb1, iv (p1 &&& (1 : Int32)), rv rb7] [(.ref rb1), (.ref rb7)])) X7 hx rfl rfl rfl (pc0 := 39) (pc' := 42) (same := false) rfl (hb hby at_39) rfl (decide_eq_false fun q => (Ne.symm ne_rb1_rb7) (Value.ref.inj q)) (by decide) (by decide) ?_
      show own_K p e below m T7 42 #[iv p1, rv rb1, iv (p1 &&& (1 : Int32)), rv rb7] [] _
      refine XS.aloadN X7.here hx rfl (hb hby at_42) rfl rfl ?_
      show own_K p e below m T7 43 #[iv p1, rv rb1, iv (p1 &&& (1 : Int32)), rv rb7] [(.ref rb7)] _
      refine st9 _ ?_
      show own_K p e below m T9 46 #[iv p1, rv rb1, iv (p1 &&& (1 : Int32)), rv rb7] [(.int (1 : Int32))] _
      refine XS.ifNo X9.here hx rfl (hb hby at_46) rfl ((if0 _ _).trans (feq (by decide : ¬ ((1 : Int32) = (0 : Int32)))).1) ?_
      show own_K p e below m T9 49 #[iv p1, rv rb1, iv (p1 &&& (1 : Int32)), rv rb7] [] _
      refine XS.iconst X9.here hx rfl (hb hby at_49) ?_
      show own_K p e below m T9 50 #[iv p1, rv rb1, iv (p1 &&& (1 : Int32)), rv rb7] [(.int (1 : Int32))] _
      refine XS.goto X9.here hx rfl (pc0 := 50) (pc' := 54) rfl (hb hby at_50) (by decide) (by decide) ?_
      exact k
    obtain ⟨fs, hr, hrun, hended, hW, hsame⟩ := X9.leave (v := some (.int (1 : Int32))) (fun h => by rw [Bd.returns] at h; cases h)
    refine ⟨_, _, hG _ (pre11 _ ?_), hrun, hended, _, _, rfl, ?_, ⟨_, rfl⟩, hW, hsame.mono (by decide) (by decide)⟩
    · show own_K p e below m T9 54 #[iv p1, rv rb1, iv (p1 &&& (1 : Int32)), rv rb7] [(.int (1 : Int32))] _
      exact retN X9 hx (t := .boolean) Bd.returns (by simp) (hb hby at_54) hr
    · show Q0 Z p1 c1 c2 c3 h0 n0 _ T9.heap _
      rw [eh9]
      exact ⟨rfl, N9, K7⟩
  · obtain ⟨T12, X12, e12, st12⟩ := getS2 X2 hx hZ hown (host := "") (Or.inl (hw _ (List.mem_of_getElem? (i := 17) rfl))) Via.refl eh2 (Sta.ext f3.2 S3) (g := (mkF m 25 #[iv p1, rv rb1, iv (p1 &&& (1 : Int32)), .unset] [(.int (p1 &&& (1 : Int32))), (.ref rb1)])) rfl (hb hby at_25)
    obtain ⟨T13, h13, X13, e13, W13, V13, st13⟩ := own_aas X12 hx hZ e12 Va_1 rfl rfl (fun _ A q => Sto.ofV A q Ov_1 (Ins.self (Exa.ext f3.2 I3))) (own_bit p1) (g := (mkF m 32 #[iv p1, rv rb1, iv (p1 &&& (1 : Int32)), .unset] [(.ref c3), (.int (p1 &&& (1 : Int32))), (.ref rb1)])) rfl rfl (hb hby at_32) (i := _) rfl (own_bit' p1)
    have K13 : Keep h0 h13 [] := K1.wr W13 (Or.inr sz_rb1)
    have N13 := Fr.snoc X13 N2 ge_rb1
    have sz13 : n0 ≤ h13.size := Nat.le_trans sz1 (Keep.of_wr W13).1
    have Vw13 : Arv Z h13 rb1 rk1 (.object "com/example/notewright/notewright/Discounting") (2 : Int32) (List.set [(.ref c1), (.ref c2)] ((p1 &&& (1 : Int32))).toNatClampNeg (.ref c3)) .null := V13
    have f15 : Old Z n0 h13 := (f3.wr W13 ge_rb1)
    obtain ⟨_, _, ⟨T14, L14, k14, n14⟩, -, X14, ⟨Lc14, hQ14, l14, y14, z14⟩, st14⟩ := Jvm.LawKit.callS X13 hx (y := (⟨"com/example/notewright/notewright/Discounting", "ofTermsFiles", "()[Lcom/example/notewright/notewright/Discounting;"⟩ : MethodName)) hown (mvT hZ (hw _ (List.mem_of_getElem? (i := 0) rfl))) (mvT hZ (hw _ (List.mem_of_getElem? (i := 1) rfl))) (mvT hZ (hw _ (List.mem_of_getElem? (i := 2) rfl))) (mvT hZ (hw _ (List.mem_of_getElem? (i := 3) rfl))) (by decide) (backOf (W := 0) (rm1 l Z a0 hw [] c1 c2 h13 n0 sz13 f15 S1 S2 I1 I2) hZ (hw _ (List.mem_of_getElem? (i := 3) rfl)) (hw _ (List.mem_of_getElem? (i := 2) rfl)) (by decide) (by decide)) (g := (mkF m 33 #[iv p1, rv rb1, iv (p1 &&& (1 : Int32)), .unset] [])) rfl (by rw [hml]; rfl) (argsL := []) (rest := []) (lenOf pd_0 rfl) rfl (by show 2 * 0 + _ ≤ _; exact Nat.le_of_eq rfl) (hb hby at_33) (fun _ _ => ⟨rfl, e13, (by decide : 1 + 1 ≤ _), (by decide : 2 + 2 ≤ _)⟩)
    dsimp only [Pt.U, Pt.locs, Pt.cells, Pt.slots] at X14 l14 y14 z14 st14 hQ14
    subst l14 y14 z14
    obtain ⟨rb14, rk14, rfl, Nq14, Kc14, gt_14, Va_14, Ov_14⟩ := hQ14
    have N14 := Fr.app N13 Nq14
    have K14 : Keep h0 T14.heap [] := K13.trans Kc14 all0
    have sz14 : n0 ≤ T14.heap.size := Nat.le_trans sz13 Kc14.1
    have ge_rb14 : n0 ≤ rb14 := Nat.le_trans sz13 gt_14
    have sz_rb14 : h0.size ≤ rb14 := Nat.le_trans K13.1 gt_14
    have ne_rb1_rb14 : rb1 ≠ rb14 := Nat.ne_of_lt (Nat.lt_of_lt_of_le Vw13.lt gt_14)
    have f17 : Old Z n0 T14.heap := (f15.keep Kc14 all0)
    obtain ⟨_, _, ⟨T16, L16, k16, n16⟩, -, X16, ⟨Lc16, hQ16, l16, y16, z16⟩, st16⟩ := Jvm.LawKit.callS X14 hx (y := (⟨"com/example/notewright/notewright/DiscountingOfTermsFilesPinLaw", "isTheList", "([Lcom/example/notewright/notewright/Discounting;)Z"⟩ : MethodName)) hown (mvT hZ (hw _ (List.mem_of_getElem? (i := 11) rfl))) (mvT hZ (hw _ (List.mem_of_getElem? (i := 12) rfl))) (mvT hZ (hw _ (List.mem_of_getElem? (i := 13) rfl))) (mvT hZ (hw _ (List.mem_of_getElem? (i := 14) rfl))) (by decide) (backOf (W := 0) (rm2 l Z a0 hw [] rb14 c1 c2 rk14 T14.heap n0 sz14 f17 S1 S2 Va_14) hZ (hw _ (List.mem_of_getElem? (i := 14) rfl)) (hw _ (List.mem_of_getElem? (i := 13) rfl)) (by decide) (by decide)) (g := (mkF m 43 #[iv p1, rv rb1, iv (p1 &&& (1 : Int32)), rv rb14] [(.ref rb14)])) rfl (by rw [hml]; rfl) (argsL := [(.ref rb14)]) (rest := []) (lenOf pd_1 rfl) rfl (by show 2 * 0 + _ ≤ _; exact Nat.le_of_eq rfl) (hb hby at_43) (fun _ _ => ⟨rfl, rfl, (by decide : 2 + 0 ≤ _), (by decide : 4 + 0 ≤ _)⟩)
    dsimp only [Pt.U, Pt.locs, Pt.cells, Pt.slots] at X16 l16 y16 z16 st16 hQ16
    subst l16 y16 z16
    obtain ⟨rfl, Nq16, eh16⟩ := hQ16
    have N16 := Fr.app N14 Nq16
    have pre18 : ∀ t, own_K p e below m T16 54 #[iv p1, rv rb1, iv (p1 &&& (1 : Int32)), rv rb14] [(.int (1 : Int32))] t → G t := by
      intro t k
      refine pre4 t ?_
      show own_K p e below m T2 22 #[iv p1, rv rb1, iv (p1 &&& (1 : Int32)), .unset] [(.int (p1 &&& (2 : Int32))), (.int (p1 &&& (1 : Int32))), (.ref rb1)] _
      refine XS.ifNo X2.here hx rfl (hb hby at_22) rfl ((if0 _ _).trans (feq hc22_5).1) ?_
      show own_K p e below m T2 25 #[iv p1, rv rb1, iv (p1 &&& (1 : Int32)), .unset] [(.int (p1 &&& (1 : Int32))), (.ref rb1)] _
      refine st12 _ ?_
      show own_K p e below m T12 28 #[iv p1, rv rb1, iv (p1 &&& (1 : Int32)), .unset] [(.ref c3), (.int (p1 &&& (1 : Int32))), (.ref rb1)] _
      refine XS.goto X12.here hx rfl (pc0 := 28) (pc' := 32) rfl (hb hby at_28) (by decide) (by decide) ?_
      show own_K p e below m T12 32 #[iv p1, rv rb1, iv (p1 &&& (1 : Int32)), .unset] [(.ref c3), (.int (p1 &&& (1 : Int32))), (.ref rb1)] _
      refine st13 _ ?_
      show own_K p e below m T13 33 #[iv p1, rv rb1, iv (p1 &&& (1 : Int32)), .unset] [] _
      refine st14 _ ?_
      show own_K p e below m T14 36 #[iv p1, rv rb1, iv (p1 &&& (1 : Int32)), .unset] [(.ref rb14)] _
      refine XS.astoreN X14.here hx rfl (hb hby at_36) rfl rfl (l' := #[iv p1, rv rb1, iv (p1 &&& (1 : Int32)), rv rb14]) rfl ?_
      show own_K p e below m T14 37 #[iv p1, rv rb1, iv (p1 &&& (1 : Int32)), rv rb14] [] _
      refine XS.aloadN X14.here hx rfl (hb hby at_37) rfl rfl ?_
      show own_K p e below m T14 38 #[iv p1, rv rb1, iv (p1 &&& (1 : Int32)), rv rb14] [(.ref rb14)] _
      refine XS.aloadN X14.here hx rfl (hb hby at_38) rfl rfl ?_
      show own_K p e below m T14 39 #[iv p1, rv rb1, iv (p1 &&& (1 : Int32)), rv rb14] [(.ref rb1), (.ref rb14)] _
      refine Jvm.RoadKit.acmp (g := (mkF m 39 #[iv p1, rv rb1, iv (p1 &&& (1 : Int32)), rv rb14] [(.ref rb1), (.ref rb14)])) X14 hx rfl rfl rfl (pc0 := 39) (pc' := 42) (same := false) rfl (hb hby at_39) rfl (decide_eq_false fun q => (Ne.symm ne_rb1_rb14) (Value.ref.inj q)) (by decide) (by decide) ?_
      show own_K p e below m T14 42 #[iv p1, rv rb1, iv (p1 &&& (1 : Int32)), rv rb14] [] _
      refine XS.aloadN X14.here hx rfl (hb hby at_42) rfl rfl ?_
      show own_K p e below m T14 43 #[iv p1, rv rb1, iv (p1 &&& (1 : Int32)), rv rb14] [(.ref rb14)] _
      refine st16 _ ?_
      show own_K p e below m T16 46 #[iv p1, rv rb1, iv (p1 &&& (1 : Int32)), rv rb14] [(.int (1 : Int32))] _
      refine XS.ifNo X16.here hx rfl (hb hby at_46) rfl ((if0 _ _).trans (feq (by decide : ¬ ((1 : Int32) = (0 : Int32)))).1) ?_
      show own_K p e below m T16 49 #[iv p1, rv rb1, iv (p1 &&& (1 : Int32)), rv rb14] [] _
      refine XS.iconst X16.here hx rfl (hb hby at_49) ?_
      show own_K p e below m T16 50 #[iv p1, rv rb1, iv (p1 &&& (1 : Int32)), rv rb14] [(.int (1 : Int32))] _
      refine XS.goto X16.here hx rfl (pc0 := 50) (pc' := 54) rfl (hb hby at_50) (by decide) (by decide) ?_
      exact k
    obtain ⟨fs, hr, hrun, hended, hW, hsame⟩ := X16.leave (v := some (.int (1 : Int32))) (fun h => by rw [Bd.returns] at h; cases h)
    refine ⟨_, _, hG _ (pre18 _ ?_), hrun, hended, _, _, rfl, ?_, ⟨_, rfl⟩, hW, hsame.mono (by decide) (by decide)⟩
    · show own_K p e below m T16 54 #[iv p1, rv rb1, iv (p1 &&& (1 : Int32)), rv rb14] [(.int (1 : Int32))] _
      exact retN X16 hx (t := .boolean) Bd.returns (by simp) (hb hby at_54) hr
    · show Q0 Z p1 c1 c2 c3 h0 n0 _ T16.heap _
      rw [eh16]
      exact ⟨rfl, N16, K14⟩
set_option maxRecDepth 65536 in
set_option maxHeartbeats 40000000 in
theorem comes_1 {Post : Tables → Env → Array Value → State → Outcome → State → Prop} (hpost : ∀ tb e args s v u, (limb_1_1.after args s (.returned v) u = true ∧ limb_1_2.after args s (.returned v) u = true ∧ True) → FrameEnd s (.returned v) u (Jvm.fieldLocs frame_1_writes args s ++ Jvm.arrayLocs frame_1_arrays args s ++ Jvm.staticLocs frame_1_statics s) 16 128 → Post tb e args s (.returned v) u) :
    ArmFor flags0 classFile x code maxLocals ret World_1 tables_1 room_1 Calls_1 rest_1 Pre_1 Post := by
  intro l hfl _ _ p e ha hc hk s m args below hf hA hF happ hP
  obtain ⟨hcalls, hrest, hpre⟩ := hP
  obtain ⟨-, -, -, hnamed, -, -, -, hat⟩ := (Spec.applies_iff hf).mp happ
  obtain ⟨hg, hn⟩ := and_e (Cond.before_iff.mp (show (Jvm.Cond.and given_1 narrow_1).before args s = true from hpre))
  obtain ⟨ga1, gb1⟩ := and_e hg
  obtain ⟨w0, rfl⟩ : ∃ w0 : Value, args = #[w0] := by
    have hs : args.size = 1 := by simpa [Cond.value, given_1] using ga1
    obtain ⟨L⟩ := args
    match L, hs with
    | [w0], _ => exact ⟨w0, rfl⟩
  have hw := fun d (hd : d ∈ tables_1) => atoms_spec (ws := Jvm.Cond.code x code maxLocals ret :: tables_1) hat d (List.mem_cons_of_mem _ hd)
  have hfit : Fit s := fun {y c} hc i hi => by
    obtain ⟨ha, rfl⟩ := Array.getElem?_eq_some_iff.mp hc
    have q := List.all_eq_true.mp ((Array.all_eq_true_iff_forall_mem.mp hF) _ (Array.getElem_mem ha)) i (List.mem_range.mpr hi)
    simpa [Array.getElem?_eq_getElem hi] using q
  obtain ⟨i0, ei0⟩ := is_v gb1
  obtain rfl : w0 = (.int i0) := Option.some.inj ei0
  obtain ⟨hn1, hn23⟩ := and_e hn
  obtain ⟨hn2, hn3⟩ := and_e hn23
  obtain ⟨c1, k1⟩ := exa_v hn1
  obtain ⟨c2, k2⟩ := exa_v hn2
  obtain ⟨c3, k3⟩ := exa_v hn3
  have S1 := Sta.start k1 (Or.inr ⟨(hw _ (List.mem_of_getElem? (i := 2) rfl)), (hw _ (List.mem_of_getElem? (i := 7) rfl))⟩)
  have S2 := Sta.start k2 (Or.inr ⟨(hw _ (List.mem_of_getElem? (i := 2) rfl)), (hw _ (List.mem_of_getElem? (i := 10) rfl))⟩)
  have S3 := Sta.start k3 (Or.inr ⟨(hw _ (List.mem_of_getElem? (i := 2) rfl)), (hw _ (List.mem_of_getElem? (i := 18) rfl))⟩)
  have I1 := Exa.start k1 hn1
  have I2 := Exa.start k2 hn2
  have I3 := Exa.start k3 hn3
  obtain ⟨n, o, h1, h2, h3, _, L, rfl, ⟨rfl, N, _⟩, hq⟩ := rm0 l s _ hw tables_1 i0 c1 c2 c3 s.heap s.heap.size (Nat.le_refl _) (Old.start s) S1 S2 S3 I1 I2 I3 p e ha hc hk s m _ below hf ((Spec.applies_iff_loose hf).mp happ).1 ⟨rfl, State.Warmed39.refl s, rfl⟩ trivial
  refine ⟨n, _, h1, h2, h3, hpost _ _ _ _ _ _ ⟨Cond.after_iff.mpr rfl, Cond.after_iff.mpr (eq_i res_at (Term.int_eval (1)) rfl), trivial⟩ ⟨hq.1, hq.2.1, (hq.2.2.sift fun y hy => Or.inr (N y hy)).mono (by decide) (by decide)⟩⟩
theorem main_1_1 : Claimed_1_1 := comes_1 fun _ _ _ _ _ _ h hF => ⟨h.1, hF⟩
theorem main_1_2 : Claimed_1_2 := comes_1 fun _ _ _ _ _ _ h hF => ⟨h.2.1, hF⟩
end Jvm.Pilot.@@N@@
namespace Jvm.Pilot.@@N@@
open Jvm Jvm.ClassFile Sem Op Lib Jvm.Free Jvm.Stand Jvm.Pilot.@@N@@.Jvm.D
/-! MADE BY PROGRAM (witnessworld.py) out of the Statement's table words and the real class files: 13 classes; the members and pool entries that the words name. The judged class is class 1, her method 2. -/
namespace start1
open Jvm.ClassFile
def u (s : String) : CpInfo := .utf8 (stringToUtf16 s)
/-- a pool by its gaps: so many unusable entries, then the entry; so many at the end -/
def gap : Nat → List CpInfo → List CpInfo
  | 0, r => r
  | n + 1, r => .unusable :: gap n r
def poolList (es : List (Nat × CpInfo)) (last : Nat) : List CpInfo := es.foldr (fun e r => gap e.1 (e.2 :: r)) (gap last [])
def pool (es : List (Nat × CpInfo)) (last : Nat) : Array CpInfo := ⟨poolList es last⟩
def fileOf (pool : Array CpInfo) (this : Nat) (attrs : Array Attribute := #[]) (ms : Array MethodInfo := #[]) (fl : Nat := 33) (sup : Nat := 0) (ifs : Array Nat := #[]) (fds : Array FieldInfo := #[]) : ClassFile where
  minorVersion := 0
  majorVersion := 65
  constantPool := pool
  accessFlags := fl
  thisClass := this
  superClass := sup
  interfaces := ifs
  fields := fds
  methods := ms
  attributes := attrs
def plain (name : String) (sup : Option ClassId) : Class where
  name := name
  kind := .ordinary
  loader := none
  accessFlags := 33
  super := sup
  interfaces := #[]
  cf := none
  fields := #[]
  methods := #[]
  instanceTypes := #[]
  staticTypes := #[]
  resolved := #[]
  callSites := []
  init := .initialized
  statics := none
  mirror := none

def pool0 : Array CpInfo := pool [(5, u "<init>"), (0, u "()V"), (1, .class_ 10), (1, u "java/lang/Object")] 113

def k0m0 : Method := { name := "<init>", desc := "()V", sig := { parameters := [], returnType := none }, accessFlags := 1, code := none }
/-- java/lang/Object -/
def k0 : Class := { plain "java/lang/Object" none with
  accessFlags := 33
  interfaces := #[]
  cf := some (fileOf pool0 8 #[] #[{ accessFlags := 1, nameIndex := 5, descriptorIndex := 6, attributes := #[] }] 33 0 #[] #[])
  fields := #[]
  methods := #[k0m0]
  instanceTypes := #[]
  staticTypes := #[]
  resolved := Array.replicate 124 none
  statics := none }

def pool1 : Array CpInfo := pool [(2, .class_ 4), (1, u "java/lang/Object"), (0, u "<init>"), (0, u "()V"), (0, .fieldref 8 9), (0, .class_ 10), (0, .nameAndType 11 12), (0, u "com/example/notewright/notewright/Discounting"), (0, u "SEMIANNUAL_30_360"), (0, u "Lcom/example/notewright/notewright/Discounting;"), (0, .fieldref 8 14), (0, .nameAndType 15 12), (0, u "ANNUAL_ACTUAL_ACTUAL_ICMA"), (0, .methodref 8 17), (0, .nameAndType 18 19), (0, u "ofTermsFiles"), (0, u "()[Lcom/example/notewright/notewright/Discounting;"), (0, .methodref 21 22), (0, .class_ 23), (0, .nameAndType 24 25), (0, u "com/example/notewright/notewright/DiscountingOfTermsFilesPinLaw"), (0, u "isTheList"), (0, u "([Lcom/example/notewright/notewright/Discounting;)Z"), (0, .fieldref 8 27), (0, .nameAndType 28 12), (0, u "SEMIANNUAL_ACTUAL_ACTUAL_ICMA"), (3, u "law"), (0, u "(I)Z")] 4

def k1m0 : Method := { name := "<init>", desc := "()V", sig := { parameters := [], returnType := none }, accessFlags := 2, code := none }
def k1c1 : Code := { maxStack := 2, maxLocals := 1, code := method_2_code, exceptionTable := #[], attributes := #[] }
def k1m1 : Method := { name := "isTheList", desc := "([Lcom/example/notewright/notewright/Discounting;)Z", sig := { parameters := [(.array (.object "com/example/notewright/notewright/Discounting"))], returnType := some .boolean }, accessFlags := 10, code := some k1c1 }
def k1c2 : Code := { maxStack := 4, maxLocals := 4, code := code, exceptionTable := #[], attributes := #[] }
def k1m2 : Method := { name := "law", desc := "(I)Z", sig := { parameters := [.int], returnType := some .boolean }, accessFlags := 9, code := some k1c2 }
/-- com/example/notewright/notewright/DiscountingOfTermsFilesPinLaw -/
def k1 : Class := { plain "com/example/notewright/notewright/DiscountingOfTermsFilesPinLaw" (some 0) with
  accessFlags := 49
  interfaces := #[]
  cf := some (fileOf pool1 21 #[] #[{ accessFlags := 2, nameIndex := 5, descriptorIndex := 6, attributes := #[] }, { accessFlags := 10, nameIndex := 24, descriptorIndex := 25, attributes := #[] }, { accessFlags := 9, nameIndex := 32, descriptorIndex := 33, attributes := #[] }] 49 2 #[] #[])
  fields := #[]
  methods := #[k1m0, k1m1, k1m2]
  instanceTypes := #[]
  staticTypes := #[]
  resolved := Array.replicate 38 none
  statics := none }

def pool2 : Array CpInfo := pool [(1, .class_ 2), (0, u "java/lang/constant/Constable"), (0, .class_ 4), (0, u "java/lang/Object")] 6

/-- java/lang/constant/Constable -/
def k2 : Class := { plain "java/lang/constant/Constable" (some 0) with
  accessFlags := 1537
  interfaces := #[]
  cf := some (fileOf pool2 1 #[] #[] 1537 3 #[] #[])
  fields := #[]
  methods := #[]
  instanceTypes := #[]
  staticTypes := #[]
  resolved := Array.replicate 11 none
  statics := none }

def pool3 : Array CpInfo := pool [(1, .class_ 2), (0, u "java/lang/Comparable"), (0, .class_ 4), (0, u "java/lang/Object")] 7

/-- java/lang/Comparable -/
def k3 : Class := { plain "java/lang/Comparable" (some 0) with
  accessFlags := 1537
  interfaces := #[]
  cf := some (fileOf pool3 1 #[] #[] 1537 3 #[] #[])
  fields := #[]
  methods := #[]
  instanceTypes := #[]
  staticTypes := #[]
  resolved := Array.replicate 12 none
  statics := none }

def pool4 : Array CpInfo := pool [(1, .class_ 2), (0, u "java/io/Serializable"), (0, .class_ 4), (0, u "java/lang/Object")] 2

/-- java/io/Serializable -/
def k4 : Class := { plain "java/io/Serializable" (some 0) with
  accessFlags := 1537
  interfaces := #[]
  cf := some (fileOf pool4 1 #[] #[] 1537 3 #[] #[])
  fields := #[]
  methods := #[]
  instanceTypes := #[]
  staticTypes := #[]
  resolved := Array.replicate 7 none
  statics := none }

def pool5 : Array CpInfo := pool [(2, .class_ 4), (1, u "java/lang/Enum"), (0, u "name"), (0, u "Ljava/lang/String;"), (2, u "ordinal"), (0, u "I"), (1, .class_ 14), (1, u "java/lang/Object"), (4, u "hash"), (86, .class_ 108), (1, u "java/lang/Enum$EnumDesc"), (2, .class_ 112), (0, u "java/lang/constant/Constable"), (0, .class_ 114), (0, u "java/lang/Comparable"), (0, .class_ 116), (0, u "java/io/Serializable")] 87

/-- java/lang/Enum -/
def k5 : Class := { plain "java/lang/Enum" (some 0) with
  accessFlags := 1057
  interfaces := #[2, 3, 4]
  cf := some (fileOf pool5 2 #[.nestMembers #[106]] #[] 1057 12 #[111, 113, 115] #[{ accessFlags := 18, nameIndex := 5, descriptorIndex := 6, attributes := #[] }, { accessFlags := 18, nameIndex := 9, descriptorIndex := 10, attributes := #[] }, { accessFlags := 2, nameIndex := 19, descriptorIndex := 10, attributes := #[] }])
  fields := #[{ name := "name", type := (.object "java/lang/String"), accessFlags := 18, slot := 0, constantValue := 0 }, { name := "ordinal", type := .int, accessFlags := 18, slot := 1, constantValue := 0 }, { name := "hash", type := .int, accessFlags := 2, slot := 2, constantValue := 0 }]
  methods := #[]
  instanceTypes := #[(.object "java/lang/String"), .int, .int]
  staticTypes := #[]
  resolved := Array.replicate 204 none
  statics := none }

def pool6 : Array CpInfo := pool [(1, .class_ 2), (0, u "com/example/notewright/notewright/Discounting"), (0, .fieldref 1 4), (0, .nameAndType 5 6), (0, u "SEMIANNUAL_30_360"), (0, u "Lcom/example/notewright/notewright/Discounting;"), (0, .fieldref 1 8), (0, .nameAndType 9 6), (0, u "ANNUAL_ACTUAL_ACTUAL_ICMA"), (2, u "SEMIANNUAL_ACTUAL_ACTUAL_ICMA"), (2, u "$VALUES"), (0, u "[Lcom/example/notewright/notewright/Discounting;"), (6, .class_ 25), (1, u "java/lang/Enum"), (8, u "name"), (0, u "Ljava/lang/String;"), (2, u "perYear"), (0, u "I"), (47, u "()[Lcom/example/notewright/notewright/Discounting;"), (9, u "ofTermsFiles")] 9

def k6c0 : Code := { maxStack := 4, maxLocals := 0, code := prog_18_method_5_code, exceptionTable := #[], attributes := #[] }
def k6m0 : Method := { name := "ofTermsFiles", desc := "()[Lcom/example/notewright/notewright/Discounting;", sig := { parameters := [], returnType := some (.array (.object "com/example/notewright/notewright/Discounting")) }, accessFlags := 9, code := some k6c0 }
/-- com/example/notewright/notewright/Discounting -/
def k6 : Class := { plain "com/example/notewright/notewright/Discounting" (some 5) with
  accessFlags := 16433
  interfaces := #[]
  cf := some (fileOf pool6 1 #[] #[{ accessFlags := 9, nameIndex := 97, descriptorIndex := 87, attributes := #[] }] 16433 23 #[] #[{ accessFlags := 16409, nameIndex := 5, descriptorIndex := 6, attributes := #[] }, { accessFlags := 16409, nameIndex := 9, descriptorIndex := 6, attributes := #[] }, { accessFlags := 16409, nameIndex := 12, descriptorIndex := 6, attributes := #[] }, { accessFlags := 18, nameIndex := 34, descriptorIndex := 35, attributes := #[] }, { accessFlags := 18, nameIndex := 38, descriptorIndex := 39, attributes := #[] }, { accessFlags := 4122, nameIndex := 15, descriptorIndex := 16, attributes := #[] }])
  fields := #[{ name := "SEMIANNUAL_30_360", type := (.object "com/example/notewright/notewright/Discounting"), accessFlags := 16409, slot := 0, constantValue := 0 }, { name := "ANNUAL_ACTUAL_ACTUAL_ICMA", type := (.object "com/example/notewright/notewright/Discounting"), accessFlags := 16409, slot := 1, constantValue := 0 }, { name := "SEMIANNUAL_ACTUAL_ACTUAL_ICMA", type := (.object "com/example/notewright/notewright/Discounting"), accessFlags := 16409, slot := 2, constantValue := 0 }, { name := "name", type := (.object "java/lang/String"), accessFlags := 18, slot := 3, constantValue := 0 }, { name := "perYear", type := .int, accessFlags := 18, slot := 4, constantValue := 0 }, { name := "$VALUES", type := (.array (.object "com/example/notewright/notewright/Discounting")), accessFlags := 4122, slot := 3, constantValue := 0 }]
  methods := #[k6m0]
  instanceTypes := #[(.object "java/lang/String"), .int, .int, (.object "java/lang/String"), .int]
  staticTypes := #[(.object "com/example/notewright/notewright/Discounting"), (.object "com/example/notewright/notewright/Discounting"), (.object "com/example/notewright/notewright/Discounting"), (.array (.object "com/example/notewright/notewright/Discounting"))]
  resolved := Array.replicate 107 none
  statics := some 0 }

def pool7 : Array CpInfo := pool [(1, u "java/lang/Cloneable"), (0, .class_ 1), (0, u "java/lang/Object"), (0, .class_ 3)] 3

/-- java/lang/Cloneable -/
def k7 : Class := { plain "java/lang/Cloneable" (some 0) with
  accessFlags := 1537
  interfaces := #[]
  cf := some (fileOf pool7 2 #[] #[] 1537 4 #[] #[])
  fields := #[]
  methods := #[]
  instanceTypes := #[]
  staticTypes := #[]
  resolved := Array.replicate 8 none
  statics := none }

/-- the primitive byte -/
def k8 : Class := { plain "byte" none with kind := .primitive 'B', accessFlags := 0x411 }
/-- [B -/
def k9 : Class := { plain "[B" (some 0) with kind := .array 8 .byte, interfaces := #[7, 4], accessFlags := 1041 }

/-- the primitive int -/
def k10 : Class := { plain "int" none with kind := .primitive 'I', accessFlags := 0x411 }
/-- [I -/
def k11 : Class := { plain "[I" (some 0) with kind := .array 10 .int, interfaces := #[7, 4], accessFlags := 1041 }

/-- [Lcom/example/notewright/notewright/Discounting; -/
def k12 : Class := { plain "[Lcom/example/notewright/notewright/Discounting;" (some 0) with kind := .array 6 (.object "com/example/notewright/notewright/Discounting"), interfaces := #[7, 4], accessFlags := 1041 }

def heap : Heap := #[{ cls := 6, slots := #[.ref 1, .ref 2, .ref 3, .null], vm := .statics 6 },
  { cls := 6, slots := #[.null, .int 0, .int 0, .null, .int 0], vm := .none },
  { cls := 6, slots := #[.null, .int 1, .int 0, .null, .int 0], vm := .none },
  { cls := 6, slots := #[.null, .int 2, .int 0, .null, .int 0], vm := .none }]
def classes : Array Class := #[k0, k1, k2, k3, k4, k5, k6, k7, k8, k9, k10, k11, k12]
def interned : List (Array UInt16 × Addr) := []
def slotsUsed : Nat := 19
def theMethod : MethodId := ⟨1, 2⟩
def args0 : Array Value := #[.int 5]
def aboutOver (below : List Frame) : State where
  vm := { classes := classes, interned := interned.toArray }
  heap := heap
  slotsUsed := slotsUsed
  threads := #[{ frames := .invoking theMethod args0 :: below }]
def below0 : List Frame := [.native { method := ⟨0, 0⟩, args := #[] }]
def about1 : State := aboutOver below0
def p0 : Program := .bare "" "" ""
def e0 : Env := launch0.env 0 0 0
theorem w_frames : about1.frames = Frame.invoking theMethod args0 :: below0 := rfl
set_option maxRecDepth 65536 in
theorem w_args : argsFit about1.vm theMethod args0 = true := by decide +kernel
set_option maxRecDepth 65536 in
theorem w_heap : heapFits about1 = true := by decide +kernel
set_option maxRecDepth 65536 in
theorem w_runnable : about1.curStatus? = some .runnable := by decide +kernel
set_option maxRecDepth 65536 in
theorem w_alone : about1.alone = true := by decide +kernel
set_option maxRecDepth 65536 in
theorem w_named : about1.methodNamed? x = some theMethod := by decide +kernel
set_option maxRecDepth 65536 in
theorem w_hears : about1.hears theMethod below0 = true := by decide +kernel
set_option maxRecDepth 65536 in
theorem w_ripe : about1.ripe theMethod args0 below0 = true := by decide +kernel
theorem w_running : about1.status = .running := rfl
set_option maxRecDepth 65536 in
theorem w_room : about1.hasRoom e0.platform room_1 = true :=
  launch0.hasRoom_least _ room_1 (by decide +kernel) (by decide +kernel) (by decide +kernel) (by decide +kernel) (by decide +kernel) (by decide +kernel)
theorem allAtoms_all (ts : List Jvm.Cond) (a : Array Jvm.Value) (st : Jvm.State) : (allAtoms ts).before a st = ts.all (fun c => c.before a st) := by
  induction ts with
  | nil => rfl
  | cons c t ih =>
    show (Jvm.Cond.and c (allAtoms t)).before a st = _
    rw [Jvm.Cond.before_and, ih, List.all_cons]
def words1 : List Jvm.Cond := Jvm.Cond.code x code maxLocals ret :: tables_1
/-- a 'code' word, met by the world's own term for the bytes: nothing is compared byte by byte -/
theorem code_word {y : MethodName} {bytes : ByteArray} {mx : Nat} {rt : Option FieldType} {a : Array Value} {s : State} {m : MethodId} {meth : Method} {c : Code} (h1 : s.methodNamed? y = some m) (h2 : s.vm.method? m = some meth) (h3 : meth.code = some c) (h4 : c.code = bytes)
    (h5 : (c.maxLocals == mx && c.exceptionTable.isEmpty && decide (c.maxStack ≤ mostOperands) && decide (meth.sig.returnType = rt) && !meth.locks && decide (parseMethodDescriptor y.desc = some meth.sig)) = true) : (Jvm.Cond.code y bytes mx rt).before a s = true := by
  simp only [Bool.and_eq_true, beq_iff_eq, Bool.not_eq_true', decide_eq_true_eq] at h5
  obtain ⟨⟨⟨⟨⟨g1, g2⟩, g3⟩, g4⟩, g5⟩, g6⟩ := h5
  simp [Cond.before, Cond.holds, Cond.value, h1, h2, h3, h4, g1, g2, g3, g4, g5, g6]
def isCode : Jvm.Cond → Bool
  | .code _ _ _ _ => true
  | _ => false
theorem all_split {L : List Jvm.Cond} {P : Jvm.Cond → Bool} (h1 : L.all (fun c => isCode c || P c) = true) (h2 : ∀ c ∈ L.filter isCode, P c = true) : L.all P = true := by
  refine List.all_eq_true.mpr fun c hc => ?_
  have h := List.all_eq_true.mp h1 c hc
  rcases Bool.eq_false_or_eq_true (isCode c) with hi | hi
  · exact h2 c (List.mem_filter.mpr ⟨hc, hi⟩)
  · simpa [hi] using h
set_option maxRecDepth 65536 in
theorem w_c0 : (Jvm.Cond.code x code maxLocals ret).before args0 about1 = true := code_word (m := ⟨1, 2⟩) (meth := k1m2) (c := k1c2) (by decide +kernel) rfl rfl rfl (by decide +kernel)
set_option maxRecDepth 65536 in
theorem w_c1 : (Jvm.Cond.code ({ cls := "com/example/notewright/notewright/Discounting", name := "ofTermsFiles", desc := "()[Lcom/example/notewright/notewright/Discounting;" } : Jvm.MethodName) prog_18_method_5_code (0 : Nat) (Option.some (Jvm.ClassFile.FieldType.array (Jvm.ClassFile.FieldType.object "com/example/notewright/notewright/Discounting")))).before args0 about1 = true := code_word (m := ⟨6, 0⟩) (meth := k6m0) (c := k6c0) (by decide +kernel) rfl rfl rfl (by decide +kernel)
set_option maxRecDepth 65536 in
theorem w_c2 : (Jvm.Cond.code ({ cls := "com/example/notewright/notewright/DiscountingOfTermsFilesPinLaw", name := "isTheList", desc := "([Lcom/example/notewright/notewright/Discounting;)Z" } : Jvm.MethodName) method_2_code (1 : Nat) (Option.some Jvm.ClassFile.FieldType.boolean)).before args0 about1 = true := code_word (m := ⟨1, 1⟩) (meth := k1m1) (c := k1c1) (by decide +kernel) rfl rfl rfl (by decide +kernel)
def codes1 : List Jvm.Cond := [Jvm.Cond.code x code maxLocals ret, Jvm.Cond.code ({ cls := "com/example/notewright/notewright/Discounting", name := "ofTermsFiles", desc := "()[Lcom/example/notewright/notewright/Discounting;" } : Jvm.MethodName) prog_18_method_5_code (0 : Nat) (Option.some (Jvm.ClassFile.FieldType.array (Jvm.ClassFile.FieldType.object "com/example/notewright/notewright/Discounting"))), Jvm.Cond.code ({ cls := "com/example/notewright/notewright/DiscountingOfTermsFilesPinLaw", name := "isTheList", desc := "([Lcom/example/notewright/notewright/Discounting;)Z" } : Jvm.MethodName) method_2_code (1 : Nat) (Option.some Jvm.ClassFile.FieldType.boolean)]
set_option maxRecDepth 65536 in
theorem codes_eq : words1.filter isCode = codes1 := rfl
theorem w_codes : ∀ c ∈ words1.filter isCode, c.before args0 about1 = true := by
  rw [codes_eq]
  intro c hc
  simp only [codes1, List.mem_cons, List.not_mem_nil, or_false] at hc
  rcases hc with rfl | rfl | rfl
  · exact w_c0
  · exact w_c1
  · exact w_c2
set_option maxRecDepth 65536 in
theorem w_t1 : words1.all (fun c => isCode c || c.before args0 about1) = true := by decide +kernel
theorem w_tables : (allAtoms (Jvm.Cond.code x code maxLocals ret :: tables_1)).before args0 about1 = true := by
  rw [allAtoms_all]
  show words1.all (fun c => c.before args0 about1) = true
  refine all_split ?_ w_codes
  rw [w_t1]
set_option maxRecDepth 65536 in
theorem w_case : (Jvm.Cond.and given_1 narrow_1).before args0 about1 = true := by decide +kernel
theorem w_applies : (headSpec (Jvm.Cond.code x code maxLocals ret :: tables_1) room_1).applies x e0.platform about1 = true :=
  (Spec.applies_iff w_frames).mpr ⟨w_running, w_runnable, w_alone, w_named, w_hears, w_ripe, w_room, w_tables⟩
theorem atStart : AtStart classFile x code maxLocals ret World_1 tables_1 room_1 Calls_1 rest_1 Pre_1 launch0 p0 e0 about1 theMethod args0 below0 :=
  ⟨lists_1, trivial, launch0.admits_env _ _ _, launch0.least_env, fairChoices_fair.cas, fairChoices_fair.clock, w_frames, w_args, w_heap, w_applies, trivial, trivial, w_case⟩
end start1
theorem witness_1 : WitnessClaimed_1 := ⟨start1.p0, start1.e0, start1.about1, start1.theMethod, start1.args0, start1.below0, start1.atStart⟩
end Jvm.Pilot.@@N@@
