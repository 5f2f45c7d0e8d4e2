import JvmDerived
import JvmDerived.Pilot.@@N@@Statement
import JvmDerived.Pilot.@@N@@Code
set_option linter.unusedVariables false
set_option linter.unusedSimpArgs false
namespace Jvm.RoadKit
open Sem ClassFile Op Lib Jvm.Stand Jvm.Free Jvm.LawKit
section New
variable {p : Program} {l : Launch} {e : Env} {R : Room} {s : State} {m : MethodId} {args : Array Value} {below : List Frame} {meth : Method} {c : Code} {T : State} {locs : List Loc} {cells slots : Nat}
theorem retI (X : Stand p l e R s m args below meth c T locs cells slots) (hx : p.tables.exec = Jvm.exec) {pc : Nat} {Ls : Array Slot} {z : Int32} {rest : List Value} (hret : meth.sig.returnType = some .int) (hd : decode c.code pc = .ok (.ireturn, 1)) {fs : List Frame}
    (hl : ∀ (f : JFrame) (acts : List Action), f.method = m → f.locked = none → f.entered = [] → (doReturn e (T.setTop f) acts (some (.int z))).1 = T.setFrames fs) : Steps p.tables e below (T.setTop (mkF m pc Ls (.int z :: rest))) (T.setFrames fs) := by
  have hm' : T.vm.method? m = some meth := X.method'
  have hn : narrow .int (.int z) = .int z := rfl
  show Steps p.tables e below (T.setTop { method := m, pc := pc, locals := Ls, stack := _ :: rest, locked := none }) _
  jvm_step X.here [X.here.top, hx, hd, hm', hret, hn]
  first | (intro acts; rw [hl _ acts rfl rfl rfl]) | rw [hl _ _ rfl rfl rfl]
  exact Steps.refl _
end New
end Jvm.RoadKit
namespace Jvm.FP.Core
theorem own_four : val64 4616189618054758400 = .fin false (2 ^ 52) (-50) := by decide +kernel
theorem own_zero0 : val64 0 = .fin false 0 b64.qmin := by decide +kernel
/-- a whole number, not zero, below 2^53: its digits are full and its last digit's weight is at least 2^-52 -/
theorem own_norm {i : Int} {s : Bool} {c : Nat} {q : Int} (hW : Whole i (.fin s c q)) (hf : fits b64 (.fin s c q)) (hi : i ≠ 0) : b64.tails ≤ c ∧ -52 ≤ q ∧ q ≤ 971 ∧ c < 2 ^ 53 := by
  obtain ⟨hc, hq1, hq2, hcan⟩ := hf
  have hc' : c < 2 ^ 53 := hc
  have hq2' : q ≤ 971 := hq2
  have hlow : -52 ≤ q := by
    by_cases h : -52 ≤ q
    · exact h
    · exfalso
      have h1 : q.toNat = 0 := by omega
      have h2 : 53 ≤ (-q).toNat := by omega
      have e : signed s (c * 2 ^ q.toNat) = i * ((2 ^ (-q).toNat : Nat) : Int) := hW
      rw [h1] at e
      have e2 := congrArg Int.natAbs e
      rw [natAbs_signed, Int.natAbs_mul, Int.natAbs_natCast] at e2
      have h3 : 2 ^ 53 ≤ 2 ^ (-q).toNat := Nat.pow_le_pow_right (by decide) h2
      have h4 : 1 ≤ i.natAbs := by omega
      have h5 : 2 ^ (-q).toNat ≤ i.natAbs * 2 ^ (-q).toNat := Nat.le_mul_of_pos_left _ h4
      simp only [Nat.pow_zero, Nat.mul_one] at e2
      omega
  refine ⟨?_, hlow, hq2', hc'⟩
  rcases hcan with h | h
  · exfalso
    have : b64.qmin = -1074 := by decide
    omega
  · exact h
theorem own_order0 {s : Bool} {c : Nat} {q : Int} (hc : 0 < c) (hq : b64.qmin ≤ q) : order (.fin s c q) (.fin false 0 b64.qmin) = some (if s then .lt else .gt) := by
  show some (compare (signed s (inUnits c q (min q b64.qmin))) (signed false (inUnits 0 b64.qmin (min q b64.qmin)))) = _
  have hp : 0 < inUnits c q (min q b64.qmin) := Nat.mul_pos hc (Nat.two_pow_pos _)
  have hz : inUnits 0 b64.qmin (min q b64.qmin) = 0 := by unfold inUnits; simp
  rw [hz, signed_zero]
  cases s
  · have : (0 : Int) < signed false (inUnits c q (min q b64.qmin)) := by unfold signed; simp; omega
    rw [compare_ite, if_neg (by omega), if_neg (by omega)]; rfl
  · have : signed true (inUnits c q (min q b64.qmin)) < 0 := by unfold signed; simp; omega
    rw [compare_ite, if_pos this]; rfl
theorem own_quarter (x : Int32) : ddiv (i2d x) 4616189618054758400 = ddiv (i2d x) 4616189618054758400 ∧ val64 (ddiv (i2d x) 4616189618054758400) ≠ .nan ∧
    dcmp (ddiv (i2d x) 4616189618054758400) 0 = some (if x.toInt < 0 then .lt else if x.toInt = 0 then .eq else .gt) := by
  have hs : Small53 x.toInt64 := by
    have h1 := x.le_toInt; have h2 := x.toInt_lt
    unfold Small53; rw [Int32.toInt_toInt64]; omega
  have hx : i2d x = l2d x.toInt64 := i2d_l2d x
  have ht : x.toInt64.toInt = x.toInt := Int32.toInt_toInt64 x
  have hW := l2d_whole hs
  rw [ht] at hW
  obtain ⟨c, q, hv⟩ := l2d_shape x.toInt64
  rw [ht] at hv
  have hfit := val64_fits (l2d x.toInt64)
  rw [hv] at hW hfit
  have hd : val64 (ddiv (i2d x) 4616189618054758400) = roundRatio b64 (decide (x.toInt < 0) != false) c (2 ^ 52) (q - (-50)) := by
    rw [val64_ddiv, hx, hv, own_four]; rfl
  have hb : (decide (x.toInt < 0) != false) = decide (x.toInt < 0) := by cases decide (x.toInt < 0) <;> rfl
  rw [hb] at hd
  have hcmp : dcmp (ddiv (i2d x) 4616189618054758400) 0 = order (val64 (ddiv (i2d x) 4616189618054758400)) (val64 0) := rfl
  rw [own_zero0] at hcmp
  by_cases h0 : x.toInt = 0
  · have hc : c = 0 := (whole_zero hW).mpr h0
    have hd' : val64 (ddiv (i2d x) 4616189618054758400) = .fin (decide (x.toInt < 0)) 0 b64.qmin := by rw [hd]; unfold roundRatio; rw [if_pos hc]
    refine ⟨rfl, by rw [hd']; simp, ?_⟩
    rw [hcmp, hd', h0]
    decide
  · obtain ⟨n1, n2, n3, n4⟩ := own_norm hW hfit h0
    have hqm : b64.qmin = -1074 := by decide
    have hqM : b64.qmax = 971 := by decide
    have hfit' : fits b64 (.fin (decide (x.toInt < 0)) c (q - 2)) := ⟨n4, by omega, by omega, Or.inr n1⟩
    have hd' : val64 (ddiv (i2d x) 4616189618054758400) = .fin (decide (x.toInt < 0)) c (q - 2) := by
      rw [hd]
      refine roundRatio_exact good_b64 (by decide) hfit' ?_
      have e1 : ((q - (-50)) - (q - 2)).toNat = 52 := by omega
      have e2 : ((q - 2) - (q - (-50))).toNat = 0 := by omega
      rw [e1, e2]; simp
    have htl : 0 < c := Nat.lt_of_lt_of_le (tails_pos b64) n1
    refine ⟨rfl, by rw [hd']; simp, ?_⟩
    rw [hcmp, hd', own_order0 htl (by omega)]
    by_cases hn : x.toInt < 0
    · simp [hn]
    · simp [hn, h0]
end Jvm.FP.Core
namespace Jvm.Pilot.@@N@@
open Jvm Jvm.ClassFile Sem Op Lib Jvm.Free Jvm.Stand Jvm.LawKit Jvm.RoadKit Bundle Jvm.Pilot.@@N@@.Jvm.D
theorem own_nf {s : State} {args : Array Value} {y z w : MethodName} {C : String} (hs : (Jvm.Cond.selects C w z).before args s = true) (hz : z.cls = y.cls) : NotFace s y := fun r0 h0 => by
  obtain ⟨c2, r2, m2, -, -, q3, -, kP, hkP, hkPi⟩ := Cond.selects_spec hs
  have hc := findClass_of_methodNamed h0
  have hc2 := findClass_of_methodNamed q3
  rw [hz, hc] at hc2
  rw [← Option.some.inj hc2] at hkP
  exact ⟨kP, hkP, hkPi⟩
theorem own_same {s : State} {args : Array Value} {y z w : MethodName} {C : String} (hi : (Jvm.Cond.instanceMethod y).before args s = true) (hs : (Jvm.Cond.selects C w z).before args s = true) (hz : z.cls = y.cls) (hy : y.cls ≠ "java/lang/invoke/MethodHandle" ∧ y.cls ≠ "java/lang/invoke/VarHandle") : (Jvm.Cond.sameMethod y.cls y.cls y.name y.desc).before args s = true := by
  obtain ⟨c2, r2, m2, -, -, q3, -, kP, hkP, hkPi⟩ := Cond.selects_spec hs
  obtain ⟨mk, methM, hnamed, hmethM, -, -⟩ := Cond.instanceMethod_spec hi
  have hc := findClass_of_methodNamed hnamed
  have hc2 := findClass_of_methodNamed q3
  rw [hz, hc] at hc2
  rw [← Option.some.inj hc2] at hkP
  have hfound : s.methodFound? y.cls y.name y.desc = some mk := State.methodFound?_of_named hnamed hy
  have hn' : s.methodNamed? ⟨y.cls, y.name, y.desc⟩ = some mk := hnamed
  simp only [Cond.before, Cond.holds, Cond.value, hc, hfound, hn', hkP]
  simp [hkPi]
theorem own_selself {s : State} {args : Array Value} {y : MethodName} {C : String} (hs : (Jvm.Cond.selects C y y).before args s = true) (hp : s.PrivateAt y) (hi : (Jvm.Cond.instanceMethod y).before args s = true) (hy : y.cls ≠ "java/lang/invoke/MethodHandle" ∧ y.cls ≠ "java/lang/invoke/VarHandle") : (Jvm.Cond.selects y.cls y y).before args s = true := by
  obtain ⟨c2, r2, m2, -, -, q3, -, kP, hkP, hkPi⟩ := Cond.selects_spec hs
  exact selects_self_of_private (findClass_of_methodNamed q3) hkP hkPi hp hi hy
theorem own_oldsz {Z : State} {n0 : Nat} {h : Heap} (O : Old Z n0 h) : n0 ≤ h.size := O.1 ▸ O.2.1
theorem own_mem {x : Addr} {ws : List Addr} {n : Nat} (i : Nat) (h : ws[i]? = some x) : x ∈ ws ∨ n ≤ x := Or.inl (List.mem_of_getElem? h)
def own_gt (d : UInt64) : Int32 := cmpValue (FP.dcmp d FP.dconst0) .l
def own_need (hd dd : UInt64) (b ca sh : Int32) : Int32 := if (0 : Int32) < own_gt hd then (if ca = (0 : Int32) then (if sh = (0 : Int32) then (if (0 : Int32) < b then 1 else if (0 : Int32) < own_gt dd then 1 else 0) else 0) else 0) else 0
theorem own_pos (x : Int32) : (0 : Int32) < own_gt (FP.ddiv (FP.i2d x) (4616189618054758400 : UInt64)) ↔ (0 : Int32) < x := by
  have h : FP.dcmp (FP.ddiv (FP.i2d x) (4616189618054758400 : UInt64)) FP.dconst0 = _ := (FP.Core.own_quarter x).2.2
  unfold own_gt
  rw [h, Int32.lt_iff_toInt_lt (y := x)]
  have h0 : (0 : Int32).toInt = 0 := by decide
  rw [h0]
  by_cases h1 : x.toInt < 0
  · rw [if_pos h1]; constructor
    · intro q; exact absurd q (by decide)
    · intro q; omega
  · rw [if_neg h1]
    by_cases h2 : x.toInt = 0
    · rw [if_pos h2]; constructor
      · intro q; exact absurd q (by decide)
      · intro q; omega
    · rw [if_neg h2]; constructor
      · intro _; omega
      · intro _; decide
theorem own_nn (x : Int32) : Jvm.Free.Fl.NoNaN64 (FP.ddiv (FP.i2d x) (4616189618054758400 : UInt64)) := Jvm.Free.Fl.val64_no.mpr (FP.Core.own_quarter x).2.1
theorem own_nar0 : nar .boolean (0 : Int32) = 0 := by decide
theorem own_nar1 : nar .boolean (1 : Int32) = 1 := by decide
theorem d2_0 : decode jdk_30_method_1_code 0 = .ok (.aload_n 0, 1) := by decide +kernel
theorem d2_1 : decode jdk_30_method_1_code 1 = .ok (.invokespecial 1, 3) := by decide +kernel
theorem d2_4 : decode jdk_30_method_1_code 4 = .ok (.return_, 1) := by decide +kernel
theorem pn_0 : plainName "java/lang/Record" = true := by first | (simp [plainName, overriddenIn]; done) | decide +kernel
theorem ef_rm2 (m : MethodId) (x0 : Addr) : entryFrame m #[(.ref x0)] 1 = mkF m 0 #[.val (.ref x0)] [] := by first | (simp [entryFrame, mkF, argsToLocals, Value.category]; done) | rfl
def Q_rm2 (Z : State) (a1 : Addr) (h0 : Heap) (n0 : Nat) (v : Option Value) (h : Heap) (L : List Loc) : Prop := v = none ∧ Fr n0 L ∧ h = h0
set_option maxRecDepth 65536 in
set_option maxHeartbeats 40000000 in
theorem rm2 (l : Launch) (Z : State) (a0 : Array Value) (hw : ∀ d ∈ tables_1, d.before a0 Z = true) (ws : List Jvm.Cond) (a1 : Addr) (h0 : Heap) (n0 : Nat) (O0 : Old Z n0 h0) :
    MetFree l (⟨"java/lang/Record", "<init>", "()V"⟩ : MethodName) (head1 (Jvm.Cond.code (⟨"java/lang/Record", "<init>", "()V"⟩ : MethodName) jdk_30_method_1_code 1 none :: ws) ({ frames := 1, cells := 0, slots := 0, locals := 12 } : Room)) (fun a U => a = #[(.ref a1)] ∧ Z.Warmed39 U.vm ∧ U.heap = h0) (fun _ _ _ _ _ => True) (fun _ U o U' => ∃ v L, o = .returned v ∧ Q_rm2 Z a1 h0 n0 v U'.heap L ∧ FrameEnd U o U' L ({ frames := 1, cells := 0, slots := 0, locals := 12 } : Room).cells ({ frames := 1, cells := 0, slots := 0, locals := 12 } : Room).slots) := by
  refine MetFree.of_bodySF (plainFor_of_name pn_0) hisR ?_
  intro p e s m args below meth c s₁ Bd hml0 hP hK
  obtain ⟨rfl, hZ, hh⟩ := hP
  have hx := Bd.exec
  have hby := Bd.bytes
  have hml : c.maxLocals = 1 := hml0
  have hown : s.vm.findClass "java/lang/Record" = some m.cls := findClass_of_methodNamed Bd.named
  have hnm := (name_of_methodNamed Bd.named Bd.method).1
  have X0 : Stand p l e ({ frames := 1, cells := 0, slots := 0, locals := 12 } : Room) s m #[(.ref a1)] below meth c s₁ [] 0 0 := Stand.of_body Bd
  have e0 : s₁.heap = h0 := by rw [← hh, Bd.state]; rfl
  have N0 := Fr.nil n0
  have pre0 : ∀ t, Steps p.tables e below (s₁.setTop (mkF m 0 #[.val (.ref a1)] [])) t → Steps p.tables e below (s₁.setTop (entryFrame m #[(.ref a1)] 1)) t := fun t k => castTop (ef_rm2 m (a1)) k
  obtain ⟨T1, X1, e1, st1⟩ := initO X0 hx hZ hown (hw _ (List.mem_of_getElem? (i := 12) rfl)) (hw _ (List.mem_of_getElem? (i := 13) rfl)) (hw _ (List.mem_of_getElem? (i := 14) rfl)) e0 (g := (mkF m 1 #[.val (.ref a1)] [(.ref a1)])) rfl (by rw [hml]; rfl) rfl (hb hby d2_1) (by decide) (W := 0) (by show 2 * 0 + _ ≤ _; exact Nat.le_of_eq rfl) (by decide)
  obtain ⟨fs, hr, hrun, hended, hW, hsame⟩ := X1.leave (v := none) (fun _ => rfl)
  refine ⟨_, _, pre0 _ ?_, hrun, hended, _, _, rfl, ?_, ⟨_, rfl⟩, hW, hsame.mono (by decide) (by decide)⟩
  · show Steps p.tables e below (s₁.setTop (mkF m 0 #[.val (.ref a1)] [])) _
    refine XS.aloadN X0.here hx rfl (hb hby d2_0) rfl rfl ?_
    show Steps p.tables e below (s₁.setTop (mkF m 1 #[.val (.ref a1)] [(.ref a1)])) _
    refine st1 _ ?_
    show Steps p.tables e below (T1.setTop (mkF m 4 #[.val (.ref a1)] [])) _
    exact X1.returnOut hx Bd.returns (hb hby d2_4) hr
  · show Q_rm2 Z a1 h0 n0 _ T1.heap _
    rw [e1]
    exact ⟨rfl, N0, rfl⟩
theorem d1_0 : decode prog_63_method_1_code 0 = .ok (.aload_n 0, 1) := by decide +kernel
theorem d1_1 : decode prog_63_method_1_code 1 = .ok (.invokespecial 1, 3) := by decide +kernel
theorem d1_4 : decode prog_63_method_1_code 4 = .ok (.aload_n 0, 1) := by decide +kernel
theorem d1_5 : decode prog_63_method_1_code 5 = .ok (.aload_n 1, 1) := by decide +kernel
theorem d1_6 : decode prog_63_method_1_code 6 = .ok (.putfield 7, 3) := by decide +kernel
theorem d1_9 : decode prog_63_method_1_code 9 = .ok (.aload_n 0, 1) := by decide +kernel
theorem d1_10 : decode prog_63_method_1_code 10 = .ok (.aload_n 2, 1) := by decide +kernel
theorem d1_11 : decode prog_63_method_1_code 11 = .ok (.putfield 13, 3) := by decide +kernel
theorem d1_14 : decode prog_63_method_1_code 14 = .ok (.aload_n 0, 1) := by decide +kernel
theorem d1_15 : decode prog_63_method_1_code 15 = .ok (.dload_n 3, 1) := by decide +kernel
theorem d1_16 : decode prog_63_method_1_code 16 = .ok (.putfield 17, 3) := by decide +kernel
theorem d1_19 : decode prog_63_method_1_code 19 = .ok (.aload_n 0, 1) := by decide +kernel
theorem d1_20 : decode prog_63_method_1_code 20 = .ok (.dload 5, 2) := by decide +kernel
theorem d1_22 : decode prog_63_method_1_code 22 = .ok (.putfield 21, 3) := by decide +kernel
theorem d1_25 : decode prog_63_method_1_code 25 = .ok (.aload_n 0, 1) := by decide +kernel
theorem d1_26 : decode prog_63_method_1_code 26 = .ok (.iload 7, 2) := by decide +kernel
theorem d1_28 : decode prog_63_method_1_code 28 = .ok (.putfield 24, 3) := by decide +kernel
theorem d1_31 : decode prog_63_method_1_code 31 = .ok (.aload_n 0, 1) := by decide +kernel
theorem d1_32 : decode prog_63_method_1_code 32 = .ok (.iload 8, 2) := by decide +kernel
theorem d1_34 : decode prog_63_method_1_code 34 = .ok (.putfield 28, 3) := by decide +kernel
theorem d1_37 : decode prog_63_method_1_code 37 = .ok (.aload_n 0, 1) := by decide +kernel
theorem d1_38 : decode prog_63_method_1_code 38 = .ok (.iload 9, 2) := by decide +kernel
theorem d1_40 : decode prog_63_method_1_code 40 = .ok (.putfield 32, 3) := by decide +kernel
theorem d1_43 : decode prog_63_method_1_code 43 = .ok (.return_, 1) := by decide +kernel
theorem pd_0 : parseMethodDescriptor "()V" = some ⟨[], none⟩ := by decide +kernel
theorem pn_1 : plainName "com/example/musterpoint/musterpoint/world/CivilianSighting" = true := by first | (simp [plainName, overriddenIn]; done) | decide +kernel
theorem ef_rm1 (m : MethodId) (x0 : Addr) (x3 : UInt64) (x4 : UInt64) (x5 : Int32) (x6 : Int32) (x7 : Int32) : entryFrame m #[(.ref x0), .null, .null, (.double x3), (.double x4), (.int x5), (.int x6), (.int x7)] 10 = mkF m 0 #[.val (.ref x0), .val .null, .val .null, .val (.double x3), .second, .val (.double x4), .second, .val (.int x5), .val (.int x6), .val (.int x7)] [] := by first | (simp [entryFrame, mkF, argsToLocals, Value.category]; done) | rfl
def Q_rm1 (Z : State) (a1 : Addr) (d4 : UInt64) (d5 : UInt64) (p6 : Int32) (p7 : Int32) (p8 : Int32) (h0 : Heap) (n0 : Nat) (v : Option Value) (h : Heap) (L : List Loc) : Prop := v = none ∧ Fr n0 L ∧ Keep h0 h [a1] ∧ Exa Z h a1 "com/example/musterpoint/musterpoint/world/CivilianSighting" ∧ Fld Z h a1 "com/example/musterpoint/musterpoint/world/CivilianSighting" "health" "D" (.double d4) ∧ Fld Z h a1 "com/example/musterpoint/musterpoint/world/CivilianSighting" "damage" "D" (.double d5) ∧ Fld Z h a1 "com/example/musterpoint/musterpoint/world/CivilianSighting" "buriedness" "I" (.int p6) ∧ Fld Z h a1 "com/example/musterpoint/musterpoint/world/CivilianSighting" "carried" "Z" (.int (nar .boolean p7)) ∧ Fld Z h a1 "com/example/musterpoint/musterpoint/world/CivilianSighting" "sheltered" "Z" (.int (nar .boolean p8))
set_option maxRecDepth 65536 in
set_option maxHeartbeats 40000000 in
theorem rm1 (l : Launch) (Z : State) (a0 : Array Value) (hw : ∀ d ∈ tables_1, d.before a0 Z = true) (ws : List Jvm.Cond) (a1 : Addr) (d4 : UInt64) (d5 : UInt64) (p6 : Int32) (p7 : Int32) (p8 : Int32) (h0 : Heap) (n0 : Nat) (O0 : Old Z n0 h0) (E_a1 : Exa Z h0 a1 "com/example/musterpoint/musterpoint/world/CivilianSighting") (F_a1_civilian : Fld Z h0 a1 "com/example/musterpoint/musterpoint/world/CivilianSighting" "civilian" "Lcom/example/musterpoint/musterpoint/world/Civilian;" .null) (F_a1_area : Fld Z h0 a1 "com/example/musterpoint/musterpoint/world/CivilianSighting" "area" "Lcom/example/musterpoint/musterpoint/world/Area;" .null) (F_a1_health : Fld Z h0 a1 "com/example/musterpoint/musterpoint/world/CivilianSighting" "health" "D" (.double (0 : UInt64))) (F_a1_damage : Fld Z h0 a1 "com/example/musterpoint/musterpoint/world/CivilianSighting" "damage" "D" (.double (0 : UInt64))) (F_a1_buriedness : Fld Z h0 a1 "com/example/musterpoint/musterpoint/world/CivilianSighting" "buriedness" "I" (.int (0 : Int32))) (F_a1_carried : Fld Z h0 a1 "com/example/musterpoint/musterpoint/world/CivilianSighting" "carried" "Z" (.int (0 : Int32))) (F_a1_sheltered : Fld Z h0 a1 "com/example/musterpoint/musterpoint/world/CivilianSighting" "sheltered" "Z" (.int (0 : Int32))) (g_a1 : n0 ≤ a1) :
    MetFree l (⟨"com/example/musterpoint/musterpoint/world/CivilianSighting", "<init>", "(Lcom/example/musterpoint/musterpoint/world/Civilian;Lcom/example/musterpoint/musterpoint/world/Area;DDIZZ)V"⟩ : MethodName) (head1 (Jvm.Cond.code (⟨"com/example/musterpoint/musterpoint/world/CivilianSighting", "<init>", "(Lcom/example/musterpoint/musterpoint/world/Civilian;Lcom/example/musterpoint/musterpoint/world/Area;DDIZZ)V"⟩ : MethodName) prog_63_method_1_code 10 none :: ws) ({ frames := 2, cells := 0, slots := 0, locals := 24 } : Room)) (fun a U => a = #[(.ref a1), .null, .null, (.double d4), (.double d5), (.int p6), (.int p7), (.int p8)] ∧ Z.Warmed39 U.vm ∧ U.heap = h0) (fun _ _ _ _ _ => True) (fun _ U o U' => ∃ v L, o = .returned v ∧ Q_rm1 Z a1 d4 d5 p6 p7 p8 h0 n0 v U'.heap L ∧ FrameEnd U o U' L ({ frames := 2, cells := 0, slots := 0, locals := 24 } : Room).cells ({ frames := 2, cells := 0, slots := 0, locals := 24 } : Room).slots) := by
  refine MetFree.of_bodySF (plainFor_of_name pn_1) hisR ?_
  intro p e s m args below meth c s₁ Bd hml0 hP hK
  obtain ⟨rfl, hZ, hh⟩ := hP
  have hx := Bd.exec
  have hby := Bd.bytes
  have hml : c.maxLocals = 10 := hml0
  have hown : s.vm.findClass "com/example/musterpoint/musterpoint/world/CivilianSighting" = some m.cls := findClass_of_methodNamed Bd.named
  have hnm := (name_of_methodNamed Bd.named Bd.method).1
  have X0 : Stand p l e ({ frames := 2, cells := 0, slots := 0, locals := 24 } : Room) s m #[(.ref a1), .null, .null, (.double d4), (.double d5), (.int p6), (.int p7), (.int p8)] below meth c s₁ [] 0 0 := Stand.of_body Bd
  have e0 : s₁.heap = h0 := by rw [← hh, Bd.state]; rfl
  have N0 := Fr.nil n0
  have pre0 : ∀ t, Steps p.tables e below (s₁.setTop (mkF m 0 #[.val (.ref a1), .val .null, .val .null, .val (.double d4), .second, .val (.double d5), .second, .val (.int p6), .val (.int p7), .val (.int p8)] [])) t → Steps p.tables e below (s₁.setTop (entryFrame m #[(.ref a1), .null, .null, (.double d4), (.double d5), (.int p6), (.int p7), (.int p8)] 10)) t := fun t k => castTop (ef_rm1 m (a1) (d4) (d5) (p6) (p7) (p8)) k
  obtain ⟨_, _, ⟨T1, L1, k1, n1⟩, -, X1, ⟨Lc1, hQ1, l1, y1, z1⟩, st1⟩ := X0.specialBack hx (y := (⟨"java/lang/Record", "<init>", "()V"⟩ : MethodName)) rfl hown (mvT hZ (hw _ (List.mem_of_getElem? (i := 7) rfl))) (mvT hZ (hw _ (List.mem_of_getElem? (i := 8) rfl))) (mvT hZ (hw _ (List.mem_of_getElem? (i := 11) rfl))) (by decide) (backOf (W := 0) (rm2 l Z a0 hw [] a1 h0 n0 O0) hZ (hw _ (List.mem_of_getElem? (i := 11) rfl)) (hw _ (List.mem_of_getElem? (i := 10) rfl)) (by decide) (by decide)) (g := (mkF m 1 #[.val (.ref a1), .val .null, .val .null, .val (.double d4), .second, .val (.double d5), .second, .val (.int p6), .val (.int p7), .val (.int p8)] [(.ref a1)])) rfl (by rw [hml]; rfl) (Steps.refl _) (a := a1) (argsL := []) (rest := []) (lenOf pd_0 rfl) rfl (by show 2 * 0 + _ ≤ _; exact Nat.le_of_eq rfl) (hb hby d1_1) (fun _ _ => ⟨rfl, e0, (by decide : 0 + 0 ≤ _), (by decide : 0 + 0 ≤ _)⟩)
  dsimp only [Pt.U, Pt.locs, Pt.cells, Pt.slots] at X1 l1 y1 z1 st1 hQ1
  subst l1 y1 z1
  obtain ⟨rfl, N1q, e1⟩ := hQ1
  have N1 := Fr.app N0 N1q
  obtain ⟨T2, h2, X2, e2, W2, st2⟩ := putF X1 hx hZ hown (host := "") (Or.inl (hw _ (List.mem_of_getElem? (i := 15) rfl))) Via.refl e1 F_a1_civilian E_a1 (Or.inr ⟨(hw _ (List.mem_of_getElem? (i := 16) rfl)), rfl, hnm⟩) (hw _ (List.mem_of_getElem? (i := 2) rfl)) (ty := (.object "com/example/musterpoint/musterpoint/world/Civilian")) (by decide) rfl rfl (g := (mkF m 6 #[.val (.ref a1), .val .null, .val .null, .val (.double d4), .second, .val (.double d5), .second, .val (.int p6), .val (.int p7), .val (.int p8)] [.null, (.ref a1)])) rfl rfl (hb hby d1_6)
  have Fw2 : Fld Z h2 a1 "com/example/musterpoint/musterpoint/world/CivilianSighting" "civilian" "Lcom/example/musterpoint/musterpoint/world/Civilian;" .null := Fld.same W2 F_a1_civilian
  have N2 := Fr.snoc X2 N1 g_a1
  have Zn2 : n0 ≤ h2.size := Nat.le_trans (own_oldsz O0) (Keep.of_wr W2).1
  have K2 : Keep h0 h2 [a1] := (Keep.refl h0 [a1]).wr W2 (Or.inl (List.mem_of_getElem? (i := 0) rfl))
  have O2 := O0.wr W2 g_a1
  obtain ⟨T3, h3, X3, e3, W3, st3⟩ := putF X2 hx hZ hown (host := "") (Or.inl (hw _ (List.mem_of_getElem? (i := 17) rfl))) Via.refl e2 (F_a1_area.other W2 (Or.inr (slot_ne (Or.inr (hw _ (List.mem_of_getElem? (i := 18) rfl))) (Or.inr (hw _ (List.mem_of_getElem? (i := 16) rfl))) (by decide) (t := (.object "com/example/musterpoint/musterpoint/world/Area")) (t' := (.object "com/example/musterpoint/musterpoint/world/Civilian")) (by decide) (by decide)))) (E_a1.wr W2) (Or.inr ⟨(hw _ (List.mem_of_getElem? (i := 18) rfl)), rfl, hnm⟩) (hw _ (List.mem_of_getElem? (i := 2) rfl)) (ty := (.object "com/example/musterpoint/musterpoint/world/Area")) (by decide) rfl rfl (g := (mkF m 11 #[.val (.ref a1), .val .null, .val .null, .val (.double d4), .second, .val (.double d5), .second, .val (.int p6), .val (.int p7), .val (.int p8)] [.null, (.ref a1)])) rfl rfl (hb hby d1_11)
  have Fw3 : Fld Z h3 a1 "com/example/musterpoint/musterpoint/world/CivilianSighting" "area" "Lcom/example/musterpoint/musterpoint/world/Area;" .null := Fld.same W3 (F_a1_area.other W2 (Or.inr (slot_ne (Or.inr (hw _ (List.mem_of_getElem? (i := 18) rfl))) (Or.inr (hw _ (List.mem_of_getElem? (i := 16) rfl))) (by decide) (t := (.object "com/example/musterpoint/musterpoint/world/Area")) (t' := (.object "com/example/musterpoint/musterpoint/world/Civilian")) (by decide) (by decide))))
  have N3 := Fr.snoc X3 N2 g_a1
  have Zn3 : n0 ≤ h3.size := Nat.le_trans Zn2 (Keep.of_wr W3).1
  have K3 : Keep h0 h3 [a1] := K2.wr W3 (Or.inl (List.mem_of_getElem? (i := 0) rfl))
  have O3 := O2.wr W3 g_a1
  obtain ⟨T4, h4, X4, e4, W4, st4⟩ := putF X3 hx hZ hown (host := "") (Or.inl (hw _ (List.mem_of_getElem? (i := 19) rfl))) Via.refl e3 ((F_a1_health.other W2 (Or.inr (slot_ne (Or.inr (hw _ (List.mem_of_getElem? (i := 20) rfl))) (Or.inr (hw _ (List.mem_of_getElem? (i := 16) rfl))) (by decide) (t := .double) (t' := (.object "com/example/musterpoint/musterpoint/world/Civilian")) (by decide) (by decide)))).other W3 (Or.inr (slot_ne (Or.inr (hw _ (List.mem_of_getElem? (i := 20) rfl))) (Or.inr (hw _ (List.mem_of_getElem? (i := 18) rfl))) (by decide) (t := .double) (t' := (.object "com/example/musterpoint/musterpoint/world/Area")) (by decide) (by decide)))) ((E_a1.wr W2).wr W3) (Or.inr ⟨(hw _ (List.mem_of_getElem? (i := 20) rfl)), rfl, hnm⟩) (hw _ (List.mem_of_getElem? (i := 2) rfl)) (ty := .double) (by decide) rfl rfl (g := (mkF m 16 #[.val (.ref a1), .val .null, .val .null, .val (.double d4), .second, .val (.double d5), .second, .val (.int p6), .val (.int p7), .val (.int p8)] [(.double d4), (.ref a1)])) rfl rfl (hb hby d1_16)
  have Fw4 : Fld Z h4 a1 "com/example/musterpoint/musterpoint/world/CivilianSighting" "health" "D" (.double d4) := Fld.same W4 ((F_a1_health.other W2 (Or.inr (slot_ne (Or.inr (hw _ (List.mem_of_getElem? (i := 20) rfl))) (Or.inr (hw _ (List.mem_of_getElem? (i := 16) rfl))) (by decide) (t := .double) (t' := (.object "com/example/musterpoint/musterpoint/world/Civilian")) (by decide) (by decide)))).other W3 (Or.inr (slot_ne (Or.inr (hw _ (List.mem_of_getElem? (i := 20) rfl))) (Or.inr (hw _ (List.mem_of_getElem? (i := 18) rfl))) (by decide) (t := .double) (t' := (.object "com/example/musterpoint/musterpoint/world/Area")) (by decide) (by decide))))
  have N4 := Fr.snoc X4 N3 g_a1
  have Zn4 : n0 ≤ h4.size := Nat.le_trans Zn3 (Keep.of_wr W4).1
  have K4 : Keep h0 h4 [a1] := K3.wr W4 (Or.inl (List.mem_of_getElem? (i := 0) rfl))
  have O4 := O3.wr W4 g_a1
  obtain ⟨T5, h5, X5, e5, W5, st5⟩ := putF X4 hx hZ hown (host := "") (Or.inl (hw _ (List.mem_of_getElem? (i := 21) rfl))) Via.refl e4 (((F_a1_damage.other W2 (Or.inr (slot_ne (Or.inr (hw _ (List.mem_of_getElem? (i := 22) rfl))) (Or.inr (hw _ (List.mem_of_getElem? (i := 16) rfl))) (by decide) (t := .double) (t' := (.object "com/example/musterpoint/musterpoint/world/Civilian")) (by decide) (by decide)))).other W3 (Or.inr (slot_ne (Or.inr (hw _ (List.mem_of_getElem? (i := 22) rfl))) (Or.inr (hw _ (List.mem_of_getElem? (i := 18) rfl))) (by decide) (t := .double) (t' := (.object "com/example/musterpoint/musterpoint/world/Area")) (by decide) (by decide)))).other W4 (Or.inr (slot_ne (Or.inr (hw _ (List.mem_of_getElem? (i := 22) rfl))) (Or.inr (hw _ (List.mem_of_getElem? (i := 20) rfl))) (by decide) (t := .double) (t' := .double) (by decide) (by decide)))) (((E_a1.wr W2).wr W3).wr W4) (Or.inr ⟨(hw _ (List.mem_of_getElem? (i := 22) rfl)), rfl, hnm⟩) (hw _ (List.mem_of_getElem? (i := 2) rfl)) (ty := .double) (by decide) rfl rfl (g := (mkF m 22 #[.val (.ref a1), .val .null, .val .null, .val (.double d4), .second, .val (.double d5), .second, .val (.int p6), .val (.int p7), .val (.int p8)] [(.double d5), (.ref a1)])) rfl rfl (hb hby d1_22)
  have Fw5 : Fld Z h5 a1 "com/example/musterpoint/musterpoint/world/CivilianSighting" "damage" "D" (.double d5) := Fld.same W5 (((F_a1_damage.other W2 (Or.inr (slot_ne (Or.inr (hw _ (List.mem_of_getElem? (i := 22) rfl))) (Or.inr (hw _ (List.mem_of_getElem? (i := 16) rfl))) (by decide) (t := .double) (t' := (.object "com/example/musterpoint/musterpoint/world/Civilian")) (by decide) (by decide)))).other W3 (Or.inr (slot_ne (Or.inr (hw _ (List.mem_of_getElem? (i := 22) rfl))) (Or.inr (hw _ (List.mem_of_getElem? (i := 18) rfl))) (by decide) (t := .double) (t' := (.object "com/example/musterpoint/musterpoint/world/Area")) (by decide) (by decide)))).other W4 (Or.inr (slot_ne (Or.inr (hw _ (List.mem_of_getElem? (i := 22) rfl))) (Or.inr (hw _ (List.mem_of_getElem? (i := 20) rfl))) (by decide) (t := .double) (t' := .double) (by decide) (by decide))))
  have N5 := Fr.snoc X5 N4 g_a1
  have Zn5 : n0 ≤ h5.size := Nat.le_trans Zn4 (Keep.of_wr W5).1
  have K5 : Keep h0 h5 [a1] := K4.wr W5 (Or.inl (List.mem_of_getElem? (i := 0) rfl))
  have O5 := O4.wr W5 g_a1
  obtain ⟨T6, h6, X6, e6, W6, st6⟩ := putF X5 hx hZ hown (host := "") (Or.inl (hw _ (List.mem_of_getElem? (i := 23) rfl))) Via.refl e5 ((((F_a1_buriedness.other W2 (Or.inr (slot_ne (Or.inr (hw _ (List.mem_of_getElem? (i := 24) rfl))) (Or.inr (hw _ (List.mem_of_getElem? (i := 16) rfl))) (by decide) (t := .int) (t' := (.object "com/example/musterpoint/musterpoint/world/Civilian")) (by decide) (by decide)))).other W3 (Or.inr (slot_ne (Or.inr (hw _ (List.mem_of_getElem? (i := 24) rfl))) (Or.inr (hw _ (List.mem_of_getElem? (i := 18) rfl))) (by decide) (t := .int) (t' := (.object "com/example/musterpoint/musterpoint/world/Area")) (by decide) (by decide)))).other W4 (Or.inr (slot_ne (Or.inr (hw _ (List.mem_of_getElem? (i := 24) rfl))) (Or.inr (hw _ (List.mem_of_getElem? (i := 20) rfl))) (by decide) (t := .int) (t' := .double) (by decide) (by decide)))).other W5 (Or.inr (slot_ne (Or.inr (hw _ (List.mem_of_getElem? (i := 24) rfl))) (Or.inr (hw _ (List.mem_of_getElem? (i := 22) rfl))) (by decide) (t := .int) (t' := .double) (by decide) (by decide)))) ((((E_a1.wr W2).wr W3).wr W4).wr W5) (Or.inr ⟨(hw _ (List.mem_of_getElem? (i := 24) rfl)), rfl, hnm⟩) (hw _ (List.mem_of_getElem? (i := 2) rfl)) (ty := .int) (by decide) rfl rfl (g := (mkF m 28 #[.val (.ref a1), .val .null, .val .null, .val (.double d4), .second, .val (.double d5), .second, .val (.int p6), .val (.int p7), .val (.int p8)] [(.int p6), (.ref a1)])) rfl rfl (hb hby d1_28)
  have Fw6 : Fld Z h6 a1 "com/example/musterpoint/musterpoint/world/CivilianSighting" "buriedness" "I" (.int p6) := Fld.same W6 ((((F_a1_buriedness.other W2 (Or.inr (slot_ne (Or.inr (hw _ (List.mem_of_getElem? (i := 24) rfl))) (Or.inr (hw _ (List.mem_of_getElem? (i := 16) rfl))) (by decide) (t := .int) (t' := (.object "com/example/musterpoint/musterpoint/world/Civilian")) (by decide) (by decide)))).other W3 (Or.inr (slot_ne (Or.inr (hw _ (List.mem_of_getElem? (i := 24) rfl))) (Or.inr (hw _ (List.mem_of_getElem? (i := 18) rfl))) (by decide) (t := .int) (t' := (.object "com/example/musterpoint/musterpoint/world/Area")) (by decide) (by decide)))).other W4 (Or.inr (slot_ne (Or.inr (hw _ (List.mem_of_getElem? (i := 24) rfl))) (Or.inr (hw _ (List.mem_of_getElem? (i := 20) rfl))) (by decide) (t := .int) (t' := .double) (by decide) (by decide)))).other W5 (Or.inr (slot_ne (Or.inr (hw _ (List.mem_of_getElem? (i := 24) rfl))) (Or.inr (hw _ (List.mem_of_getElem? (i := 22) rfl))) (by decide) (t := .int) (t' := .double) (by decide) (by decide))))
  have N6 := Fr.snoc X6 N5 g_a1
  have Zn6 : n0 ≤ h6.size := Nat.le_trans Zn5 (Keep.of_wr W6).1
  have K6 : Keep h0 h6 [a1] := K5.wr W6 (Or.inl (List.mem_of_getElem? (i := 0) rfl))
  have O6 := O5.wr W6 g_a1
  obtain ⟨T7, h7, X7, e7, W7, st7⟩ := putFN X6 hx hZ hown (hw _ (List.mem_of_getElem? (i := 25) rfl)) Via.refl e6 (((((F_a1_carried.other W2 (Or.inr (slot_ne (Or.inr (hw _ (List.mem_of_getElem? (i := 26) rfl))) (Or.inr (hw _ (List.mem_of_getElem? (i := 16) rfl))) (by decide) (t := .boolean) (t' := (.object "com/example/musterpoint/musterpoint/world/Civilian")) (by decide) (by decide)))).other W3 (Or.inr (slot_ne (Or.inr (hw _ (List.mem_of_getElem? (i := 26) rfl))) (Or.inr (hw _ (List.mem_of_getElem? (i := 18) rfl))) (by decide) (t := .boolean) (t' := (.object "com/example/musterpoint/musterpoint/world/Area")) (by decide) (by decide)))).other W4 (Or.inr (slot_ne (Or.inr (hw _ (List.mem_of_getElem? (i := 26) rfl))) (Or.inr (hw _ (List.mem_of_getElem? (i := 20) rfl))) (by decide) (t := .boolean) (t' := .double) (by decide) (by decide)))).other W5 (Or.inr (slot_ne (Or.inr (hw _ (List.mem_of_getElem? (i := 26) rfl))) (Or.inr (hw _ (List.mem_of_getElem? (i := 22) rfl))) (by decide) (t := .boolean) (t' := .double) (by decide) (by decide)))).other W6 (Or.inr (slot_ne (Or.inr (hw _ (List.mem_of_getElem? (i := 26) rfl))) (Or.inr (hw _ (List.mem_of_getElem? (i := 24) rfl))) (by decide) (t := .boolean) (t' := .int) (by decide) (by decide)))) (((((E_a1.wr W2).wr W3).wr W4).wr W5).wr W6) (Or.inr ⟨(hw _ (List.mem_of_getElem? (i := 26) rfl)), rfl, hnm⟩) (hw _ (List.mem_of_getElem? (i := 2) rfl)) (ty := .boolean) (v' := (.int (nar .boolean p7))) (by decide) rfl (fits_nar_bool _) (g := (mkF m 34 #[.val (.ref a1), .val .null, .val .null, .val (.double d4), .second, .val (.double d5), .second, .val (.int p6), .val (.int p7), .val (.int p8)] [(.int p7), (.ref a1)])) rfl rfl (hb hby d1_34)
  have Fw7 : Fld Z h7 a1 "com/example/musterpoint/musterpoint/world/CivilianSighting" "carried" "Z" (.int (nar .boolean p7)) := Fld.same W7 (((((F_a1_carried.other W2 (Or.inr (slot_ne (Or.inr (hw _ (List.mem_of_getElem? (i := 26) rfl))) (Or.inr (hw _ (List.mem_of_getElem? (i := 16) rfl))) (by decide) (t := .boolean) (t' := (.object "com/example/musterpoint/musterpoint/world/Civilian")) (by decide) (by decide)))).other W3 (Or.inr (slot_ne (Or.inr (hw _ (List.mem_of_getElem? (i := 26) rfl))) (Or.inr (hw _ (List.mem_of_getElem? (i := 18) rfl))) (by decide) (t := .boolean) (t' := (.object "com/example/musterpoint/musterpoint/world/Area")) (by decide) (by decide)))).other W4 (Or.inr (slot_ne (Or.inr (hw _ (List.mem_of_getElem? (i := 26) rfl))) (Or.inr (hw _ (List.mem_of_getElem? (i := 20) rfl))) (by decide) (t := .boolean) (t' := .double) (by decide) (by decide)))).other W5 (Or.inr (slot_ne (Or.inr (hw _ (List.mem_of_getElem? (i := 26) rfl))) (Or.inr (hw _ (List.mem_of_getElem? (i := 22) rfl))) (by decide) (t := .boolean) (t' := .double) (by decide) (by decide)))).other W6 (Or.inr (slot_ne (Or.inr (hw _ (List.mem_of_getElem? (i := 26) rfl))) (Or.inr (hw _ (List.mem_of_getElem? (i := 24) rfl))) (by decide) (t := .boolean) (t' := .int) (by decide) (by decide))))
  have N7 := Fr.snoc X7 N6 g_a1
  have Zn7 : n0 ≤ h7.size := Nat.le_trans Zn6 (Keep.of_wr W7).1
  have K7 : Keep h0 h7 [a1] := K6.wr W7 (Or.inl (List.mem_of_getElem? (i := 0) rfl))
  have O7 := O6.wr W7 g_a1
  obtain ⟨T8, h8, X8, e8, W8, st8⟩ := putFN X7 hx hZ hown (hw _ (List.mem_of_getElem? (i := 27) rfl)) Via.refl e7 ((((((F_a1_sheltered.other W2 (Or.inr (slot_ne (Or.inr (hw _ (List.mem_of_getElem? (i := 28) rfl))) (Or.inr (hw _ (List.mem_of_getElem? (i := 16) rfl))) (by decide) (t := .boolean) (t' := (.object "com/example/musterpoint/musterpoint/world/Civilian")) (by decide) (by decide)))).other W3 (Or.inr (slot_ne (Or.inr (hw _ (List.mem_of_getElem? (i := 28) rfl))) (Or.inr (hw _ (List.mem_of_getElem? (i := 18) rfl))) (by decide) (t := .boolean) (t' := (.object "com/example/musterpoint/musterpoint/world/Area")) (by decide) (by decide)))).other W4 (Or.inr (slot_ne (Or.inr (hw _ (List.mem_of_getElem? (i := 28) rfl))) (Or.inr (hw _ (List.mem_of_getElem? (i := 20) rfl))) (by decide) (t := .boolean) (t' := .double) (by decide) (by decide)))).other W5 (Or.inr (slot_ne (Or.inr (hw _ (List.mem_of_getElem? (i := 28) rfl))) (Or.inr (hw _ (List.mem_of_getElem? (i := 22) rfl))) (by decide) (t := .boolean) (t' := .double) (by decide) (by decide)))).other W6 (Or.inr (slot_ne (Or.inr (hw _ (List.mem_of_getElem? (i := 28) rfl))) (Or.inr (hw _ (List.mem_of_getElem? (i := 24) rfl))) (by decide) (t := .boolean) (t' := .int) (by decide) (by decide)))).other W7 (Or.inr (slot_ne (Or.inr (hw _ (List.mem_of_getElem? (i := 28) rfl))) (Or.inr (hw _ (List.mem_of_getElem? (i := 26) rfl))) (by decide) (t := .boolean) (t' := .boolean) (by decide) (by decide)))) ((((((E_a1.wr W2).wr W3).wr W4).wr W5).wr W6).wr W7) (Or.inr ⟨(hw _ (List.mem_of_getElem? (i := 28) rfl)), rfl, hnm⟩) (hw _ (List.mem_of_getElem? (i := 2) rfl)) (ty := .boolean) (v' := (.int (nar .boolean p8))) (by decide) rfl (fits_nar_bool _) (g := (mkF m 40 #[.val (.ref a1), .val .null, .val .null, .val (.double d4), .second, .val (.double d5), .second, .val (.int p6), .val (.int p7), .val (.int p8)] [(.int p8), (.ref a1)])) rfl rfl (hb hby d1_40)
  have Fw8 : Fld Z h8 a1 "com/example/musterpoint/musterpoint/world/CivilianSighting" "sheltered" "Z" (.int (nar .boolean p8)) := Fld.same W8 ((((((F_a1_sheltered.other W2 (Or.inr (slot_ne (Or.inr (hw _ (List.mem_of_getElem? (i := 28) rfl))) (Or.inr (hw _ (List.mem_of_getElem? (i := 16) rfl))) (by decide) (t := .boolean) (t' := (.object "com/example/musterpoint/musterpoint/world/Civilian")) (by decide) (by decide)))).other W3 (Or.inr (slot_ne (Or.inr (hw _ (List.mem_of_getElem? (i := 28) rfl))) (Or.inr (hw _ (List.mem_of_getElem? (i := 18) rfl))) (by decide) (t := .boolean) (t' := (.object "com/example/musterpoint/musterpoint/world/Area")) (by decide) (by decide)))).other W4 (Or.inr (slot_ne (Or.inr (hw _ (List.mem_of_getElem? (i := 28) rfl))) (Or.inr (hw _ (List.mem_of_getElem? (i := 20) rfl))) (by decide) (t := .boolean) (t' := .double) (by decide) (by decide)))).other W5 (Or.inr (slot_ne (Or.inr (hw _ (List.mem_of_getElem? (i := 28) rfl))) (Or.inr (hw _ (List.mem_of_getElem? (i := 22) rfl))) (by decide) (t := .boolean) (t' := .double) (by decide) (by decide)))).other W6 (Or.inr (slot_ne (Or.inr (hw _ (List.mem_of_getElem? (i := 28) rfl))) (Or.inr (hw _ (List.mem_of_getElem? (i := 24) rfl))) (by decide) (t := .boolean) (t' := .int) (by decide) (by decide)))).other W7 (Or.inr (slot_ne (Or.inr (hw _ (List.mem_of_getElem? (i := 28) rfl))) (Or.inr (hw _ (List.mem_of_getElem? (i := 26) rfl))) (by decide) (t := .boolean) (t' := .boolean) (by decide) (by decide))))
  have N8 := Fr.snoc X8 N7 g_a1
  have Zn8 : n0 ≤ h8.size := Nat.le_trans Zn7 (Keep.of_wr W8).1
  have K8 : Keep h0 h8 [a1] := K7.wr W8 (Or.inl (List.mem_of_getElem? (i := 0) rfl))
  have O8 := O7.wr W8 g_a1
  obtain ⟨fs, hr, hrun, hended, hW, hsame⟩ := X8.leave (v := none) (fun _ => rfl)
  refine ⟨_, _, pre0 _ ?_, hrun, hended, _, _, rfl, ?_, ⟨_, rfl⟩, hW, hsame.mono (by decide) (by decide)⟩
  · show Steps p.tables e below (s₁.setTop (mkF m 0 #[.val (.ref a1), .val .null, .val .null, .val (.double d4), .second, .val (.double d5), .second, .val (.int p6), .val (.int p7), .val (.int p8)] [])) _
    refine XS.aloadN X0.here hx rfl (hb hby d1_0) rfl rfl ?_
    show Steps p.tables e below (s₁.setTop (mkF m 1 #[.val (.ref a1), .val .null, .val .null, .val (.double d4), .second, .val (.double d5), .second, .val (.int p6), .val (.int p7), .val (.int p8)] [(.ref a1)])) _
    refine st1.trans ?_
    show Steps p.tables e below (T1.setTop (mkF m 4 #[.val (.ref a1), .val .null, .val .null, .val (.double d4), .second, .val (.double d5), .second, .val (.int p6), .val (.int p7), .val (.int p8)] [])) _
    refine XS.aloadN X1.here hx rfl (hb hby d1_4) rfl rfl ?_
    show Steps p.tables e below (T1.setTop (mkF m 5 #[.val (.ref a1), .val .null, .val .null, .val (.double d4), .second, .val (.double d5), .second, .val (.int p6), .val (.int p7), .val (.int p8)] [(.ref a1)])) _
    refine XS.aloadN X1.here hx rfl (hb hby d1_5) rfl rfl ?_
    show Steps p.tables e below (T1.setTop (mkF m 6 #[.val (.ref a1), .val .null, .val .null, .val (.double d4), .second, .val (.double d5), .second, .val (.int p6), .val (.int p7), .val (.int p8)] [.null, (.ref a1)])) _
    refine st2 _ ?_
    show Steps p.tables e below (T2.setTop (mkF m 9 #[.val (.ref a1), .val .null, .val .null, .val (.double d4), .second, .val (.double d5), .second, .val (.int p6), .val (.int p7), .val (.int p8)] [])) _
    refine XS.aloadN X2.here hx rfl (hb hby d1_9) rfl rfl ?_
    show Steps p.tables e below (T2.setTop (mkF m 10 #[.val (.ref a1), .val .null, .val .null, .val (.double d4), .second, .val (.double d5), .second, .val (.int p6), .val (.int p7), .val (.int p8)] [(.ref a1)])) _
    refine XS.aloadN X2.here hx rfl (hb hby d1_10) rfl rfl ?_
    show Steps p.tables e below (T2.setTop (mkF m 11 #[.val (.ref a1), .val .null, .val .null, .val (.double d4), .second, .val (.double d5), .second, .val (.int p6), .val (.int p7), .val (.int p8)] [.null, (.ref a1)])) _
    refine st3 _ ?_
    show Steps p.tables e below (T3.setTop (mkF m 14 #[.val (.ref a1), .val .null, .val .null, .val (.double d4), .second, .val (.double d5), .second, .val (.int p6), .val (.int p7), .val (.int p8)] [])) _
    refine XS.aloadN X3.here hx rfl (hb hby d1_14) rfl rfl ?_
    show Steps p.tables e below (T3.setTop (mkF m 15 #[.val (.ref a1), .val .null, .val .null, .val (.double d4), .second, .val (.double d5), .second, .val (.int p6), .val (.int p7), .val (.int p8)] [(.ref a1)])) _
    refine XS.dloadN X3.here hx rfl (hb hby d1_15) rfl ?_
    show Steps p.tables e below (T3.setTop (mkF m 16 #[.val (.ref a1), .val .null, .val .null, .val (.double d4), .second, .val (.double d5), .second, .val (.int p6), .val (.int p7), .val (.int p8)] [(.double d4), (.ref a1)])) _
    refine st4 _ ?_
    show Steps p.tables e below (T4.setTop (mkF m 19 #[.val (.ref a1), .val .null, .val .null, .val (.double d4), .second, .val (.double d5), .second, .val (.int p6), .val (.int p7), .val (.int p8)] [])) _
    refine XS.aloadN X4.here hx rfl (hb hby d1_19) rfl rfl ?_
    show Steps p.tables e below (T4.setTop (mkF m 20 #[.val (.ref a1), .val .null, .val .null, .val (.double d4), .second, .val (.double d5), .second, .val (.int p6), .val (.int p7), .val (.int p8)] [(.ref a1)])) _
    refine XS.dload X4.here hx rfl (hb hby d1_20) rfl ?_
    show Steps p.tables e below (T4.setTop (mkF m 22 #[.val (.ref a1), .val .null, .val .null, .val (.double d4), .second, .val (.double d5), .second, .val (.int p6), .val (.int p7), .val (.int p8)] [(.double d5), (.ref a1)])) _
    refine st5 _ ?_
    show Steps p.tables e below (T5.setTop (mkF m 25 #[.val (.ref a1), .val .null, .val .null, .val (.double d4), .second, .val (.double d5), .second, .val (.int p6), .val (.int p7), .val (.int p8)] [])) _
    refine XS.aloadN X5.here hx rfl (hb hby d1_25) rfl rfl ?_
    show Steps p.tables e below (T5.setTop (mkF m 26 #[.val (.ref a1), .val .null, .val .null, .val (.double d4), .second, .val (.double d5), .second, .val (.int p6), .val (.int p7), .val (.int p8)] [(.ref a1)])) _
    refine XS.iload X5.here hx rfl (hb hby d1_26) rfl ?_
    show Steps p.tables e below (T5.setTop (mkF m 28 #[.val (.ref a1), .val .null, .val .null, .val (.double d4), .second, .val (.double d5), .second, .val (.int p6), .val (.int p7), .val (.int p8)] [(.int p6), (.ref a1)])) _
    refine st6 _ ?_
    show Steps p.tables e below (T6.setTop (mkF m 31 #[.val (.ref a1), .val .null, .val .null, .val (.double d4), .second, .val (.double d5), .second, .val (.int p6), .val (.int p7), .val (.int p8)] [])) _
    refine XS.aloadN X6.here hx rfl (hb hby d1_31) rfl rfl ?_
    show Steps p.tables e below (T6.setTop (mkF m 32 #[.val (.ref a1), .val .null, .val .null, .val (.double d4), .second, .val (.double d5), .second, .val (.int p6), .val (.int p7), .val (.int p8)] [(.ref a1)])) _
    refine XS.iload X6.here hx rfl (hb hby d1_32) rfl ?_
    show Steps p.tables e below (T6.setTop (mkF m 34 #[.val (.ref a1), .val .null, .val .null, .val (.double d4), .second, .val (.double d5), .second, .val (.int p6), .val (.int p7), .val (.int p8)] [(.int p7), (.ref a1)])) _
    refine st7 _ ?_
    show Steps p.tables e below (T7.setTop (mkF m 37 #[.val (.ref a1), .val .null, .val .null, .val (.double d4), .second, .val (.double d5), .second, .val (.int p6), .val (.int p7), .val (.int p8)] [])) _
    refine XS.aloadN X7.here hx rfl (hb hby d1_37) rfl rfl ?_
    show Steps p.tables e below (T7.setTop (mkF m 38 #[.val (.ref a1), .val .null, .val .null, .val (.double d4), .second, .val (.double d5), .second, .val (.int p6), .val (.int p7), .val (.int p8)] [(.ref a1)])) _
    refine XS.iload X7.here hx rfl (hb hby d1_38) rfl ?_
    show Steps p.tables e below (T7.setTop (mkF m 40 #[.val (.ref a1), .val .null, .val .null, .val (.double d4), .second, .val (.double d5), .second, .val (.int p6), .val (.int p7), .val (.int p8)] [(.int p8), (.ref a1)])) _
    refine st8 _ ?_
    show Steps p.tables e below (T8.setTop (mkF m 43 #[.val (.ref a1), .val .null, .val .null, .val (.double d4), .second, .val (.double d5), .second, .val (.int p6), .val (.int p7), .val (.int p8)] [])) _
    exact X8.returnOut hx Bd.returns (hb hby d1_43) hr
  · show Q_rm1 Z a1 d4 d5 p6 p7 p8 h0 n0 _ T8.heap _
    rw [e8]
    exact ⟨rfl, N8, K8, (((((((E_a1.wr W2).wr W3).wr W4).wr W5).wr W6).wr W7).wr W8), ((((Fw4.other W5 (Or.inr (slot_ne (Or.inr (hw _ (List.mem_of_getElem? (i := 20) rfl))) (Or.inr (hw _ (List.mem_of_getElem? (i := 22) rfl))) (by decide) (t := .double) (t' := .double) (by decide) (by decide)))).other W6 (Or.inr (slot_ne (Or.inr (hw _ (List.mem_of_getElem? (i := 20) rfl))) (Or.inr (hw _ (List.mem_of_getElem? (i := 24) rfl))) (by decide) (t := .double) (t' := .int) (by decide) (by decide)))).other W7 (Or.inr (slot_ne (Or.inr (hw _ (List.mem_of_getElem? (i := 20) rfl))) (Or.inr (hw _ (List.mem_of_getElem? (i := 26) rfl))) (by decide) (t := .double) (t' := .boolean) (by decide) (by decide)))).other W8 (Or.inr (slot_ne (Or.inr (hw _ (List.mem_of_getElem? (i := 20) rfl))) (Or.inr (hw _ (List.mem_of_getElem? (i := 28) rfl))) (by decide) (t := .double) (t' := .boolean) (by decide) (by decide)))), (((Fw5.other W6 (Or.inr (slot_ne (Or.inr (hw _ (List.mem_of_getElem? (i := 22) rfl))) (Or.inr (hw _ (List.mem_of_getElem? (i := 24) rfl))) (by decide) (t := .double) (t' := .int) (by decide) (by decide)))).other W7 (Or.inr (slot_ne (Or.inr (hw _ (List.mem_of_getElem? (i := 22) rfl))) (Or.inr (hw _ (List.mem_of_getElem? (i := 26) rfl))) (by decide) (t := .double) (t' := .boolean) (by decide) (by decide)))).other W8 (Or.inr (slot_ne (Or.inr (hw _ (List.mem_of_getElem? (i := 22) rfl))) (Or.inr (hw _ (List.mem_of_getElem? (i := 28) rfl))) (by decide) (t := .double) (t' := .boolean) (by decide) (by decide)))), ((Fw6.other W7 (Or.inr (slot_ne (Or.inr (hw _ (List.mem_of_getElem? (i := 24) rfl))) (Or.inr (hw _ (List.mem_of_getElem? (i := 26) rfl))) (by decide) (t := .int) (t' := .boolean) (by decide) (by decide)))).other W8 (Or.inr (slot_ne (Or.inr (hw _ (List.mem_of_getElem? (i := 24) rfl))) (Or.inr (hw _ (List.mem_of_getElem? (i := 28) rfl))) (by decide) (t := .int) (t' := .boolean) (by decide) (by decide)))), (Fw7.other W8 (Or.inr (slot_ne (Or.inr (hw _ (List.mem_of_getElem? (i := 26) rfl))) (Or.inr (hw _ (List.mem_of_getElem? (i := 28) rfl))) (by decide) (t := .boolean) (t' := .boolean) (by decide) (by decide)))), Fw8⟩
theorem d4_0 : decode prog_63_method_2_code 0 = .ok (.aload_n 0, 1) := by decide +kernel
theorem d4_1 : decode prog_63_method_2_code 1 = .ok (.getfield 17, 3) := by decide +kernel
theorem d4_4 : decode prog_63_method_2_code 4 = .ok (.dconst 0, 1) := by decide +kernel
theorem d4_5 : decode prog_63_method_2_code 5 = .ok (.dcmp .l, 1) := by decide +kernel
theorem d4_6 : decode prog_63_method_2_code 6 = .ok (.ifCond .le 37, 3) := by decide +kernel
theorem d4_9 : decode prog_63_method_2_code 9 = .ok (.aload_n 0, 1) := by decide +kernel
theorem d4_10 : decode prog_63_method_2_code 10 = .ok (.getfield 28, 3) := by decide +kernel
theorem d4_13 : decode prog_63_method_2_code 13 = .ok (.ifCond .ne 30, 3) := by decide +kernel
theorem d4_16 : decode prog_63_method_2_code 16 = .ok (.aload_n 0, 1) := by decide +kernel
theorem d4_17 : decode prog_63_method_2_code 17 = .ok (.getfield 32, 3) := by decide +kernel
theorem d4_20 : decode prog_63_method_2_code 20 = .ok (.ifCond .ne 23, 3) := by decide +kernel
theorem d4_23 : decode prog_63_method_2_code 23 = .ok (.aload_n 0, 1) := by decide +kernel
theorem d4_24 : decode prog_63_method_2_code 24 = .ok (.getfield 24, 3) := by decide +kernel
theorem d4_27 : decode prog_63_method_2_code 27 = .ok (.ifCond .gt 12, 3) := by decide +kernel
theorem d4_30 : decode prog_63_method_2_code 30 = .ok (.aload_n 0, 1) := by decide +kernel
theorem d4_31 : decode prog_63_method_2_code 31 = .ok (.getfield 21, 3) := by decide +kernel
theorem d4_34 : decode prog_63_method_2_code 34 = .ok (.dconst 0, 1) := by decide +kernel
theorem d4_35 : decode prog_63_method_2_code 35 = .ok (.dcmp .l, 1) := by decide +kernel
theorem d4_36 : decode prog_63_method_2_code 36 = .ok (.ifCond .le 7, 3) := by decide +kernel
theorem d4_39 : decode prog_63_method_2_code 39 = .ok (.iconst 1, 1) := by decide +kernel
theorem d4_40 : decode prog_63_method_2_code 40 = .ok (.goto 4, 3) := by decide +kernel
theorem d4_43 : decode prog_63_method_2_code 43 = .ok (.iconst 0, 1) := by decide +kernel
theorem d4_44 : decode prog_63_method_2_code 44 = .ok (.ireturn, 1) := by decide +kernel
theorem ef_rm4 (m : MethodId) (x0 : Addr) : entryFrame m #[(.ref x0)] 1 = mkF m 0 #[.val (.ref x0)] [] := by first | (simp [entryFrame, mkF, argsToLocals, Value.category]; done) | rfl
def Q_rm4 (Z : State) (a1 : Addr) (d1 d2 : UInt64) (b3 c4 s5 : Int32) (h0 : Heap) (n0 : Nat) (v : Option Value) (h : Heap) (L : List Loc) : Prop := v = some (.int (own_need d1 d2 b3 c4 s5)) ∧ Fr n0 L ∧ h = h0
set_option maxRecDepth 65536 in
set_option maxHeartbeats 40000000 in
theorem rm4 (l : Launch) (Z : State) (a0 : Array Value) (hw : ∀ d ∈ tables_1, d.before a0 Z = true) (ws : List Jvm.Cond) (a1 : Addr) (d1 d2 : UInt64) (b3 c4 s5 : Int32) (h0 : Heap) (n0 : Nat) (O0 : Old Z n0 h0) (F_a1_health : Fld Z h0 a1 "com/example/musterpoint/musterpoint/world/CivilianSighting" "health" "D" (.double d1)) (F_a1_damage : Fld Z h0 a1 "com/example/musterpoint/musterpoint/world/CivilianSighting" "damage" "D" (.double d2)) (F_a1_buriedness : Fld Z h0 a1 "com/example/musterpoint/musterpoint/world/CivilianSighting" "buriedness" "I" (.int b3)) (F_a1_carried : Fld Z h0 a1 "com/example/musterpoint/musterpoint/world/CivilianSighting" "carried" "Z" (.int c4)) (F_a1_sheltered : Fld Z h0 a1 "com/example/musterpoint/musterpoint/world/CivilianSighting" "sheltered" "Z" (.int s5)) :
    MetFree l (⟨"com/example/musterpoint/musterpoint/world/CivilianSighting", "needsHelp", "()Z"⟩ : MethodName) (head1 (Jvm.Cond.code (⟨"com/example/musterpoint/musterpoint/world/CivilianSighting", "needsHelp", "()Z"⟩ : MethodName) prog_63_method_2_code 1 (some .boolean) :: ws) ({ frames := 0, cells := 0, slots := 0, locals := 0 } : Room)) (fun a U => a = #[(.ref a1)] ∧ Z.Warmed39 U.vm ∧ U.heap = h0) (fun _ _ _ _ _ => True) (fun _ U o U' => ∃ v L, o = .returned v ∧ Q_rm4 Z a1 d1 d2 b3 c4 s5 h0 n0 v U'.heap L ∧ FrameEnd U o U' L ({ frames := 0, cells := 0, slots := 0, locals := 0 } : Room).cells ({ frames := 0, cells := 0, slots := 0, locals := 0 } : Room).slots) := by
  refine MetFree.of_bodySF (plainFor_of_name pn_1) hisR ?_
  intro p e s m args below meth c s₁ Bd hml0 hP hK
  obtain ⟨rfl, hZ, hh⟩ := hP
  have hx := Bd.exec
  have hby := Bd.bytes
  have hml : c.maxLocals = 1 := hml0
  have hown : s.vm.findClass "com/example/musterpoint/musterpoint/world/CivilianSighting" = some m.cls := findClass_of_methodNamed Bd.named
  have hnm := (name_of_methodNamed Bd.named Bd.method).1
  have X0 : Stand p l e ({ frames := 0, cells := 0, slots := 0, locals := 0 } : Room) s m #[(.ref a1)] below meth c s₁ [] 0 0 := Stand.of_body Bd
  have e0 : s₁.heap = h0 := by rw [← hh, Bd.state]; rfl
  have N0 := Fr.nil n0
  have pre0 : ∀ t, Steps p.tables e below (s₁.setTop (mkF m 0 #[.val (.ref a1)] [])) t → Steps p.tables e below (s₁.setTop (entryFrame m #[(.ref a1)] 1)) t := fun t k => castTop (ef_rm4 m (a1)) k
  obtain ⟨T1, X1, e1, st1⟩ := getF X0 hx hZ hown (host := "") (Or.inl (hw _ (List.mem_of_getElem? (i := 19) rfl))) Via.refl e0 F_a1_health (g := (mkF m 1 #[.val (.ref a1)] [(.ref a1)])) rfl rfl (hb hby d4_1)
  by_cases hc2 : (0 : Int32) < (cmpValue (FP.dcmp d1 FP.dconst0) .l)
  · obtain ⟨T3, X3, e3, st3⟩ := getF X1 hx hZ hown (host := "") (Or.inl (hw _ (List.mem_of_getElem? (i := 25) rfl))) Via.refl e1 F_a1_carried (g := (mkF m 10 #[.val (.ref a1)] [(.ref a1)])) rfl rfl (hb hby d4_10)
    by_cases hc4 : c4 = (0 : Int32)
    · obtain ⟨T5, X5, e5, st5⟩ := getF X3 hx hZ hown (host := "") (Or.inl (hw _ (List.mem_of_getElem? (i := 27) rfl))) Via.refl e3 F_a1_sheltered (g := (mkF m 17 #[.val (.ref a1)] [(.ref a1)])) rfl rfl (hb hby d4_17)
      by_cases hc6 : s5 = (0 : Int32)
      · obtain ⟨T7, X7, e7, st7⟩ := getF X5 hx hZ hown (host := "") (Or.inl (hw _ (List.mem_of_getElem? (i := 23) rfl))) Via.refl e5 F_a1_buriedness (g := (mkF m 24 #[.val (.ref a1)] [(.ref a1)])) rfl rfl (hb hby d4_24)
        by_cases hc8 : (0 : Int32) < b3
        · obtain ⟨fs, hr, hrun, hended, hW, hsame⟩ := X7.leave (v := some (.int (1 : Int32))) (fun h => by rw [Bd.returns] at h; cases h)
          refine ⟨_, _, pre0 _ ?_, hrun, hended, _, _, rfl, ?_, ⟨_, rfl⟩, hW, hsame.mono (by decide) (by decide)⟩
          · show Steps p.tables e below (s₁.setTop (mkF m 0 #[.val (.ref a1)] [])) _
            refine XS.aloadN X0.here hx rfl (hb hby d4_0) rfl rfl ?_
            show Steps p.tables e below (s₁.setTop (mkF m 1 #[.val (.ref a1)] [(.ref a1)])) _
            refine st1 _ ?_
            show Steps p.tables e below (T1.setTop (mkF m 4 #[.val (.ref a1)] [(.double d1)])) _
            refine XS.dconst0 X1.here hx rfl (hb hby d4_4) rfl ?_
            show Steps p.tables e below (T1.setTop (mkF m 5 #[.val (.ref a1)] [(.double FP.dconst0), (.double d1)])) _
            refine XS.dcmpS X1.here hx rfl (hb hby d4_5) rfl rfl ?_
            show Steps p.tables e below (T1.setTop (mkF m 6 #[.val (.ref a1)] [(.int (cmpValue (FP.dcmp d1 FP.dconst0) .l))])) _
            refine XS.ifNo X1.here hx rfl (hb hby d4_6) rfl ((if0 _ _).trans (tlt hc2).2.2.2) ?_
            show Steps p.tables e below (T1.setTop (mkF m 9 #[.val (.ref a1)] [])) _
            refine XS.aloadN X1.here hx rfl (hb hby d4_9) rfl rfl ?_
            show Steps p.tables e below (T1.setTop (mkF m 10 #[.val (.ref a1)] [(.ref a1)])) _
            refine st3 _ ?_
            show Steps p.tables e below (T3.setTop (mkF m 13 #[.val (.ref a1)] [(.int c4)])) _
            refine XS.ifNo X3.here hx rfl (hb hby d4_13) rfl ((if0 _ _).trans (teq hc4).2) ?_
            show Steps p.tables e below (T3.setTop (mkF m 16 #[.val (.ref a1)] [])) _
            refine XS.aloadN X3.here hx rfl (hb hby d4_16) rfl rfl ?_
            show Steps p.tables e below (T3.setTop (mkF m 17 #[.val (.ref a1)] [(.ref a1)])) _
            refine st5 _ ?_
            show Steps p.tables e below (T5.setTop (mkF m 20 #[.val (.ref a1)] [(.int s5)])) _
            refine XS.ifNo X5.here hx rfl (hb hby d4_20) rfl ((if0 _ _).trans (teq hc6).2) ?_
            show Steps p.tables e below (T5.setTop (mkF m 23 #[.val (.ref a1)] [])) _
            refine XS.aloadN X5.here hx rfl (hb hby d4_23) rfl rfl ?_
            show Steps p.tables e below (T5.setTop (mkF m 24 #[.val (.ref a1)] [(.ref a1)])) _
            refine st7 _ ?_
            show Steps p.tables e below (T7.setTop (mkF m 27 #[.val (.ref a1)] [(.int b3)])) _
            refine XS.ifYes X7.here hx rfl (pc0 := 27) (pc' := 39) rfl (hb hby d4_27) rfl ((if0 _ _).trans (tlt hc8).2.2.1) (by decide) (by decide) ?_
            show Steps p.tables e below (T7.setTop (mkF m 39 #[.val (.ref a1)] [])) _
            refine XS.iconst X7.here hx rfl (hb hby d4_39) ?_
            show Steps p.tables e below (T7.setTop (mkF m 40 #[.val (.ref a1)] [(.int (1 : Int32))])) _
            refine XS.goto X7.here hx rfl (pc0 := 40) (pc' := 44) rfl (hb hby d4_40) (by decide) (by decide) ?_
            show Steps p.tables e below (T7.setTop (mkF m 44 #[.val (.ref a1)] [(.int (1 : Int32))])) _
            exact retN X7 hx (t := .boolean) Bd.returns (by simp) (hb hby d4_44) hr
          · show Q_rm4 Z a1 d1 d2 b3 c4 s5 h0 n0 _ T7.heap _
            rw [e7]
            exact ⟨(by show _ = some (Value.int (own_need d1 d2 b3 c4 s5)); unfold own_need own_gt; rw [if_pos hc2, if_pos hc4, if_pos hc6, if_pos hc8]), N0, rfl⟩
        · obtain ⟨T9, X9, e9, st9⟩ := getF X7 hx hZ hown (host := "") (Or.inl (hw _ (List.mem_of_getElem? (i := 21) rfl))) Via.refl e7 F_a1_damage (g := (mkF m 31 #[.val (.ref a1)] [(.ref a1)])) rfl rfl (hb hby d4_31)
          by_cases hc10 : (0 : Int32) < (cmpValue (FP.dcmp d2 FP.dconst0) .l)
          · obtain ⟨fs, hr, hrun, hended, hW, hsame⟩ := X9.leave (v := some (.int (1 : Int32))) (fun h => by rw [Bd.returns] at h; cases h)
            refine ⟨_, _, pre0 _ ?_, hrun, hended, _, _, rfl, ?_, ⟨_, rfl⟩, hW, hsame.mono (by decide) (by decide)⟩
            · show Steps p.tables e below (s₁.setTop (mkF m 0 #[.val (.ref a1)] [])) _
              refine XS.aloadN X0.here hx rfl (hb hby d4_0) rfl rfl ?_
              show Steps p.tables e below (s₁.setTop (mkF m 1 #[.val (.ref a1)] [(.ref a1)])) _
              refine st1 _ ?_
              show Steps p.tables e below (T1.setTop (mkF m 4 #[.val (.ref a1)] [(.double d1)])) _
              refine XS.dconst0 X1.here hx rfl (hb hby d4_4) rfl ?_
              show Steps p.tables e below (T1.setTop (mkF m 5 #[.val (.ref a1)] [(.double FP.dconst0), (.double d1)])) _
              refine XS.dcmpS X1.here hx rfl (hb hby d4_5) rfl rfl ?_
              show Steps p.tables e below (T1.setTop (mkF m 6 #[.val (.ref a1)] [(.int (cmpValue (FP.dcmp d1 FP.dconst0) .l))])) _
              refine XS.ifNo X1.here hx rfl (hb hby d4_6) rfl ((if0 _ _).trans (tlt hc2).2.2.2) ?_
              show Steps p.tables e below (T1.setTop (mkF m 9 #[.val (.ref a1)] [])) _
              refine XS.aloadN X1.here hx rfl (hb hby d4_9) rfl rfl ?_
              show Steps p.tables e below (T1.setTop (mkF m 10 #[.val (.ref a1)] [(.ref a1)])) _
              refine st3 _ ?_
              show Steps p.tables e below (T3.setTop (mkF m 13 #[.val (.ref a1)] [(.int c4)])) _
              refine XS.ifNo X3.here hx rfl (hb hby d4_13) rfl ((if0 _ _).trans (teq hc4).2) ?_
              show Steps p.tables e below (T3.setTop (mkF m 16 #[.val (.ref a1)] [])) _
              refine XS.aloadN X3.here hx rfl (hb hby d4_16) rfl rfl ?_
              show Steps p.tables e below (T3.setTop (mkF m 17 #[.val (.ref a1)] [(.ref a1)])) _
              refine st5 _ ?_
              show Steps p.tables e below (T5.setTop (mkF m 20 #[.val (.ref a1)] [(.int s5)])) _
              refine XS.ifNo X5.here hx rfl (hb hby d4_20) rfl ((if0 _ _).trans (teq hc6).2) ?_
              show Steps p.tables e below (T5.setTop (mkF m 23 #[.val (.ref a1)] [])) _
              refine XS.aloadN X5.here hx rfl (hb hby d4_23) rfl rfl ?_
              show Steps p.tables e below (T5.setTop (mkF m 24 #[.val (.ref a1)] [(.ref a1)])) _
              refine st7 _ ?_
              show Steps p.tables e below (T7.setTop (mkF m 27 #[.val (.ref a1)] [(.int b3)])) _
              refine XS.ifNo X7.here hx rfl (hb hby d4_27) rfl ((if0 _ _).trans (flt hc8).2.2.1) ?_
              show Steps p.tables e below (T7.setTop (mkF m 30 #[.val (.ref a1)] [])) _
              refine XS.aloadN X7.here hx rfl (hb hby d4_30) rfl rfl ?_
              show Steps p.tables e below (T7.setTop (mkF m 31 #[.val (.ref a1)] [(.ref a1)])) _
              refine st9 _ ?_
              show Steps p.tables e below (T9.setTop (mkF m 34 #[.val (.ref a1)] [(.double d2)])) _
              refine XS.dconst0 X9.here hx rfl (hb hby d4_34) rfl ?_
              show Steps p.tables e below (T9.setTop (mkF m 35 #[.val (.ref a1)] [(.double FP.dconst0), (.double d2)])) _
              refine XS.dcmpS X9.here hx rfl (hb hby d4_35) rfl rfl ?_
              show Steps p.tables e below (T9.setTop (mkF m 36 #[.val (.ref a1)] [(.int (cmpValue (FP.dcmp d2 FP.dconst0) .l))])) _
              refine XS.ifNo X9.here hx rfl (hb hby d4_36) rfl ((if0 _ _).trans (tlt hc10).2.2.2) ?_
              show Steps p.tables e below (T9.setTop (mkF m 39 #[.val (.ref a1)] [])) _
              refine XS.iconst X9.here hx rfl (hb hby d4_39) ?_
              show Steps p.tables e below (T9.setTop (mkF m 40 #[.val (.ref a1)] [(.int (1 : Int32))])) _
              refine XS.goto X9.here hx rfl (pc0 := 40) (pc' := 44) rfl (hb hby d4_40) (by decide) (by decide) ?_
              show Steps p.tables e below (T9.setTop (mkF m 44 #[.val (.ref a1)] [(.int (1 : Int32))])) _
              exact retN X9 hx (t := .boolean) Bd.returns (by simp) (hb hby d4_44) hr
            · show Q_rm4 Z a1 d1 d2 b3 c4 s5 h0 n0 _ T9.heap _
              rw [e9]
              exact ⟨(by show _ = some (Value.int (own_need d1 d2 b3 c4 s5)); unfold own_need own_gt; rw [if_pos hc2, if_pos hc4, if_pos hc6, if_neg hc8, if_pos hc10]), N0, rfl⟩
          · obtain ⟨fs, hr, hrun, hended, hW, hsame⟩ := X9.leave (v := some (.int (0 : Int32))) (fun h => by rw [Bd.returns] at h; cases h)
            refine ⟨_, _, pre0 _ ?_, hrun, hended, _, _, rfl, ?_, ⟨_, rfl⟩, hW, hsame.mono (by decide) (by decide)⟩
            · show Steps p.tables e below (s₁.setTop (mkF m 0 #[.val (.ref a1)] [])) _
              refine XS.aloadN X0.here hx rfl (hb hby d4_0) rfl rfl ?_
              show Steps p.tables e below (s₁.setTop (mkF m 1 #[.val (.ref a1)] [(.ref a1)])) _
              refine st1 _ ?_
              show Steps p.tables e below (T1.setTop (mkF m 4 #[.val (.ref a1)] [(.double d1)])) _
              refine XS.dconst0 X1.here hx rfl (hb hby d4_4) rfl ?_
              show Steps p.tables e below (T1.setTop (mkF m 5 #[.val (.ref a1)] [(.double FP.dconst0), (.double d1)])) _
              refine XS.dcmpS X1.here hx rfl (hb hby d4_5) rfl rfl ?_
              show Steps p.tables e below (T1.setTop (mkF m 6 #[.val (.ref a1)] [(.int (cmpValue (FP.dcmp d1 FP.dconst0) .l))])) _
              refine XS.ifNo X1.here hx rfl (hb hby d4_6) rfl ((if0 _ _).trans (tlt hc2).2.2.2) ?_
              show Steps p.tables e below (T1.setTop (mkF m 9 #[.val (.ref a1)] [])) _
              refine XS.aloadN X1.here hx rfl (hb hby d4_9) rfl rfl ?_
              show Steps p.tables e below (T1.setTop (mkF m 10 #[.val (.ref a1)] [(.ref a1)])) _
              refine st3 _ ?_
              show Steps p.tables e below (T3.setTop (mkF m 13 #[.val (.ref a1)] [(.int c4)])) _
              refine XS.ifNo X3.here hx rfl (hb hby d4_13) rfl ((if0 _ _).trans (teq hc4).2) ?_
              show Steps p.tables e below (T3.setTop (mkF m 16 #[.val (.ref a1)] [])) _
              refine XS.aloadN X3.here hx rfl (hb hby d4_16) rfl rfl ?_
              show Steps p.tables e below (T3.setTop (mkF m 17 #[.val (.ref a1)] [(.ref a1)])) _
              refine st5 _ ?_
              show Steps p.tables e below (T5.setTop (mkF m 20 #[.val (.ref a1)] [(.int s5)])) _
              refine XS.ifNo X5.here hx rfl (hb hby d4_20) rfl ((if0 _ _).trans (teq hc6).2) ?_
              show Steps p.tables e below (T5.setTop (mkF m 23 #[.val (.ref a1)] [])) _
              refine XS.aloadN X5.here hx rfl (hb hby d4_23) rfl rfl ?_
              show Steps p.tables e below (T5.setTop (mkF m 24 #[.val (.ref a1)] [(.ref a1)])) _
              refine st7 _ ?_
              show Steps p.tables e below (T7.setTop (mkF m 27 #[.val (.ref a1)] [(.int b3)])) _
              refine XS.ifNo X7.here hx rfl (hb hby d4_27) rfl ((if0 _ _).trans (flt hc8).2.2.1) ?_
              show Steps p.tables e below (T7.setTop (mkF m 30 #[.val (.ref a1)] [])) _
              refine XS.aloadN X7.here hx rfl (hb hby d4_30) rfl rfl ?_
              show Steps p.tables e below (T7.setTop (mkF m 31 #[.val (.ref a1)] [(.ref a1)])) _
              refine st9 _ ?_
              show Steps p.tables e below (T9.setTop (mkF m 34 #[.val (.ref a1)] [(.double d2)])) _
              refine XS.dconst0 X9.here hx rfl (hb hby d4_34) rfl ?_
              show Steps p.tables e below (T9.setTop (mkF m 35 #[.val (.ref a1)] [(.double FP.dconst0), (.double d2)])) _
              refine XS.dcmpS X9.here hx rfl (hb hby d4_35) rfl rfl ?_
              show Steps p.tables e below (T9.setTop (mkF m 36 #[.val (.ref a1)] [(.int (cmpValue (FP.dcmp d2 FP.dconst0) .l))])) _
              refine XS.ifYes X9.here hx rfl (pc0 := 36) (pc' := 43) rfl (hb hby d4_36) rfl ((if0 _ _).trans (flt hc10).2.2.2) (by decide) (by decide) ?_
              show Steps p.tables e below (T9.setTop (mkF m 43 #[.val (.ref a1)] [])) _
              refine XS.iconst X9.here hx rfl (hb hby d4_43) ?_
              show Steps p.tables e below (T9.setTop (mkF m 44 #[.val (.ref a1)] [(.int (0 : Int32))])) _
              exact retN X9 hx (t := .boolean) Bd.returns (by simp) (hb hby d4_44) hr
            · show Q_rm4 Z a1 d1 d2 b3 c4 s5 h0 n0 _ T9.heap _
              rw [e9]
              exact ⟨(by show _ = some (Value.int (own_need d1 d2 b3 c4 s5)); unfold own_need own_gt; rw [if_pos hc2, if_pos hc4, if_pos hc6, if_neg hc8, if_neg hc10]), N0, rfl⟩
      · obtain ⟨fs, hr, hrun, hended, hW, hsame⟩ := X5.leave (v := some (.int (0 : Int32))) (fun h => by rw [Bd.returns] at h; cases h)
        refine ⟨_, _, pre0 _ ?_, hrun, hended, _, _, rfl, ?_, ⟨_, rfl⟩, hW, hsame.mono (by decide) (by decide)⟩
        · show Steps p.tables e below (s₁.setTop (mkF m 0 #[.val (.ref a1)] [])) _
          refine XS.aloadN X0.here hx rfl (hb hby d4_0) rfl rfl ?_
          show Steps p.tables e below (s₁.setTop (mkF m 1 #[.val (.ref a1)] [(.ref a1)])) _
          refine st1 _ ?_
          show Steps p.tables e below (T1.setTop (mkF m 4 #[.val (.ref a1)] [(.double d1)])) _
          refine XS.dconst0 X1.here hx rfl (hb hby d4_4) rfl ?_
          show Steps p.tables e below (T1.setTop (mkF m 5 #[.val (.ref a1)] [(.double FP.dconst0), (.double d1)])) _
          refine XS.dcmpS X1.here hx rfl (hb hby d4_5) rfl rfl ?_
          show Steps p.tables e below (T1.setTop (mkF m 6 #[.val (.ref a1)] [(.int (cmpValue (FP.dcmp d1 FP.dconst0) .l))])) _
          refine XS.ifNo X1.here hx rfl (hb hby d4_6) rfl ((if0 _ _).trans (tlt hc2).2.2.2) ?_
          show Steps p.tables e below (T1.setTop (mkF m 9 #[.val (.ref a1)] [])) _
          refine XS.aloadN X1.here hx rfl (hb hby d4_9) rfl rfl ?_
          show Steps p.tables e below (T1.setTop (mkF m 10 #[.val (.ref a1)] [(.ref a1)])) _
          refine st3 _ ?_
          show Steps p.tables e below (T3.setTop (mkF m 13 #[.val (.ref a1)] [(.int c4)])) _
          refine XS.ifNo X3.here hx rfl (hb hby d4_13) rfl ((if0 _ _).trans (teq hc4).2) ?_
          show Steps p.tables e below (T3.setTop (mkF m 16 #[.val (.ref a1)] [])) _
          refine XS.aloadN X3.here hx rfl (hb hby d4_16) rfl rfl ?_
          show Steps p.tables e below (T3.setTop (mkF m 17 #[.val (.ref a1)] [(.ref a1)])) _
          refine st5 _ ?_
          show Steps p.tables e below (T5.setTop (mkF m 20 #[.val (.ref a1)] [(.int s5)])) _
          refine XS.ifYes X5.here hx rfl (pc0 := 20) (pc' := 43) rfl (hb hby d4_20) rfl ((if0 _ _).trans (feq hc6).2) (by decide) (by decide) ?_
          show Steps p.tables e below (T5.setTop (mkF m 43 #[.val (.ref a1)] [])) _
          refine XS.iconst X5.here hx rfl (hb hby d4_43) ?_
          show Steps p.tables e below (T5.setTop (mkF m 44 #[.val (.ref a1)] [(.int (0 : Int32))])) _
          exact retN X5 hx (t := .boolean) Bd.returns (by simp) (hb hby d4_44) hr
        · show Q_rm4 Z a1 d1 d2 b3 c4 s5 h0 n0 _ T5.heap _
          rw [e5]
          exact ⟨(by show _ = some (Value.int (own_need d1 d2 b3 c4 s5)); unfold own_need own_gt; rw [if_pos hc2, if_pos hc4, if_neg hc6]), N0, rfl⟩
    · obtain ⟨fs, hr, hrun, hended, hW, hsame⟩ := X3.leave (v := some (.int (0 : Int32))) (fun h => by rw [Bd.returns] at h; cases h)
      refine ⟨_, _, pre0 _ ?_, hrun, hended, _, _, rfl, ?_, ⟨_, rfl⟩, hW, hsame.mono (by decide) (by decide)⟩
      · show Steps p.tables e below (s₁.setTop (mkF m 0 #[.val (.ref a1)] [])) _
        refine XS.aloadN X0.here hx rfl (hb hby d4_0) rfl rfl ?_
        show Steps p.tables e below (s₁.setTop (mkF m 1 #[.val (.ref a1)] [(.ref a1)])) _
        refine st1 _ ?_
        show Steps p.tables e below (T1.setTop (mkF m 4 #[.val (.ref a1)] [(.double d1)])) _
        refine XS.dconst0 X1.here hx rfl (hb hby d4_4) rfl ?_
        show Steps p.tables e below (T1.setTop (mkF m 5 #[.val (.ref a1)] [(.double FP.dconst0), (.double d1)])) _
        refine XS.dcmpS X1.here hx rfl (hb hby d4_5) rfl rfl ?_
        show Steps p.tables e below (T1.setTop (mkF m 6 #[.val (.ref a1)] [(.int (cmpValue (FP.dcmp d1 FP.dconst0) .l))])) _
        refine XS.ifNo X1.here hx rfl (hb hby d4_6) rfl ((if0 _ _).trans (tlt hc2).2.2.2) ?_
        show Steps p.tables e below (T1.setTop (mkF m 9 #[.val (.ref a1)] [])) _
        refine XS.aloadN X1.here hx rfl (hb hby d4_9) rfl rfl ?_
        show Steps p.tables e below (T1.setTop (mkF m 10 #[.val (.ref a1)] [(.ref a1)])) _
        refine st3 _ ?_
        show Steps p.tables e below (T3.setTop (mkF m 13 #[.val (.ref a1)] [(.int c4)])) _
        refine XS.ifYes X3.here hx rfl (pc0 := 13) (pc' := 43) rfl (hb hby d4_13) rfl ((if0 _ _).trans (feq hc4).2) (by decide) (by decide) ?_
        show Steps p.tables e below (T3.setTop (mkF m 43 #[.val (.ref a1)] [])) _
        refine XS.iconst X3.here hx rfl (hb hby d4_43) ?_
        show Steps p.tables e below (T3.setTop (mkF m 44 #[.val (.ref a1)] [(.int (0 : Int32))])) _
        exact retN X3 hx (t := .boolean) Bd.returns (by simp) (hb hby d4_44) hr
      · show Q_rm4 Z a1 d1 d2 b3 c4 s5 h0 n0 _ T3.heap _
        rw [e3]
        exact ⟨(by show _ = some (Value.int (own_need d1 d2 b3 c4 s5)); unfold own_need own_gt; rw [if_pos hc2, if_neg hc4]), N0, rfl⟩
  · obtain ⟨fs, hr, hrun, hended, hW, hsame⟩ := X1.leave (v := some (.int (0 : Int32))) (fun h => by rw [Bd.returns] at h; cases h)
    refine ⟨_, _, pre0 _ ?_, hrun, hended, _, _, rfl, ?_, ⟨_, rfl⟩, hW, hsame.mono (by decide) (by decide)⟩
    · show Steps p.tables e below (s₁.setTop (mkF m 0 #[.val (.ref a1)] [])) _
      refine XS.aloadN X0.here hx rfl (hb hby d4_0) rfl rfl ?_
      show Steps p.tables e below (s₁.setTop (mkF m 1 #[.val (.ref a1)] [(.ref a1)])) _
      refine st1 _ ?_
      show Steps p.tables e below (T1.setTop (mkF m 4 #[.val (.ref a1)] [(.double d1)])) _
      refine XS.dconst0 X1.here hx rfl (hb hby d4_4) rfl ?_
      show Steps p.tables e below (T1.setTop (mkF m 5 #[.val (.ref a1)] [(.double FP.dconst0), (.double d1)])) _
      refine XS.dcmpS X1.here hx rfl (hb hby d4_5) rfl rfl ?_
      show Steps p.tables e below (T1.setTop (mkF m 6 #[.val (.ref a1)] [(.int (cmpValue (FP.dcmp d1 FP.dconst0) .l))])) _
      refine XS.ifYes X1.here hx rfl (pc0 := 6) (pc' := 43) rfl (hb hby d4_6) rfl ((if0 _ _).trans (flt hc2).2.2.2) (by decide) (by decide) ?_
      show Steps p.tables e below (T1.setTop (mkF m 43 #[.val (.ref a1)] [])) _
      refine XS.iconst X1.here hx rfl (hb hby d4_43) ?_
      show Steps p.tables e below (T1.setTop (mkF m 44 #[.val (.ref a1)] [(.int (0 : Int32))])) _
      exact retN X1 hx (t := .boolean) Bd.returns (by simp) (hb hby d4_44) hr
    · show Q_rm4 Z a1 d1 d2 b3 c4 s5 h0 n0 _ T1.heap _
      rw [e1]
      exact ⟨(by show _ = some (Value.int (own_need d1 d2 b3 c4 s5)); unfold own_need own_gt; rw [if_neg hc2]), N0, rfl⟩
theorem pd_1 : parseMethodDescriptor "(Lcom/example/musterpoint/musterpoint/world/Civilian;Lcom/example/musterpoint/musterpoint/world/Area;DDIZZ)V" = some ⟨[(.object "com/example/musterpoint/musterpoint/world/Civilian"), (.object "com/example/musterpoint/musterpoint/world/Area"), .double, .double, .int, .boolean, .boolean], none⟩ := by decide +kernel
theorem pd_2 : parseMethodDescriptor "()Z" = some ⟨[], some .boolean⟩ := by decide +kernel
theorem pn_2 : plainName "com/example/musterpoint/musterpoint/world/CivilianSightingNeedsHelpPinLaw" = true := by first | (simp [plainName, overriddenIn]; done) | decide +kernel
theorem ef_rm0 (m : MethodId) (x0 : Int32) (x1 : Int32) (x2 : Int32) (x3 : Int32) : entryFrame m #[(.int x0), (.int x1), (.int x2), (.int x3)] maxLocals = mkF m 0 #[.val (.int x0), .val (.int x1), .val (.int x2), .val (.int x3), .unset, .unset, .unset, .unset, .unset, .unset, .unset, .unset] [] := by first | (simp [entryFrame, mkF, argsToLocals, Value.category, maxLocals]; done) | rfl
def Q_rm0 (Z : State) (p0 : Int32) (p1 : Int32) (p2 : Int32) (p3 : Int32) (h0 : Heap) (n0 : Nat) (v : Option Value) (h : Heap) (L : List Loc) : Prop := v = some (.int (1 : Int32)) ∧ Fr n0 L ∧ Keep h0 h []
set_option maxRecDepth 65536 in
set_option maxHeartbeats 40000000 in
theorem rm0 (l : Launch) (Z : State) (a0 : Array Value) (hw : ∀ d ∈ tables_1, d.before a0 Z = true) (ws : List Jvm.Cond) (p0 : Int32) (p1 : Int32) (p2 : Int32) (p3 : Int32) (h0 : Heap) (n0 : Nat) (O0 : Old Z n0 h0) :
    MetFree l x (head1 (Jvm.Cond.code x code maxLocals ret :: ws) room_1) (fun a U => a = #[(.int p0), (.int p1), (.int p2), (.int p3)] ∧ Z.Warmed39 U.vm ∧ U.heap = h0) (fun _ _ _ _ _ => True) (fun _ U o U' => ∃ v L, o = .returned v ∧ Q_rm0 Z p0 p1 p2 p3 h0 n0 v U'.heap L ∧ FrameEnd U o U' L room_1.cells room_1.slots) := by
  refine MetFree.of_bodySF (plainFor_of_name pn_2) hisR ?_
  intro p e s m args below meth c s₁ Bd hml0 hP hK
  obtain ⟨rfl, hZ, hh⟩ := hP
  have hx := Bd.exec
  have hby := Bd.bytes
  have hml : c.maxLocals = 12 := hml0
  have hown : s.vm.findClass "com/example/musterpoint/musterpoint/world/CivilianSightingNeedsHelpPinLaw" = some m.cls := findClass_of_methodNamed Bd.named
  have hnm := (name_of_methodNamed Bd.named Bd.method).1
  have X0 : Stand p l e room_1 s m #[(.int p0), (.int p1), (.int p2), (.int p3)] below meth c s₁ [] 0 0 := Stand.of_body Bd
  have e0 : s₁.heap = h0 := by rw [← hh, Bd.state]; rfl
  have N0 := Fr.nil n0
  have pre0 : ∀ t, Steps p.tables e below (s₁.setTop (mkF m 0 #[.val (.int p0), .val (.int p1), .val (.int p2), .val (.int p3), .unset, .unset, .unset, .unset, .unset, .unset, .unset, .unset] [])) t → Steps p.tables e below (s₁.setTop (entryFrame m #[(.int p0), (.int p1), (.int p2), (.int p3)] maxLocals)) t := fun t k => castTop (ef_rm0 m (p0) (p1) (p2) (p3)) k
  by_cases hc1 : (p3 &&& (1 : Int32)) = (0 : Int32)
  · by_cases hc2 : (p3 &&& (2 : Int32)) = (0 : Int32)
    · obtain ⟨T3, h3, X3, e3, E3, A3, D3, -, st3⟩ := newO X0 hx hZ hown (hw _ (List.mem_of_getElem? (i := 1) rfl)) (hw _ (List.mem_of_getElem? (i := 2) rfl)) (hw _ (List.mem_of_getElem? (i := 3) rfl)) e0 (g := (mkF m 42 #[.val (.int p0), .val (.int p1), .val (.int p2), .val (.int p3), .val (.int (0 : Int32)), .val (.int (0 : Int32)), .val (.double (FP.ddiv (FP.i2d p0) (4616189618054758400 : UInt64))), .second, .val (.double (FP.ddiv (FP.i2d p1) (4616189618054758400 : UInt64))), .second, .unset, .unset] [])) rfl (hb hby at_42) (by decide) (by decide)
      obtain ⟨fa3, g3⟩ : ∃ z, z = h0.size := ⟨_, rfl⟩
      rw [← g3] at A3 D3 st3
      have gn_fa3 : n0 ≤ fa3 := Nat.le_trans (own_oldsz O0) (Nat.le_of_eq g3.symm)
      have gh_fa3 : h0.size ≤ fa3 := Nat.le_trans (Keep.refl h0 []).1 (Nat.le_of_eq g3.symm)
      have Zn3 : n0 ≤ h3.size := Nat.le_trans (own_oldsz O0) E3.1
      have K3 : Keep h0 h3 [] := (Keep.refl h0 []).ext E3
      have O3 := O0.ext E3
      have F3_civilian : Fld Z h3 fa3 "com/example/musterpoint/musterpoint/world/CivilianSighting" "civilian" "Lcom/example/musterpoint/musterpoint/world/Civilian;" .null := D3 (Or.inr (hw _ (List.mem_of_getElem? (i := 16) rfl))) (ty := (.object "com/example/musterpoint/musterpoint/world/Civilian")) (by decide)
      have F3_area : Fld Z h3 fa3 "com/example/musterpoint/musterpoint/world/CivilianSighting" "area" "Lcom/example/musterpoint/musterpoint/world/Area;" .null := D3 (Or.inr (hw _ (List.mem_of_getElem? (i := 18) rfl))) (ty := (.object "com/example/musterpoint/musterpoint/world/Area")) (by decide)
      have F3_health : Fld Z h3 fa3 "com/example/musterpoint/musterpoint/world/CivilianSighting" "health" "D" (.double (0 : UInt64)) := D3 (Or.inr (hw _ (List.mem_of_getElem? (i := 20) rfl))) (ty := .double) (by decide)
      have F3_damage : Fld Z h3 fa3 "com/example/musterpoint/musterpoint/world/CivilianSighting" "damage" "D" (.double (0 : UInt64)) := D3 (Or.inr (hw _ (List.mem_of_getElem? (i := 22) rfl))) (ty := .double) (by decide)
      have F3_buriedness : Fld Z h3 fa3 "com/example/musterpoint/musterpoint/world/CivilianSighting" "buriedness" "I" (.int (0 : Int32)) := D3 (Or.inr (hw _ (List.mem_of_getElem? (i := 24) rfl))) (ty := .int) (by decide)
      have F3_carried : Fld Z h3 fa3 "com/example/musterpoint/musterpoint/world/CivilianSighting" "carried" "Z" (.int (0 : Int32)) := D3 (Or.inr (hw _ (List.mem_of_getElem? (i := 26) rfl))) (ty := .boolean) (by decide)
      have F3_sheltered : Fld Z h3 fa3 "com/example/musterpoint/musterpoint/world/CivilianSighting" "sheltered" "Z" (.int (0 : Int32)) := D3 (Or.inr (hw _ (List.mem_of_getElem? (i := 28) rfl))) (ty := .boolean) (by decide)
      obtain ⟨_, _, ⟨T4, L4, k4, n4⟩, -, X4, ⟨Lc4, hQ4, l4, y4, z4⟩, st4⟩ := X3.specialBack hx (y := (⟨"com/example/musterpoint/musterpoint/world/CivilianSighting", "<init>", "(Lcom/example/musterpoint/musterpoint/world/Civilian;Lcom/example/musterpoint/musterpoint/world/Area;DDIZZ)V"⟩ : MethodName)) rfl hown (mvT hZ (hw _ (List.mem_of_getElem? (i := 4) rfl))) (mvT hZ (hw _ (List.mem_of_getElem? (i := 5) rfl))) (mvT hZ (hw _ (List.mem_of_getElem? (i := 6) rfl))) (by decide) (backOf (W := 1) (rm1 l Z a0 hw [] fa3 (FP.ddiv (FP.i2d p0) (4616189618054758400 : UInt64)) (FP.ddiv (FP.i2d p1) (4616189618054758400 : UInt64)) p2 (0 : Int32) (0 : Int32) h3 n0 O3 A3 F3_civilian F3_area F3_health F3_damage F3_buriedness F3_carried F3_sheltered gn_fa3) hZ (hw _ (List.mem_of_getElem? (i := 6) rfl)) (hw _ (List.mem_of_getElem? (i := 3) rfl)) (by decide) (by decide)) (g := (mkF m 57 #[.val (.int p0), .val (.int p1), .val (.int p2), .val (.int p3), .val (.int (0 : Int32)), .val (.int (0 : Int32)), .val (.double (FP.ddiv (FP.i2d p0) (4616189618054758400 : UInt64))), .second, .val (.double (FP.ddiv (FP.i2d p1) (4616189618054758400 : UInt64))), .second, .unset, .unset] [(.int (0 : Int32)), (.int (0 : Int32)), (.int p2), (.double (FP.ddiv (FP.i2d p1) (4616189618054758400 : UInt64))), (.double (FP.ddiv (FP.i2d p0) (4616189618054758400 : UInt64))), .null, .null, (.ref fa3), (.ref fa3)])) rfl (by rw [hml]; rfl) (Steps.refl _) (a := fa3) (argsL := [.null, .null, (.double (FP.ddiv (FP.i2d p0) (4616189618054758400 : UInt64))), (.double (FP.ddiv (FP.i2d p1) (4616189618054758400 : UInt64))), (.int p2), (.int (0 : Int32)), (.int (0 : Int32))]) (rest := [(.ref fa3)]) (lenOf pd_1 rfl) rfl (by show 2 * 0 + _ ≤ _; exact Nat.le_of_eq rfl) (hb hby at_57) (fun _ _ => ⟨rfl, e3, (by decide : 1 + 0 ≤ _), (by decide : 7 + 0 ≤ _)⟩)
      dsimp only [Pt.U, Pt.locs, Pt.cells, Pt.slots] at X4 l4 y4 z4 st4 hQ4
      subst l4 y4 z4
      obtain ⟨rfl, N4q, K4, Q4_0, Q4_1, Q4_2, Q4_3, Q4_4, Q4_5⟩ := hQ4
      have O4 := O3.keep K4 (allS gn_fa3 all0)
      have KK4 : Keep h0 T4.heap [] := K3.trans K4 (allS (Or.inr gh_fa3) all0)
      have N4 := Fr.app N0 N4q
      by_cases hc5 : (0 : Int32) < p0
      · by_cases hc6 : (0 : Int32) < p2
        · obtain ⟨cq7, kq7, q7a, q7b, q7c⟩ := isOf hZ rfl Q4_0
          obtain ⟨_, _, ⟨T7, L7, k7, n7⟩, -, X7, ⟨Lc7, hQ7, l7, y7, z7⟩, st7⟩ := X4.virtualBack hx (y := (⟨"com/example/musterpoint/musterpoint/world/CivilianSighting", "needsHelp", "()Z"⟩ : MethodName)) (z := (⟨"com/example/musterpoint/musterpoint/world/CivilianSighting", "needsHelp", "()Z"⟩ : MethodName)) hown (mvT hZ (hw _ (List.mem_of_getElem? (i := 29) rfl))) (mvT hZ (hw _ (List.mem_of_getElem? (i := 30) rfl))) (notFace_of_selects (args := #[]) (mvT hZ (hw _ (List.mem_of_getElem? (i := 32) rfl)))) (mvT hZ (hw _ (List.mem_of_getElem? (i := 32) rfl))) (mvT hZ (hw _ (List.mem_of_getElem? (i := 31) rfl))) (by decide) (backOf (W := 0) (rm4 l Z a0 hw [] fa3 (FP.ddiv (FP.i2d p0) (4616189618054758400 : UInt64)) (FP.ddiv (FP.i2d p1) (4616189618054758400 : UInt64)) p2 (nar .boolean (0 : Int32)) (nar .boolean (0 : Int32)) T4.heap n0 O4 Q4_1 Q4_2 Q4_3 Q4_4 Q4_5) hZ (hw _ (List.mem_of_getElem? (i := 33) rfl)) (hw _ (List.mem_of_getElem? (i := 3) rfl)) (by decide) (by decide)) q7a q7c (g := (mkF m 117 #[.val (.int p0), .val (.int p1), .val (.int p2), .val (.int p3), .val (.int (0 : Int32)), .val (.int (0 : Int32)), .val (.double (FP.ddiv (FP.i2d p0) (4616189618054758400 : UInt64))), .second, .val (.double (FP.ddiv (FP.i2d p1) (4616189618054758400 : UInt64))), .second, .val (.ref fa3), .val (.int (1 : Int32))] [(.ref fa3)])) rfl (by rw [hml]; rfl) (Steps.refl _) (argsL := []) (rest := []) (lenOf pd_2 rfl) rfl (by show 2 * 0 + _ ≤ _; exact Nat.le_of_eq rfl) (hb hby at_117) (fun _ _ => ⟨rfl, rfl, (by decide : 1 + 0 ≤ _), (by decide : 7 + 0 ≤ _)⟩)
          dsimp only [Pt.U, Pt.locs, Pt.cells, Pt.slots] at X7 l7 y7 z7 st7 hQ7
          subst l7 y7 z7
          obtain ⟨rfl, N7q, e7⟩ := hQ7
          have N7 := Fr.app N4 N7q
          obtain ⟨fs, hr, hrun, hended, hW, hsame⟩ := X7.leave (v := some (.int (1 : Int32))) (fun h => by rw [Bd.returns] at h; cases h)
          refine ⟨_, _, pre0 _ ?_, hrun, hended, _, _, rfl, ?_, ⟨_, rfl⟩, hW, hsame.mono (by decide) (by decide)⟩
          · show Steps p.tables e below (s₁.setTop (mkF m 0 #[.val (.int p0), .val (.int p1), .val (.int p2), .val (.int p3), .unset, .unset, .unset, .unset, .unset, .unset, .unset, .unset] [])) _
            refine XS.iloadN X0.here hx rfl (hb hby at_0) rfl ?_
            show Steps p.tables e below (s₁.setTop (mkF m 1 #[.val (.int p0), .val (.int p1), .val (.int p2), .val (.int p3), .unset, .unset, .unset, .unset, .unset, .unset, .unset, .unset] [(.int p3)])) _
            refine XS.iconst X0.here hx rfl (hb hby at_1) ?_
            show Steps p.tables e below (s₁.setTop (mkF m 2 #[.val (.int p0), .val (.int p1), .val (.int p2), .val (.int p3), .unset, .unset, .unset, .unset, .unset, .unset, .unset, .unset] [(.int (1 : Int32)), (.int p3)])) _
            refine XS.iand X0.here hx rfl (hb hby at_2) rfl ?_
            show Steps p.tables e below (s₁.setTop (mkF m 3 #[.val (.int p0), .val (.int p1), .val (.int p2), .val (.int p3), .unset, .unset, .unset, .unset, .unset, .unset, .unset, .unset] [(.int (p3 &&& (1 : Int32)))])) _
            refine XS.ifYes X0.here hx rfl (pc0 := 3) (pc' := 10) rfl (hb hby at_3) rfl ((if0 _ _).trans (teq hc1).1) (by decide) (by decide) ?_
            show Steps p.tables e below (s₁.setTop (mkF m 10 #[.val (.int p0), .val (.int p1), .val (.int p2), .val (.int p3), .unset, .unset, .unset, .unset, .unset, .unset, .unset, .unset] [])) _
            refine XS.iconst X0.here hx rfl (hb hby at_10) ?_
            show Steps p.tables e below (s₁.setTop (mkF m 11 #[.val (.int p0), .val (.int p1), .val (.int p2), .val (.int p3), .unset, .unset, .unset, .unset, .unset, .unset, .unset, .unset] [(.int (0 : Int32))])) _
            refine XS.istore X0.here hx rfl (hb hby at_11) rfl (l' := #[.val (.int p0), .val (.int p1), .val (.int p2), .val (.int p3), .val (.int (0 : Int32)), .unset, .unset, .unset, .unset, .unset, .unset, .unset]) rfl ?_
            show Steps p.tables e below (s₁.setTop (mkF m 13 #[.val (.int p0), .val (.int p1), .val (.int p2), .val (.int p3), .val (.int (0 : Int32)), .unset, .unset, .unset, .unset, .unset, .unset, .unset] [])) _
            refine XS.iloadN X0.here hx rfl (hb hby at_13) rfl ?_
            show Steps p.tables e below (s₁.setTop (mkF m 14 #[.val (.int p0), .val (.int p1), .val (.int p2), .val (.int p3), .val (.int (0 : Int32)), .unset, .unset, .unset, .unset, .unset, .unset, .unset] [(.int p3)])) _
            refine XS.iconst X0.here hx rfl (hb hby at_14) ?_
            show Steps p.tables e below (s₁.setTop (mkF m 15 #[.val (.int p0), .val (.int p1), .val (.int p2), .val (.int p3), .val (.int (0 : Int32)), .unset, .unset, .unset, .unset, .unset, .unset, .unset] [(.int (2 : Int32)), (.int p3)])) _
            refine XS.iand X0.here hx rfl (hb hby at_15) rfl ?_
            show Steps p.tables e below (s₁.setTop (mkF m 16 #[.val (.int p0), .val (.int p1), .val (.int p2), .val (.int p3), .val (.int (0 : Int32)), .unset, .unset, .unset, .unset, .unset, .unset, .unset] [(.int (p3 &&& (2 : Int32)))])) _
            refine XS.ifYes X0.here hx rfl (pc0 := 16) (pc' := 23) rfl (hb hby at_16) rfl ((if0 _ _).trans (teq hc2).1) (by decide) (by decide) ?_
            show Steps p.tables e below (s₁.setTop (mkF m 23 #[.val (.int p0), .val (.int p1), .val (.int p2), .val (.int p3), .val (.int (0 : Int32)), .unset, .unset, .unset, .unset, .unset, .unset, .unset] [])) _
            refine XS.iconst X0.here hx rfl (hb hby at_23) ?_
            show Steps p.tables e below (s₁.setTop (mkF m 24 #[.val (.int p0), .val (.int p1), .val (.int p2), .val (.int p3), .val (.int (0 : Int32)), .unset, .unset, .unset, .unset, .unset, .unset, .unset] [(.int (0 : Int32))])) _
            refine XS.istore X0.here hx rfl (hb hby at_24) rfl (l' := #[.val (.int p0), .val (.int p1), .val (.int p2), .val (.int p3), .val (.int (0 : Int32)), .val (.int (0 : Int32)), .unset, .unset, .unset, .unset, .unset, .unset]) rfl ?_
            show Steps p.tables e below (s₁.setTop (mkF m 26 #[.val (.int p0), .val (.int p1), .val (.int p2), .val (.int p3), .val (.int (0 : Int32)), .val (.int (0 : Int32)), .unset, .unset, .unset, .unset, .unset, .unset] [])) _
            refine XS.iloadN X0.here hx rfl (hb hby at_26) rfl ?_
            show Steps p.tables e below (s₁.setTop (mkF m 27 #[.val (.int p0), .val (.int p1), .val (.int p2), .val (.int p3), .val (.int (0 : Int32)), .val (.int (0 : Int32)), .unset, .unset, .unset, .unset, .unset, .unset] [(.int p0)])) _
            refine XS.i2dS X0.here hx rfl (hb hby at_27) rfl rfl ?_
            show Steps p.tables e below (s₁.setTop (mkF m 28 #[.val (.int p0), .val (.int p1), .val (.int p2), .val (.int p3), .val (.int (0 : Int32)), .val (.int (0 : Int32)), .unset, .unset, .unset, .unset, .unset, .unset] [(.double (FP.i2d p0))])) _
            refine X0.ldc2DoubleC hx hown (mvT hZ (hw _ (List.mem_of_getElem? (i := 0) rfl))) (g := (mkF m 28 #[.val (.int p0), .val (.int p1), .val (.int p2), .val (.int p3), .val (.int (0 : Int32)), .val (.int (0 : Int32)), .unset, .unset, .unset, .unset, .unset, .unset] [(.double (FP.i2d p0))])) rfl (hb hby at_28) _ ?_
            show Steps p.tables e below (s₁.setTop (mkF m 31 #[.val (.int p0), .val (.int p1), .val (.int p2), .val (.int p3), .val (.int (0 : Int32)), .val (.int (0 : Int32)), .unset, .unset, .unset, .unset, .unset, .unset] [(.double (4616189618054758400 : UInt64)), (.double (FP.i2d p0))])) _
            refine XS.ddivS X0.here hx rfl (hb hby at_31) rfl (own_nn p0) rfl ?_
            show Steps p.tables e below (s₁.setTop (mkF m 32 #[.val (.int p0), .val (.int p1), .val (.int p2), .val (.int p3), .val (.int (0 : Int32)), .val (.int (0 : Int32)), .unset, .unset, .unset, .unset, .unset, .unset] [(.double (FP.ddiv (FP.i2d p0) (4616189618054758400 : UInt64)))])) _
            refine XS.dstore X0.here hx rfl (hb hby at_32) rfl (l' := #[.val (.int p0), .val (.int p1), .val (.int p2), .val (.int p3), .val (.int (0 : Int32)), .val (.int (0 : Int32)), .val (.double (FP.ddiv (FP.i2d p0) (4616189618054758400 : UInt64))), .second, .unset, .unset, .unset, .unset]) rfl ?_
            show Steps p.tables e below (s₁.setTop (mkF m 34 #[.val (.int p0), .val (.int p1), .val (.int p2), .val (.int p3), .val (.int (0 : Int32)), .val (.int (0 : Int32)), .val (.double (FP.ddiv (FP.i2d p0) (4616189618054758400 : UInt64))), .second, .unset, .unset, .unset, .unset] [])) _
            refine XS.iloadN X0.here hx rfl (hb hby at_34) rfl ?_
            show Steps p.tables e below (s₁.setTop (mkF m 35 #[.val (.int p0), .val (.int p1), .val (.int p2), .val (.int p3), .val (.int (0 : Int32)), .val (.int (0 : Int32)), .val (.double (FP.ddiv (FP.i2d p0) (4616189618054758400 : UInt64))), .second, .unset, .unset, .unset, .unset] [(.int p1)])) _
            refine XS.i2dS X0.here hx rfl (hb hby at_35) rfl rfl ?_
            show Steps p.tables e below (s₁.setTop (mkF m 36 #[.val (.int p0), .val (.int p1), .val (.int p2), .val (.int p3), .val (.int (0 : Int32)), .val (.int (0 : Int32)), .val (.double (FP.ddiv (FP.i2d p0) (4616189618054758400 : UInt64))), .second, .unset, .unset, .unset, .unset] [(.double (FP.i2d p1))])) _
            refine X0.ldc2DoubleC hx hown (mvT hZ (hw _ (List.mem_of_getElem? (i := 0) rfl))) (g := (mkF m 36 #[.val (.int p0), .val (.int p1), .val (.int p2), .val (.int p3), .val (.int (0 : Int32)), .val (.int (0 : Int32)), .val (.double (FP.ddiv (FP.i2d p0) (4616189618054758400 : UInt64))), .second, .unset, .unset, .unset, .unset] [(.double (FP.i2d p1))])) rfl (hb hby at_36) _ ?_
            show Steps p.tables e below (s₁.setTop (mkF m 39 #[.val (.int p0), .val (.int p1), .val (.int p2), .val (.int p3), .val (.int (0 : Int32)), .val (.int (0 : Int32)), .val (.double (FP.ddiv (FP.i2d p0) (4616189618054758400 : UInt64))), .second, .unset, .unset, .unset, .unset] [(.double (4616189618054758400 : UInt64)), (.double (FP.i2d p1))])) _
            refine XS.ddivS X0.here hx rfl (hb hby at_39) rfl (own_nn p1) rfl ?_
            show Steps p.tables e below (s₁.setTop (mkF m 40 #[.val (.int p0), .val (.int p1), .val (.int p2), .val (.int p3), .val (.int (0 : Int32)), .val (.int (0 : Int32)), .val (.double (FP.ddiv (FP.i2d p0) (4616189618054758400 : UInt64))), .second, .unset, .unset, .unset, .unset] [(.double (FP.ddiv (FP.i2d p1) (4616189618054758400 : UInt64)))])) _
            refine XS.dstore X0.here hx rfl (hb hby at_40) rfl (l' := #[.val (.int p0), .val (.int p1), .val (.int p2), .val (.int p3), .val (.int (0 : Int32)), .val (.int (0 : Int32)), .val (.double (FP.ddiv (FP.i2d p0) (4616189618054758400 : UInt64))), .second, .val (.double (FP.ddiv (FP.i2d p1) (4616189618054758400 : UInt64))), .second, .unset, .unset]) rfl ?_
            show Steps p.tables e below (s₁.setTop (mkF m 42 #[.val (.int p0), .val (.int p1), .val (.int p2), .val (.int p3), .val (.int (0 : Int32)), .val (.int (0 : Int32)), .val (.double (FP.ddiv (FP.i2d p0) (4616189618054758400 : UInt64))), .second, .val (.double (FP.ddiv (FP.i2d p1) (4616189618054758400 : UInt64))), .second, .unset, .unset] [])) _
            refine st3 _ ?_
            show Steps p.tables e below (T3.setTop (mkF m 45 #[.val (.int p0), .val (.int p1), .val (.int p2), .val (.int p3), .val (.int (0 : Int32)), .val (.int (0 : Int32)), .val (.double (FP.ddiv (FP.i2d p0) (4616189618054758400 : UInt64))), .second, .val (.double (FP.ddiv (FP.i2d p1) (4616189618054758400 : UInt64))), .second, .unset, .unset] [(.ref fa3)])) _
            refine XS.dup X3.here hx rfl (hb hby at_45) rfl rfl ?_
            show Steps p.tables e below (T3.setTop (mkF m 46 #[.val (.int p0), .val (.int p1), .val (.int p2), .val (.int p3), .val (.int (0 : Int32)), .val (.int (0 : Int32)), .val (.double (FP.ddiv (FP.i2d p0) (4616189618054758400 : UInt64))), .second, .val (.double (FP.ddiv (FP.i2d p1) (4616189618054758400 : UInt64))), .second, .unset, .unset] [(.ref fa3), (.ref fa3)])) _
            refine XS.aconstNull X3.here hx rfl (hb hby at_46) ?_
            show Steps p.tables e below (T3.setTop (mkF m 47 #[.val (.int p0), .val (.int p1), .val (.int p2), .val (.int p3), .val (.int (0 : Int32)), .val (.int (0 : Int32)), .val (.double (FP.ddiv (FP.i2d p0) (4616189618054758400 : UInt64))), .second, .val (.double (FP.ddiv (FP.i2d p1) (4616189618054758400 : UInt64))), .second, .unset, .unset] [.null, (.ref fa3), (.ref fa3)])) _
            refine XS.aconstNull X3.here hx rfl (hb hby at_47) ?_
            show Steps p.tables e below (T3.setTop (mkF m 48 #[.val (.int p0), .val (.int p1), .val (.int p2), .val (.int p3), .val (.int (0 : Int32)), .val (.int (0 : Int32)), .val (.double (FP.ddiv (FP.i2d p0) (4616189618054758400 : UInt64))), .second, .val (.double (FP.ddiv (FP.i2d p1) (4616189618054758400 : UInt64))), .second, .unset, .unset] [.null, .null, (.ref fa3), (.ref fa3)])) _
            refine XS.dload X3.here hx rfl (hb hby at_48) rfl ?_
            show Steps p.tables e below (T3.setTop (mkF m 50 #[.val (.int p0), .val (.int p1), .val (.int p2), .val (.int p3), .val (.int (0 : Int32)), .val (.int (0 : Int32)), .val (.double (FP.ddiv (FP.i2d p0) (4616189618054758400 : UInt64))), .second, .val (.double (FP.ddiv (FP.i2d p1) (4616189618054758400 : UInt64))), .second, .unset, .unset] [(.double (FP.ddiv (FP.i2d p0) (4616189618054758400 : UInt64))), .null, .null, (.ref fa3), (.ref fa3)])) _
            refine XS.dload X3.here hx rfl (hb hby at_50) rfl ?_
            show Steps p.tables e below (T3.setTop (mkF m 52 #[.val (.int p0), .val (.int p1), .val (.int p2), .val (.int p3), .val (.int (0 : Int32)), .val (.int (0 : Int32)), .val (.double (FP.ddiv (FP.i2d p0) (4616189618054758400 : UInt64))), .second, .val (.double (FP.ddiv (FP.i2d p1) (4616189618054758400 : UInt64))), .second, .unset, .unset] [(.double (FP.ddiv (FP.i2d p1) (4616189618054758400 : UInt64))), (.double (FP.ddiv (FP.i2d p0) (4616189618054758400 : UInt64))), .null, .null, (.ref fa3), (.ref fa3)])) _
            refine XS.iloadN X3.here hx rfl (hb hby at_52) rfl ?_
            show Steps p.tables e below (T3.setTop (mkF m 53 #[.val (.int p0), .val (.int p1), .val (.int p2), .val (.int p3), .val (.int (0 : Int32)), .val (.int (0 : Int32)), .val (.double (FP.ddiv (FP.i2d p0) (4616189618054758400 : UInt64))), .second, .val (.double (FP.ddiv (FP.i2d p1) (4616189618054758400 : UInt64))), .second, .unset, .unset] [(.int p2), (.double (FP.ddiv (FP.i2d p1) (4616189618054758400 : UInt64))), (.double (FP.ddiv (FP.i2d p0) (4616189618054758400 : UInt64))), .null, .null, (.ref fa3), (.ref fa3)])) _
            refine XS.iload X3.here hx rfl (hb hby at_53) rfl ?_
            show Steps p.tables e below (T3.setTop (mkF m 55 #[.val (.int p0), .val (.int p1), .val (.int p2), .val (.int p3), .val (.int (0 : Int32)), .val (.int (0 : Int32)), .val (.double (FP.ddiv (FP.i2d p0) (4616189618054758400 : UInt64))), .second, .val (.double (FP.ddiv (FP.i2d p1) (4616189618054758400 : UInt64))), .second, .unset, .unset] [(.int (0 : Int32)), (.int p2), (.double (FP.ddiv (FP.i2d p1) (4616189618054758400 : UInt64))), (.double (FP.ddiv (FP.i2d p0) (4616189618054758400 : UInt64))), .null, .null, (.ref fa3), (.ref fa3)])) _
            refine XS.iload X3.here hx rfl (hb hby at_55) rfl ?_
            show Steps p.tables e below (T3.setTop (mkF m 57 #[.val (.int p0), .val (.int p1), .val (.int p2), .val (.int p3), .val (.int (0 : Int32)), .val (.int (0 : Int32)), .val (.double (FP.ddiv (FP.i2d p0) (4616189618054758400 : UInt64))), .second, .val (.double (FP.ddiv (FP.i2d p1) (4616189618054758400 : UInt64))), .second, .unset, .unset] [(.int (0 : Int32)), (.int (0 : Int32)), (.int p2), (.double (FP.ddiv (FP.i2d p1) (4616189618054758400 : UInt64))), (.double (FP.ddiv (FP.i2d p0) (4616189618054758400 : UInt64))), .null, .null, (.ref fa3), (.ref fa3)])) _
            refine st4.trans ?_
            show Steps p.tables e below (T4.setTop (mkF m 60 #[.val (.int p0), .val (.int p1), .val (.int p2), .val (.int p3), .val (.int (0 : Int32)), .val (.int (0 : Int32)), .val (.double (FP.ddiv (FP.i2d p0) (4616189618054758400 : UInt64))), .second, .val (.double (FP.ddiv (FP.i2d p1) (4616189618054758400 : UInt64))), .second, .unset, .unset] [(.ref fa3)])) _
            refine XS.astore X4.here hx rfl (hb hby at_60) rfl rfl (l' := #[.val (.int p0), .val (.int p1), .val (.int p2), .val (.int p3), .val (.int (0 : Int32)), .val (.int (0 : Int32)), .val (.double (FP.ddiv (FP.i2d p0) (4616189618054758400 : UInt64))), .second, .val (.double (FP.ddiv (FP.i2d p1) (4616189618054758400 : UInt64))), .second, .val (.ref fa3), .unset]) rfl ?_
            show Steps p.tables e below (T4.setTop (mkF m 62 #[.val (.int p0), .val (.int p1), .val (.int p2), .val (.int p3), .val (.int (0 : Int32)), .val (.int (0 : Int32)), .val (.double (FP.ddiv (FP.i2d p0) (4616189618054758400 : UInt64))), .second, .val (.double (FP.ddiv (FP.i2d p1) (4616189618054758400 : UInt64))), .second, .val (.ref fa3), .unset] [])) _
            refine XS.iloadN X4.here hx rfl (hb hby at_62) rfl ?_
            show Steps p.tables e below (T4.setTop (mkF m 63 #[.val (.int p0), .val (.int p1), .val (.int p2), .val (.int p3), .val (.int (0 : Int32)), .val (.int (0 : Int32)), .val (.double (FP.ddiv (FP.i2d p0) (4616189618054758400 : UInt64))), .second, .val (.double (FP.ddiv (FP.i2d p1) (4616189618054758400 : UInt64))), .second, .val (.ref fa3), .unset] [(.int p0)])) _
            refine XS.ifYes X4.here hx rfl (pc0 := 63) (pc' := 72) rfl (hb hby at_63) rfl ((if0 _ _).trans (tlt hc5).2.2.1) (by decide) (by decide) ?_
            show Steps p.tables e below (T4.setTop (mkF m 72 #[.val (.int p0), .val (.int p1), .val (.int p2), .val (.int p3), .val (.int (0 : Int32)), .val (.int (0 : Int32)), .val (.double (FP.ddiv (FP.i2d p0) (4616189618054758400 : UInt64))), .second, .val (.double (FP.ddiv (FP.i2d p1) (4616189618054758400 : UInt64))), .second, .val (.ref fa3), .unset] [])) _
            refine XS.iload X4.here hx rfl (hb hby at_72) rfl ?_
            show Steps p.tables e below (T4.setTop (mkF m 74 #[.val (.int p0), .val (.int p1), .val (.int p2), .val (.int p3), .val (.int (0 : Int32)), .val (.int (0 : Int32)), .val (.double (FP.ddiv (FP.i2d p0) (4616189618054758400 : UInt64))), .second, .val (.double (FP.ddiv (FP.i2d p1) (4616189618054758400 : UInt64))), .second, .val (.ref fa3), .unset] [(.int (0 : Int32))])) _
            refine XS.ifYes X4.here hx rfl (pc0 := 74) (pc' := 83) rfl (hb hby at_74) rfl ((if0 _ _).trans (teq (by decide : (0 : Int32) = (0 : Int32))).1) (by decide) (by decide) ?_
            show Steps p.tables e below (T4.setTop (mkF m 83 #[.val (.int p0), .val (.int p1), .val (.int p2), .val (.int p3), .val (.int (0 : Int32)), .val (.int (0 : Int32)), .val (.double (FP.ddiv (FP.i2d p0) (4616189618054758400 : UInt64))), .second, .val (.double (FP.ddiv (FP.i2d p1) (4616189618054758400 : UInt64))), .second, .val (.ref fa3), .unset] [])) _
            refine XS.iload X4.here hx rfl (hb hby at_83) rfl ?_
            show Steps p.tables e below (T4.setTop (mkF m 85 #[.val (.int p0), .val (.int p1), .val (.int p2), .val (.int p3), .val (.int (0 : Int32)), .val (.int (0 : Int32)), .val (.double (FP.ddiv (FP.i2d p0) (4616189618054758400 : UInt64))), .second, .val (.double (FP.ddiv (FP.i2d p1) (4616189618054758400 : UInt64))), .second, .val (.ref fa3), .unset] [(.int (0 : Int32))])) _
            refine XS.ifYes X4.here hx rfl (pc0 := 85) (pc' := 94) rfl (hb hby at_85) rfl ((if0 _ _).trans (teq (by decide : (0 : Int32) = (0 : Int32))).1) (by decide) (by decide) ?_
            show Steps p.tables e below (T4.setTop (mkF m 94 #[.val (.int p0), .val (.int p1), .val (.int p2), .val (.int p3), .val (.int (0 : Int32)), .val (.int (0 : Int32)), .val (.double (FP.ddiv (FP.i2d p0) (4616189618054758400 : UInt64))), .second, .val (.double (FP.ddiv (FP.i2d p1) (4616189618054758400 : UInt64))), .second, .val (.ref fa3), .unset] [])) _
            refine XS.iloadN X4.here hx rfl (hb hby at_94) rfl ?_
            show Steps p.tables e below (T4.setTop (mkF m 95 #[.val (.int p0), .val (.int p1), .val (.int p2), .val (.int p3), .val (.int (0 : Int32)), .val (.int (0 : Int32)), .val (.double (FP.ddiv (FP.i2d p0) (4616189618054758400 : UInt64))), .second, .val (.double (FP.ddiv (FP.i2d p1) (4616189618054758400 : UInt64))), .second, .val (.ref fa3), .unset] [(.int p2)])) _
            refine XS.ifNo X4.here hx rfl (hb hby at_95) rfl ((if0 _ _).trans (tlt hc6).2.2.2) ?_
            show Steps p.tables e below (T4.setTop (mkF m 98 #[.val (.int p0), .val (.int p1), .val (.int p2), .val (.int p3), .val (.int (0 : Int32)), .val (.int (0 : Int32)), .val (.double (FP.ddiv (FP.i2d p0) (4616189618054758400 : UInt64))), .second, .val (.double (FP.ddiv (FP.i2d p1) (4616189618054758400 : UInt64))), .second, .val (.ref fa3), .unset] [])) _
            refine XS.iconst X4.here hx rfl (hb hby at_98) ?_
            show Steps p.tables e below (T4.setTop (mkF m 99 #[.val (.int p0), .val (.int p1), .val (.int p2), .val (.int p3), .val (.int (0 : Int32)), .val (.int (0 : Int32)), .val (.double (FP.ddiv (FP.i2d p0) (4616189618054758400 : UInt64))), .second, .val (.double (FP.ddiv (FP.i2d p1) (4616189618054758400 : UInt64))), .second, .val (.ref fa3), .unset] [(.int (1 : Int32))])) _
            refine XS.istore X4.here hx rfl (hb hby at_99) rfl (l' := #[.val (.int p0), .val (.int p1), .val (.int p2), .val (.int p3), .val (.int (0 : Int32)), .val (.int (0 : Int32)), .val (.double (FP.ddiv (FP.i2d p0) (4616189618054758400 : UInt64))), .second, .val (.double (FP.ddiv (FP.i2d p1) (4616189618054758400 : UInt64))), .second, .val (.ref fa3), .val (.int (1 : Int32))]) rfl ?_
            show Steps p.tables e below (T4.setTop (mkF m 101 #[.val (.int p0), .val (.int p1), .val (.int p2), .val (.int p3), .val (.int (0 : Int32)), .val (.int (0 : Int32)), .val (.double (FP.ddiv (FP.i2d p0) (4616189618054758400 : UInt64))), .second, .val (.double (FP.ddiv (FP.i2d p1) (4616189618054758400 : UInt64))), .second, .val (.ref fa3), .val (.int (1 : Int32))] [])) _
            refine XS.goto X4.here hx rfl (pc0 := 101) (pc' := 115) rfl (hb hby at_101) (by decide) (by decide) ?_
            show Steps p.tables e below (T4.setTop (mkF m 115 #[.val (.int p0), .val (.int p1), .val (.int p2), .val (.int p3), .val (.int (0 : Int32)), .val (.int (0 : Int32)), .val (.double (FP.ddiv (FP.i2d p0) (4616189618054758400 : UInt64))), .second, .val (.double (FP.ddiv (FP.i2d p1) (4616189618054758400 : UInt64))), .second, .val (.ref fa3), .val (.int (1 : Int32))] [])) _
            refine XS.aload X4.here hx rfl (hb hby at_115) rfl rfl ?_
            show Steps p.tables e below (T4.setTop (mkF m 117 #[.val (.int p0), .val (.int p1), .val (.int p2), .val (.int p3), .val (.int (0 : Int32)), .val (.int (0 : Int32)), .val (.double (FP.ddiv (FP.i2d p0) (4616189618054758400 : UInt64))), .second, .val (.double (FP.ddiv (FP.i2d p1) (4616189618054758400 : UInt64))), .second, .val (.ref fa3), .val (.int (1 : Int32))] [(.ref fa3)])) _
            refine st7.trans ?_
            show Steps p.tables e below (T7.setTop (mkF m 120 #[.val (.int p0), .val (.int p1), .val (.int p2), .val (.int p3), .val (.int (0 : Int32)), .val (.int (0 : Int32)), .val (.double (FP.ddiv (FP.i2d p0) (4616189618054758400 : UInt64))), .second, .val (.double (FP.ddiv (FP.i2d p1) (4616189618054758400 : UInt64))), .second, .val (.ref fa3), .val (.int (1 : Int32))] [(.int (own_need (FP.ddiv (FP.i2d p0) (4616189618054758400 : UInt64)) (FP.ddiv (FP.i2d p1) (4616189618054758400 : UInt64)) p2 (nar .boolean (0 : Int32)) (nar .boolean (0 : Int32))))])) _
            refine XS.iload X7.here hx rfl (hb hby at_120) rfl ?_
            show Steps p.tables e below (T7.setTop (mkF m 122 #[.val (.int p0), .val (.int p1), .val (.int p2), .val (.int p3), .val (.int (0 : Int32)), .val (.int (0 : Int32)), .val (.double (FP.ddiv (FP.i2d p0) (4616189618054758400 : UInt64))), .second, .val (.double (FP.ddiv (FP.i2d p1) (4616189618054758400 : UInt64))), .second, .val (.ref fa3), .val (.int (1 : Int32))] [(.int (1 : Int32)), (.int (own_need (FP.ddiv (FP.i2d p0) (4616189618054758400 : UInt64)) (FP.ddiv (FP.i2d p1) (4616189618054758400 : UInt64)) p2 (nar .boolean (0 : Int32)) (nar .boolean (0 : Int32))))])) _
            refine XS.icmpNo X7.here hx rfl (hb hby at_122) rfl (teq (by simp [own_need, own_pos, own_nar0, own_nar1, hc1, hc2, hc5, hc6] : (own_need (FP.ddiv (FP.i2d p0) (4616189618054758400 : UInt64)) (FP.ddiv (FP.i2d p1) (4616189618054758400 : UInt64)) p2 (nar .boolean (0 : Int32)) (nar .boolean (0 : Int32))) = (1 : Int32))).2 ?_
            show Steps p.tables e below (T7.setTop (mkF m 125 #[.val (.int p0), .val (.int p1), .val (.int p2), .val (.int p3), .val (.int (0 : Int32)), .val (.int (0 : Int32)), .val (.double (FP.ddiv (FP.i2d p0) (4616189618054758400 : UInt64))), .second, .val (.double (FP.ddiv (FP.i2d p1) (4616189618054758400 : UInt64))), .second, .val (.ref fa3), .val (.int (1 : Int32))] [])) _
            refine XS.iconst X7.here hx rfl (hb hby at_125) ?_
            show Steps p.tables e below (T7.setTop (mkF m 126 #[.val (.int p0), .val (.int p1), .val (.int p2), .val (.int p3), .val (.int (0 : Int32)), .val (.int (0 : Int32)), .val (.double (FP.ddiv (FP.i2d p0) (4616189618054758400 : UInt64))), .second, .val (.double (FP.ddiv (FP.i2d p1) (4616189618054758400 : UInt64))), .second, .val (.ref fa3), .val (.int (1 : Int32))] [(.int (1 : Int32))])) _
            refine XS.goto X7.here hx rfl (pc0 := 126) (pc' := 130) rfl (hb hby at_126) (by decide) (by decide) ?_
            show Steps p.tables e below (T7.setTop (mkF m 130 #[.val (.int p0), .val (.int p1), .val (.int p2), .val (.int p3), .val (.int (0 : Int32)), .val (.int (0 : Int32)), .val (.double (FP.ddiv (FP.i2d p0) (4616189618054758400 : UInt64))), .second, .val (.double (FP.ddiv (FP.i2d p1) (4616189618054758400 : UInt64))), .second, .val (.ref fa3), .val (.int (1 : Int32))] [(.int (1 : Int32))])) _
            exact retN X7 hx (t := .boolean) Bd.returns (by simp) (hb hby at_130) hr
          · show Q_rm0 Z p0 p1 p2 p3 h0 n0 _ T7.heap _
            rw [e7]
            exact ⟨rfl, N7, KK4⟩
        · by_cases hc8 : (0 : Int32) < p1
          · obtain ⟨cq9, kq9, q9a, q9b, q9c⟩ := isOf hZ rfl Q4_0
            obtain ⟨_, _, ⟨T9, L9, k9, n9⟩, -, X9, ⟨Lc9, hQ9, l9, y9, z9⟩, st9⟩ := X4.virtualBack hx (y := (⟨"com/example/musterpoint/musterpoint/world/CivilianSighting", "needsHelp", "()Z"⟩ : MethodName)) (z := (⟨"com/example/musterpoint/musterpoint/world/CivilianSighting", "needsHelp", "()Z"⟩ : MethodName)) hown (mvT hZ (hw _ (List.mem_of_getElem? (i := 29) rfl))) (mvT hZ (hw _ (List.mem_of_getElem? (i := 30) rfl))) (notFace_of_selects (args := #[]) (mvT hZ (hw _ (List.mem_of_getElem? (i := 32) rfl)))) (mvT hZ (hw _ (List.mem_of_getElem? (i := 32) rfl))) (mvT hZ (hw _ (List.mem_of_getElem? (i := 31) rfl))) (by decide) (backOf (W := 0) (rm4 l Z a0 hw [] fa3 (FP.ddiv (FP.i2d p0) (4616189618054758400 : UInt64)) (FP.ddiv (FP.i2d p1) (4616189618054758400 : UInt64)) p2 (nar .boolean (0 : Int32)) (nar .boolean (0 : Int32)) T4.heap n0 O4 Q4_1 Q4_2 Q4_3 Q4_4 Q4_5) hZ (hw _ (List.mem_of_getElem? (i := 33) rfl)) (hw _ (List.mem_of_getElem? (i := 3) rfl)) (by decide) (by decide)) q9a q9c (g := (mkF m 117 #[.val (.int p0), .val (.int p1), .val (.int p2), .val (.int p3), .val (.int (0 : Int32)), .val (.int (0 : Int32)), .val (.double (FP.ddiv (FP.i2d p0) (4616189618054758400 : UInt64))), .second, .val (.double (FP.ddiv (FP.i2d p1) (4616189618054758400 : UInt64))), .second, .val (.ref fa3), .val (.int (1 : Int32))] [(.ref fa3)])) rfl (by rw [hml]; rfl) (Steps.refl _) (argsL := []) (rest := []) (lenOf pd_2 rfl) rfl (by show 2 * 0 + _ ≤ _; exact Nat.le_of_eq rfl) (hb hby at_117) (fun _ _ => ⟨rfl, rfl, (by decide : 1 + 0 ≤ _), (by decide : 7 + 0 ≤ _)⟩)
            dsimp only [Pt.U, Pt.locs, Pt.cells, Pt.slots] at X9 l9 y9 z9 st9 hQ9
            subst l9 y9 z9
            obtain ⟨rfl, N9q, e9⟩ := hQ9
            have N9 := Fr.app N4 N9q
            obtain ⟨fs, hr, hrun, hended, hW, hsame⟩ := X9.leave (v := some (.int (1 : Int32))) (fun h => by rw [Bd.returns] at h; cases h)
            refine ⟨_, _, pre0 _ ?_, hrun, hended, _, _, rfl, ?_, ⟨_, rfl⟩, hW, hsame.mono (by decide) (by decide)⟩
            · show Steps p.tables e below (s₁.setTop (mkF m 0 #[.val (.int p0), .val (.int p1), .val (.int p2), .val (.int p3), .unset, .unset, .unset, .unset, .unset, .unset, .unset, .unset] [])) _
              refine XS.iloadN X0.here hx rfl (hb hby at_0) rfl ?_
              show Steps p.tables e below (s₁.setTop (mkF m 1 #[.val (.int p0), .val (.int p1), .val (.int p2), .val (.int p3), .unset, .unset, .unset, .unset, .unset, .unset, .unset, .unset] [(.int p3)])) _
              refine XS.iconst X0.here hx rfl (hb hby at_1) ?_
              show Steps p.tables e below (s₁.setTop (mkF m 2 #[.val (.int p0), .val (.int p1), .val (.int p2), .val (.int p3), .unset, .unset, .unset, .unset, .unset, .unset, .unset, .unset] [(.int (1 : Int32)), (.int p3)])) _
              refine XS.iand X0.here hx rfl (hb hby at_2) rfl ?_
              show Steps p.tables e below (s₁.setTop (mkF m 3 #[.val (.int p0), .val (.int p1), .val (.int p2), .val (.int p3), .unset, .unset, .unset, .unset, .unset, .unset, .unset, .unset] [(.int (p3 &&& (1 : Int32)))])) _
              refine XS.ifYes X0.here hx rfl (pc0 := 3) (pc' := 10) rfl (hb hby at_3) rfl ((if0 _ _).trans (teq hc1).1) (by decide) (by decide) ?_
              show Steps p.tables e below (s₁.setTop (mkF m 10 #[.val (.int p0), .val (.int p1), .val (.int p2), .val (.int p3), .unset, .unset, .unset, .unset, .unset, .unset, .unset, .unset] [])) _
              refine XS.iconst X0.here hx rfl (hb hby at_10) ?_
              show Steps p.tables e below (s₁.setTop (mkF m 11 #[.val (.int p0), .val (.int p1), .val (.int p2), .val (.int p3), .unset, .unset, .unset, .unset, .unset, .unset, .unset, .unset] [(.int (0 : Int32))])) _
              refine XS.istore X0.here hx rfl (hb hby at_11) rfl (l' := #[.val (.int p0), .val (.int p1), .val (.int p2), .val (.int p3), .val (.int (0 : Int32)), .unset, .unset, .unset, .unset, .unset, .unset, .unset]) rfl ?_
              show Steps p.tables e below (s₁.setTop (mkF m 13 #[.val (.int p0), .val (.int p1), .val (.int p2), .val (.int p3), .val (.int (0 : Int32)), .unset, .unset, .unset, .unset, .unset, .unset, .unset] [])) _
              refine XS.iloadN X0.here hx rfl (hb hby at_13) rfl ?_
              show Steps p.tables e below (s₁.setTop (mkF m 14 #[.val (.int p0), .val (.int p1), .val (.int p2), .val (.int p3), .val (.int (0 : Int32)), .unset, .unset, .unset, .unset, .unset, .unset, .unset] [(.int p3)])) _
              refine XS.iconst X0.here hx rfl (hb hby at_14) ?_
              show Steps p.tables e below (s₁.setTop (mkF m 15 #[.val (.int p0), .val (.int p1), .val (.int p2), .val (.int p3), .val (.int (0 : Int32)), .unset, .unset, .unset, .unset, .unset, .unset, .unset] [(.int (2 : Int32)), (.int p3)])) _
              refine XS.iand X0.here hx rfl (hb hby at_15) rfl ?_
              show Steps p.tables e below (s₁.setTop (mkF m 16 #[.val (.int p0), .val (.int p1), .val (.int p2), .val (.int p3), .val (.int (0 : Int32)), .unset, .unset, .unset, .unset, .unset, .unset, .unset] [(.int (p3 &&& (2 : Int32)))])) _
              refine XS.ifYes X0.here hx rfl (pc0 := 16) (pc' := 23) rfl (hb hby at_16) rfl ((if0 _ _).trans (teq hc2).1) (by decide) (by decide) ?_
              show Steps p.tables e below (s₁.setTop (mkF m 23 #[.val (.int p0), .val (.int p1), .val (.int p2), .val (.int p3), .val (.int (0 : Int32)), .unset, .unset, .unset, .unset, .unset, .unset, .unset] [])) _
              refine XS.iconst X0.here hx rfl (hb hby at_23) ?_
              show Steps p.tables e below (s₁.setTop (mkF m 24 #[.val (.int p0), .val (.int p1), .val (.int p2), .val (.int p3), .val (.int (0 : Int32)), .unset, .unset, .unset, .unset, .unset, .unset, .unset] [(.int (0 : Int32))])) _
              refine XS.istore X0.here hx rfl (hb hby at_24) rfl (l' := #[.val (.int p0), .val (.int p1), .val (.int p2), .val (.int p3), .val (.int (0 : Int32)), .val (.int (0 : Int32)), .unset, .unset, .unset, .unset, .unset, .unset]) rfl ?_
              show Steps p.tables e below (s₁.setTop (mkF m 26 #[.val (.int p0), .val (.int p1), .val (.int p2), .val (.int p3), .val (.int (0 : Int32)), .val (.int (0 : Int32)), .unset, .unset, .unset, .unset, .unset, .unset] [])) _
              refine XS.iloadN X0.here hx rfl (hb hby at_26) rfl ?_
              show Steps p.tables e below (s₁.setTop (mkF m 27 #[.val (.int p0), .val (.int p1), .val (.int p2), .val (.int p3), .val (.int (0 : Int32)), .val (.int (0 : Int32)), .unset, .unset, .unset, .unset, .unset, .unset] [(.int p0)])) _
              refine XS.i2dS X0.here hx rfl (hb hby at_27) rfl rfl ?_
              show Steps p.tables e below (s₁.setTop (mkF m 28 #[.val (.int p0), .val (.int p1), .val (.int p2), .val (.int p3), .val (.int (0 : Int32)), .val (.int (0 : Int32)), .unset, .unset, .unset, .unset, .unset, .unset] [(.double (FP.i2d p0))])) _
              refine X0.ldc2DoubleC hx hown (mvT hZ (hw _ (List.mem_of_getElem? (i := 0) rfl))) (g := (mkF m 28 #[.val (.int p0), .val (.int p1), .val (.int p2), .val (.int p3), .val (.int (0 : Int32)), .val (.int (0 : Int32)), .unset, .unset, .unset, .unset, .unset, .unset] [(.double (FP.i2d p0))])) rfl (hb hby at_28) _ ?_
              show Steps p.tables e below (s₁.setTop (mkF m 31 #[.val (.int p0), .val (.int p1), .val (.int p2), .val (.int p3), .val (.int (0 : Int32)), .val (.int (0 : Int32)), .unset, .unset, .unset, .unset, .unset, .unset] [(.double (4616189618054758400 : UInt64)), (.double (FP.i2d p0))])) _
              refine XS.ddivS X0.here hx rfl (hb hby at_31) rfl (own_nn p0) rfl ?_
              show Steps p.tables e below (s₁.setTop (mkF m 32 #[.val (.int p0), .val (.int p1), .val (.int p2), .val (.int p3), .val (.int (0 : Int32)), .val (.int (0 : Int32)), .unset, .unset, .unset, .unset, .unset, .unset] [(.double (FP.ddiv (FP.i2d p0) (4616189618054758400 : UInt64)))])) _
              refine XS.dstore X0.here hx rfl (hb hby at_32) rfl (l' := #[.val (.int p0), .val (.int p1), .val (.int p2), .val (.int p3), .val (.int (0 : Int32)), .val (.int (0 : Int32)), .val (.double (FP.ddiv (FP.i2d p0) (4616189618054758400 : UInt64))), .second, .unset, .unset, .unset, .unset]) rfl ?_
              show Steps p.tables e below (s₁.setTop (mkF m 34 #[.val (.int p0), .val (.int p1), .val (.int p2), .val (.int p3), .val (.int (0 : Int32)), .val (.int (0 : Int32)), .val (.double (FP.ddiv (FP.i2d p0) (4616189618054758400 : UInt64))), .second, .unset, .unset, .unset, .unset] [])) _
              refine XS.iloadN X0.here hx rfl (hb hby at_34) rfl ?_
              show Steps p.tables e below (s₁.setTop (mkF m 35 #[.val (.int p0), .val (.int p1), .val (.int p2), .val (.int p3), .val (.int (0 : Int32)), .val (.int (0 : Int32)), .val (.double (FP.ddiv (FP.i2d p0) (4616189618054758400 : UInt64))), .second, .unset, .unset, .unset, .unset] [(.int p1)])) _
              refine XS.i2dS X0.here hx rfl (hb hby at_35) rfl rfl ?_
              show Steps p.tables e below (s₁.setTop (mkF m 36 #[.val (.int p0), .val (.int p1), .val (.int p2), .val (.int p3), .val (.int (0 : Int32)), .val (.int (0 : Int32)), .val (.double (FP.ddiv (FP.i2d p0) (4616189618054758400 : UInt64))), .second, .unset, .unset, .unset, .unset] [(.double (FP.i2d p1))])) _
              refine X0.ldc2DoubleC hx hown (mvT hZ (hw _ (List.mem_of_getElem? (i := 0) rfl))) (g := (mkF m 36 #[.val (.int p0), .val (.int p1), .val (.int p2), .val (.int p3), .val (.int (0 : Int32)), .val (.int (0 : Int32)), .val (.double (FP.ddiv (FP.i2d p0) (4616189618054758400 : UInt64))), .second, .unset, .unset, .unset, .unset] [(.double (FP.i2d p1))])) rfl (hb hby at_36) _ ?_
              show Steps p.tables e below (s₁.setTop (mkF m 39 #[.val (.int p0), .val (.int p1), .val (.int p2), .val (.int p3), .val (.int (0 : Int32)), .val (.int (0 : Int32)), .val (.double (FP.ddiv (FP.i2d p0) (4616189618054758400 : UInt64))), .second, .unset, .unset, .unset, .unset] [(.double (4616189618054758400 : UInt64)), (.double (FP.i2d p1))])) _
              refine XS.ddivS X0.here hx rfl (hb hby at_39) rfl (own_nn p1) rfl ?_
              show Steps p.tables e below (s₁.setTop (mkF m 40 #[.val (.int p0), .val (.int p1), .val (.int p2), .val (.int p3), .val (.int (0 : Int32)), .val (.int (0 : Int32)), .val (.double (FP.ddiv (FP.i2d p0) (4616189618054758400 : UInt64))), .second, .unset, .unset, .unset, .unset] [(.double (FP.ddiv (FP.i2d p1) (4616189618054758400 : UInt64)))])) _
              refine XS.dstore X0.here hx rfl (hb hby at_40) rfl (l' := #[.val (.int p0), .val (.int p1), .val (.int p2), .val (.int p3), .val (.int (0 : Int32)), .val (.int (0 : Int32)), .val (.double (FP.ddiv (FP.i2d p0) (4616189618054758400 : UInt64))), .second, .val (.double (FP.ddiv (FP.i2d p1) (4616189618054758400 : UInt64))), .second, .unset, .unset]) rfl ?_
              show Steps p.tables e below (s₁.setTop (mkF m 42 #[.val (.int p0), .val (.int p1), .val (.int p2), .val (.int p3), .val (.int (0 : Int32)), .val (.int (0 : Int32)), .val (.double (FP.ddiv (FP.i2d p0) (4616189618054758400 : UInt64))), .second, .val (.double (FP.ddiv (FP.i2d p1) (4616189618054758400 : UInt64))), .second, .unset, .unset] [])) _
              refine st3 _ ?_
              show Steps p.tables e below (T3.setTop (mkF m 45 #[.val (.int p0), .val (.int p1), .val (.int p2), .val (.int p3), .val (.int (0 : Int32)), .val (.int (0 : Int32)), .val (.double (FP.ddiv (FP.i2d p0) (4616189618054758400 : UInt64))), .second, .val (.double (FP.ddiv (FP.i2d p1) (4616189618054758400 : UInt64))), .second, .unset, .unset] [(.ref fa3)])) _
              refine XS.dup X3.here hx rfl (hb hby at_45) rfl rfl ?_
              show Steps p.tables e below (T3.setTop (mkF m 46 #[.val (.int p0), .val (.int p1), .val (.int p2), .val (.int p3), .val (.int (0 : Int32)), .val (.int (0 : Int32)), .val (.double (FP.ddiv (FP.i2d p0) (4616189618054758400 : UInt64))), .second, .val (.double (FP.ddiv (FP.i2d p1) (4616189618054758400 : UInt64))), .second, .unset, .unset] [(.ref fa3), (.ref fa3)])) _
              refine XS.aconstNull X3.here hx rfl (hb hby at_46) ?_
              show Steps p.tables e below (T3.setTop (mkF m 47 #[.val (.int p0), .val (.int p1), .val (.int p2), .val (.int p3), .val (.int (0 : Int32)), .val (.int (0 : Int32)), .val (.double (FP.ddiv (FP.i2d p0) (4616189618054758400 : UInt64))), .second, .val (.double (FP.ddiv (FP.i2d p1) (4616189618054758400 : UInt64))), .second, .unset, .unset] [.null, (.ref fa3), (.ref fa3)])) _
              refine XS.aconstNull X3.here hx rfl (hb hby at_47) ?_
              show Steps p.tables e below (T3.setTop (mkF m 48 #[.val (.int p0), .val (.int p1), .val (.int p2), .val (.int p3), .val (.int (0 : Int32)), .val (.int (0 : Int32)), .val (.double (FP.ddiv (FP.i2d p0) (4616189618054758400 : UInt64))), .second, .val (.double (FP.ddiv (FP.i2d p1) (4616189618054758400 : UInt64))), .second, .unset, .unset] [.null, .null, (.ref fa3), (.ref fa3)])) _
              refine XS.dload X3.here hx rfl (hb hby at_48) rfl ?_
              show Steps p.tables e below (T3.setTop (mkF m 50 #[.val (.int p0), .val (.int p1), .val (.int p2), .val (.int p3), .val (.int (0 : Int32)), .val (.int (0 : Int32)), .val (.double (FP.ddiv (FP.i2d p0) (4616189618054758400 : UInt64))), .second, .val (.double (FP.ddiv (FP.i2d p1) (4616189618054758400 : UInt64))), .second, .unset, .unset] [(.double (FP.ddiv (FP.i2d p0) (4616189618054758400 : UInt64))), .null, .null, (.ref fa3), (.ref fa3)])) _
              refine XS.dload X3.here hx rfl (hb hby at_50) rfl ?_
              show Steps p.tables e below (T3.setTop (mkF m 52 #[.val (.int p0), .val (.int p1), .val (.int p2), .val (.int p3), .val (.int (0 : Int32)), .val (.int (0 : Int32)), .val (.double (FP.ddiv (FP.i2d p0) (4616189618054758400 : UInt64))), .second, .val (.double (FP.ddiv (FP.i2d p1) (4616189618054758400 : UInt64))), .second, .unset, .unset] [(.double (FP.ddiv (FP.i2d p1) (4616189618054758400 : UInt64))), (.double (FP.ddiv (FP.i2d p0) (4616189618054758400 : UInt64))), .null, .null, (.ref fa3), (.ref fa3)])) _
              refine XS.iloadN X3.here hx rfl (hb hby at_52) rfl ?_
              show Steps p.tables e below (T3.setTop (mkF m 53 #[.val (.int p0), .val (.int p1), .val (.int p2), .val (.int p3), .val (.int (0 : Int32)), .val (.int (0 : Int32)), .val (.double (FP.ddiv (FP.i2d p0) (4616189618054758400 : UInt64))), .second, .val (.double (FP.ddiv (FP.i2d p1) (4616189618054758400 : UInt64))), .second, .unset, .unset] [(.int p2), (.double (FP.ddiv (FP.i2d p1) (4616189618054758400 : UInt64))), (.double (FP.ddiv (FP.i2d p0) (4616189618054758400 : UInt64))), .null, .null, (.ref fa3), (.ref fa3)])) _
              refine XS.iload X3.here hx rfl (hb hby at_53) rfl ?_
              show Steps p.tables e below (T3.setTop (mkF m 55 #[.val (.int p0), .val (.int p1), .val (.int p2), .val (.int p3), .val (.int (0 : Int32)), .val (.int (0 : Int32)), .val (.double (FP.ddiv (FP.i2d p0) (4616189618054758400 : UInt64))), .second, .val (.double (FP.ddiv (FP.i2d p1) (4616189618054758400 : UInt64))), .second, .unset, .unset] [(.int (0 : Int32)), (.int p2), (.double (FP.ddiv (FP.i2d p1) (4616189618054758400 : UInt64))), (.double (FP.ddiv (FP.i2d p0) (4616189618054758400 : UInt64))), .null, .null, (.ref fa3), (.ref fa3)])) _
              refine XS.iload X3.here hx rfl (hb hby at_55) rfl ?_
              show Steps p.tables e below (T3.setTop (mkF m 57 #[.val (.int p0), .val (.int p1), .val (.int p2), .val (.int p3), .val (.int (0 : Int32)), .val (.int (0 : Int32)), .val (.double (FP.ddiv (FP.i2d p0) (4616189618054758400 : UInt64))), .second, .val (.double (FP.ddiv (FP.i2d p1) (4616189618054758400 : UInt64))), .second, .unset, .unset] [(.int (0 : Int32)), (.int (0 : Int32)), (.int p2), (.double (FP.ddiv (FP.i2d p1) (4616189618054758400 : UInt64))), (.double (FP.ddiv (FP.i2d p0) (4616189618054758400 : UInt64))), .null, .null, (.ref fa3), (.ref fa3)])) _
              refine st4.trans ?_
              show Steps p.tables e below (T4.setTop (mkF m 60 #[.val (.int p0), .val (.int p1), .val (.int p2), .val (.int p3), .val (.int (0 : Int32)), .val (.int (0 : Int32)), .val (.double (FP.ddiv (FP.i2d p0) (4616189618054758400 : UInt64))), .second, .val (.double (FP.ddiv (FP.i2d p1) (4616189618054758400 : UInt64))), .second, .unset, .unset] [(.ref fa3)])) _
              refine XS.astore X4.here hx rfl (hb hby at_60) rfl rfl (l' := #[.val (.int p0), .val (.int p1), .val (.int p2), .val (.int p3), .val (.int (0 : Int32)), .val (.int (0 : Int32)), .val (.double (FP.ddiv (FP.i2d p0) (4616189618054758400 : UInt64))), .second, .val (.double (FP.ddiv (FP.i2d p1) (4616189618054758400 : UInt64))), .second, .val (.ref fa3), .unset]) rfl ?_
              show Steps p.tables e below (T4.setTop (mkF m 62 #[.val (.int p0), .val (.int p1), .val (.int p2), .val (.int p3), .val (.int (0 : Int32)), .val (.int (0 : Int32)), .val (.double (FP.ddiv (FP.i2d p0) (4616189618054758400 : UInt64))), .second, .val (.double (FP.ddiv (FP.i2d p1) (4616189618054758400 : UInt64))), .second, .val (.ref fa3), .unset] [])) _
              refine XS.iloadN X4.here hx rfl (hb hby at_62) rfl ?_
              show Steps p.tables e below (T4.setTop (mkF m 63 #[.val (.int p0), .val (.int p1), .val (.int p2), .val (.int p3), .val (.int (0 : Int32)), .val (.int (0 : Int32)), .val (.double (FP.ddiv (FP.i2d p0) (4616189618054758400 : UInt64))), .second, .val (.double (FP.ddiv (FP.i2d p1) (4616189618054758400 : UInt64))), .second, .val (.ref fa3), .unset] [(.int p0)])) _
              refine XS.ifYes X4.here hx rfl (pc0 := 63) (pc' := 72) rfl (hb hby at_63) rfl ((if0 _ _).trans (tlt hc5).2.2.1) (by decide) (by decide) ?_
              show Steps p.tables e below (T4.setTop (mkF m 72 #[.val (.int p0), .val (.int p1), .val (.int p2), .val (.int p3), .val (.int (0 : Int32)), .val (.int (0 : Int32)), .val (.double (FP.ddiv (FP.i2d p0) (4616189618054758400 : UInt64))), .second, .val (.double (FP.ddiv (FP.i2d p1) (4616189618054758400 : UInt64))), .second, .val (.ref fa3), .unset] [])) _
              refine XS.iload X4.here hx rfl (hb hby at_72) rfl ?_
              show Steps p.tables e below (T4.setTop (mkF m 74 #[.val (.int p0), .val (.int p1), .val (.int p2), .val (.int p3), .val (.int (0 : Int32)), .val (.int (0 : Int32)), .val (.double (FP.ddiv (FP.i2d p0) (4616189618054758400 : UInt64))), .second, .val (.double (FP.ddiv (FP.i2d p1) (4616189618054758400 : UInt64))), .second, .val (.ref fa3), .unset] [(.int (0 : Int32))])) _
              refine XS.ifYes X4.here hx rfl (pc0 := 74) (pc' := 83) rfl (hb hby at_74) rfl ((if0 _ _).trans (teq (by decide : (0 : Int32) = (0 : Int32))).1) (by decide) (by decide) ?_
              show Steps p.tables e below (T4.setTop (mkF m 83 #[.val (.int p0), .val (.int p1), .val (.int p2), .val (.int p3), .val (.int (0 : Int32)), .val (.int (0 : Int32)), .val (.double (FP.ddiv (FP.i2d p0) (4616189618054758400 : UInt64))), .second, .val (.double (FP.ddiv (FP.i2d p1) (4616189618054758400 : UInt64))), .second, .val (.ref fa3), .unset] [])) _
              refine XS.iload X4.here hx rfl (hb hby at_83) rfl ?_
              show Steps p.tables e below (T4.setTop (mkF m 85 #[.val (.int p0), .val (.int p1), .val (.int p2), .val (.int p3), .val (.int (0 : Int32)), .val (.int (0 : Int32)), .val (.double (FP.ddiv (FP.i2d p0) (4616189618054758400 : UInt64))), .second, .val (.double (FP.ddiv (FP.i2d p1) (4616189618054758400 : UInt64))), .second, .val (.ref fa3), .unset] [(.int (0 : Int32))])) _
              refine XS.ifYes X4.here hx rfl (pc0 := 85) (pc' := 94) rfl (hb hby at_85) rfl ((if0 _ _).trans (teq (by decide : (0 : Int32) = (0 : Int32))).1) (by decide) (by decide) ?_
              show Steps p.tables e below (T4.setTop (mkF m 94 #[.val (.int p0), .val (.int p1), .val (.int p2), .val (.int p3), .val (.int (0 : Int32)), .val (.int (0 : Int32)), .val (.double (FP.ddiv (FP.i2d p0) (4616189618054758400 : UInt64))), .second, .val (.double (FP.ddiv (FP.i2d p1) (4616189618054758400 : UInt64))), .second, .val (.ref fa3), .unset] [])) _
              refine XS.iloadN X4.here hx rfl (hb hby at_94) rfl ?_
              show Steps p.tables e below (T4.setTop (mkF m 95 #[.val (.int p0), .val (.int p1), .val (.int p2), .val (.int p3), .val (.int (0 : Int32)), .val (.int (0 : Int32)), .val (.double (FP.ddiv (FP.i2d p0) (4616189618054758400 : UInt64))), .second, .val (.double (FP.ddiv (FP.i2d p1) (4616189618054758400 : UInt64))), .second, .val (.ref fa3), .unset] [(.int p2)])) _
              refine XS.ifYes X4.here hx rfl (pc0 := 95) (pc' := 104) rfl (hb hby at_95) rfl ((if0 _ _).trans (flt hc6).2.2.2) (by decide) (by decide) ?_
              show Steps p.tables e below (T4.setTop (mkF m 104 #[.val (.int p0), .val (.int p1), .val (.int p2), .val (.int p3), .val (.int (0 : Int32)), .val (.int (0 : Int32)), .val (.double (FP.ddiv (FP.i2d p0) (4616189618054758400 : UInt64))), .second, .val (.double (FP.ddiv (FP.i2d p1) (4616189618054758400 : UInt64))), .second, .val (.ref fa3), .unset] [])) _
              refine XS.iloadN X4.here hx rfl (hb hby at_104) rfl ?_
              show Steps p.tables e below (T4.setTop (mkF m 105 #[.val (.int p0), .val (.int p1), .val (.int p2), .val (.int p3), .val (.int (0 : Int32)), .val (.int (0 : Int32)), .val (.double (FP.ddiv (FP.i2d p0) (4616189618054758400 : UInt64))), .second, .val (.double (FP.ddiv (FP.i2d p1) (4616189618054758400 : UInt64))), .second, .val (.ref fa3), .unset] [(.int p1)])) _
              refine XS.ifNo X4.here hx rfl (hb hby at_105) rfl ((if0 _ _).trans (tlt hc8).2.2.2) ?_
              show Steps p.tables e below (T4.setTop (mkF m 108 #[.val (.int p0), .val (.int p1), .val (.int p2), .val (.int p3), .val (.int (0 : Int32)), .val (.int (0 : Int32)), .val (.double (FP.ddiv (FP.i2d p0) (4616189618054758400 : UInt64))), .second, .val (.double (FP.ddiv (FP.i2d p1) (4616189618054758400 : UInt64))), .second, .val (.ref fa3), .unset] [])) _
              refine XS.iconst X4.here hx rfl (hb hby at_108) ?_
              show Steps p.tables e below (T4.setTop (mkF m 109 #[.val (.int p0), .val (.int p1), .val (.int p2), .val (.int p3), .val (.int (0 : Int32)), .val (.int (0 : Int32)), .val (.double (FP.ddiv (FP.i2d p0) (4616189618054758400 : UInt64))), .second, .val (.double (FP.ddiv (FP.i2d p1) (4616189618054758400 : UInt64))), .second, .val (.ref fa3), .unset] [(.int (1 : Int32))])) _
              refine XS.goto X4.here hx rfl (pc0 := 109) (pc' := 113) rfl (hb hby at_109) (by decide) (by decide) ?_
              show Steps p.tables e below (T4.setTop (mkF m 113 #[.val (.int p0), .val (.int p1), .val (.int p2), .val (.int p3), .val (.int (0 : Int32)), .val (.int (0 : Int32)), .val (.double (FP.ddiv (FP.i2d p0) (4616189618054758400 : UInt64))), .second, .val (.double (FP.ddiv (FP.i2d p1) (4616189618054758400 : UInt64))), .second, .val (.ref fa3), .unset] [(.int (1 : Int32))])) _
              refine XS.istore X4.here hx rfl (hb hby at_113) rfl (l' := #[.val (.int p0), .val (.int p1), .val (.int p2), .val (.int p3), .val (.int (0 : Int32)), .val (.int (0 : Int32)), .val (.double (FP.ddiv (FP.i2d p0) (4616189618054758400 : UInt64))), .second, .val (.double (FP.ddiv (FP.i2d p1) (4616189618054758400 : UInt64))), .second, .val (.ref fa3), .val (.int (1 : Int32))]) rfl ?_
              show Steps p.tables e below (T4.setTop (mkF m 115 #[.val (.int p0), .val (.int p1), .val (.int p2), .val (.int p3), .val (.int (0 : Int32)), .val (.int (0 : Int32)), .val (.double (FP.ddiv (FP.i2d p0) (4616189618054758400 : UInt64))), .second, .val (.double (FP.ddiv (FP.i2d p1) (4616189618054758400 : UInt64))), .second, .val (.ref fa3), .val (.int (1 : Int32))] [])) _
              refine XS.aload X4.here hx rfl (hb hby at_115) rfl rfl ?_
              show Steps p.tables e below (T4.setTop (mkF m 117 #[.val (.int p0), .val (.int p1), .val (.int p2), .val (.int p3), .val (.int (0 : Int32)), .val (.int (0 : Int32)), .val (.double (FP.ddiv (FP.i2d p0) (4616189618054758400 : UInt64))), .second, .val (.double (FP.ddiv (FP.i2d p1) (4616189618054758400 : UInt64))), .second, .val (.ref fa3), .val (.int (1 : Int32))] [(.ref fa3)])) _
              refine st9.trans ?_
              show Steps p.tables e below (T9.setTop (mkF m 120 #[.val (.int p0), .val (.int p1), .val (.int p2), .val (.int p3), .val (.int (0 : Int32)), .val (.int (0 : Int32)), .val (.double (FP.ddiv (FP.i2d p0) (4616189618054758400 : UInt64))), .second, .val (.double (FP.ddiv (FP.i2d p1) (4616189618054758400 : UInt64))), .second, .val (.ref fa3), .val (.int (1 : Int32))] [(.int (own_need (FP.ddiv (FP.i2d p0) (4616189618054758400 : UInt64)) (FP.ddiv (FP.i2d p1) (4616189618054758400 : UInt64)) p2 (nar .boolean (0 : Int32)) (nar .boolean (0 : Int32))))])) _
              refine XS.iload X9.here hx rfl (hb hby at_120) rfl ?_
              show Steps p.tables e below (T9.setTop (mkF m 122 #[.val (.int p0), .val (.int p1), .val (.int p2), .val (.int p3), .val (.int (0 : Int32)), .val (.int (0 : Int32)), .val (.double (FP.ddiv (FP.i2d p0) (4616189618054758400 : UInt64))), .second, .val (.double (FP.ddiv (FP.i2d p1) (4616189618054758400 : UInt64))), .second, .val (.ref fa3), .val (.int (1 : Int32))] [(.int (1 : Int32)), (.int (own_need (FP.ddiv (FP.i2d p0) (4616189618054758400 : UInt64)) (FP.ddiv (FP.i2d p1) (4616189618054758400 : UInt64)) p2 (nar .boolean (0 : Int32)) (nar .boolean (0 : Int32))))])) _
              refine XS.icmpNo X9.here hx rfl (hb hby at_122) rfl (teq (by simp [own_need, own_pos, own_nar0, own_nar1, hc1, hc2, hc5, hc6, hc8] : (own_need (FP.ddiv (FP.i2d p0) (4616189618054758400 : UInt64)) (FP.ddiv (FP.i2d p1) (4616189618054758400 : UInt64)) p2 (nar .boolean (0 : Int32)) (nar .boolean (0 : Int32))) = (1 : Int32))).2 ?_
              show Steps p.tables e below (T9.setTop (mkF m 125 #[.val (.int p0), .val (.int p1), .val (.int p2), .val (.int p3), .val (.int (0 : Int32)), .val (.int (0 : Int32)), .val (.double (FP.ddiv (FP.i2d p0) (4616189618054758400 : UInt64))), .second, .val (.double (FP.ddiv (FP.i2d p1) (4616189618054758400 : UInt64))), .second, .val (.ref fa3), .val (.int (1 : Int32))] [])) _
              refine XS.iconst X9.here hx rfl (hb hby at_125) ?_
              show Steps p.tables e below (T9.setTop (mkF m 126 #[.val (.int p0), .val (.int p1), .val (.int p2), .val (.int p3), .val (.int (0 : Int32)), .val (.int (0 : Int32)), .val (.double (FP.ddiv (FP.i2d p0) (4616189618054758400 : UInt64))), .second, .val (.double (FP.ddiv (FP.i2d p1) (4616189618054758400 : UInt64))), .second, .val (.ref fa3), .val (.int (1 : Int32))] [(.int (1 : Int32))])) _
              refine XS.goto X9.here hx rfl (pc0 := 126) (pc' := 130) rfl (hb hby at_126) (by decide) (by decide) ?_
              show Steps p.tables e below (T9.setTop (mkF m 130 #[.val (.int p0), .val (.int p1), .val (.int p2), .val (.int p3), .val (.int (0 : Int32)), .val (.int (0 : Int32)), .val (.double (FP.ddiv (FP.i2d p0) (4616189618054758400 : UInt64))), .second, .val (.double (FP.ddiv (FP.i2d p1) (4616189618054758400 : UInt64))), .second, .val (.ref fa3), .val (.int (1 : Int32))] [(.int (1 : Int32))])) _
              exact retN X9 hx (t := .boolean) Bd.returns (by simp) (hb hby at_130) hr
            · show Q_rm0 Z p0 p1 p2 p3 h0 n0 _ T9.heap _
              rw [e9]
              exact ⟨rfl, N9, KK4⟩
          · obtain ⟨cq10, kq10, q10a, q10b, q10c⟩ := isOf hZ rfl Q4_0
            obtain ⟨_, _, ⟨T10, L10, k10, n10⟩, -, X10, ⟨Lc10, hQ10, l10, y10, z10⟩, st10⟩ := X4.virtualBack hx (y := (⟨"com/example/musterpoint/musterpoint/world/CivilianSighting", "needsHelp", "()Z"⟩ : MethodName)) (z := (⟨"com/example/musterpoint/musterpoint/world/CivilianSighting", "needsHelp", "()Z"⟩ : MethodName)) hown (mvT hZ (hw _ (List.mem_of_getElem? (i := 29) rfl))) (mvT hZ (hw _ (List.mem_of_getElem? (i := 30) rfl))) (notFace_of_selects (args := #[]) (mvT hZ (hw _ (List.mem_of_getElem? (i := 32) rfl)))) (mvT hZ (hw _ (List.mem_of_getElem? (i := 32) rfl))) (mvT hZ (hw _ (List.mem_of_getElem? (i := 31) rfl))) (by decide) (backOf (W := 0) (rm4 l Z a0 hw [] fa3 (FP.ddiv (FP.i2d p0) (4616189618054758400 : UInt64)) (FP.ddiv (FP.i2d p1) (4616189618054758400 : UInt64)) p2 (nar .boolean (0 : Int32)) (nar .boolean (0 : Int32)) T4.heap n0 O4 Q4_1 Q4_2 Q4_3 Q4_4 Q4_5) hZ (hw _ (List.mem_of_getElem? (i := 33) rfl)) (hw _ (List.mem_of_getElem? (i := 3) rfl)) (by decide) (by decide)) q10a q10c (g := (mkF m 117 #[.val (.int p0), .val (.int p1), .val (.int p2), .val (.int p3), .val (.int (0 : Int32)), .val (.int (0 : Int32)), .val (.double (FP.ddiv (FP.i2d p0) (4616189618054758400 : UInt64))), .second, .val (.double (FP.ddiv (FP.i2d p1) (4616189618054758400 : UInt64))), .second, .val (.ref fa3), .val (.int (0 : Int32))] [(.ref fa3)])) rfl (by rw [hml]; rfl) (Steps.refl _) (argsL := []) (rest := []) (lenOf pd_2 rfl) rfl (by show 2 * 0 + _ ≤ _; exact Nat.le_of_eq rfl) (hb hby at_117) (fun _ _ => ⟨rfl, rfl, (by decide : 1 + 0 ≤ _), (by decide : 7 + 0 ≤ _)⟩)
            dsimp only [Pt.U, Pt.locs, Pt.cells, Pt.slots] at X10 l10 y10 z10 st10 hQ10
            subst l10 y10 z10
            obtain ⟨rfl, N10q, e10⟩ := hQ10
            have N10 := Fr.app N4 N10q
            obtain ⟨fs, hr, hrun, hended, hW, hsame⟩ := X10.leave (v := some (.int (1 : Int32))) (fun h => by rw [Bd.returns] at h; cases h)
            refine ⟨_, _, pre0 _ ?_, hrun, hended, _, _, rfl, ?_, ⟨_, rfl⟩, hW, hsame.mono (by decide) (by decide)⟩
            · show Steps p.tables e below (s₁.setTop (mkF m 0 #[.val (.int p0), .val (.int p1), .val (.int p2), .val (.int p3), .unset, .unset, .unset, .unset, .unset, .unset, .unset, .unset] [])) _
              refine XS.iloadN X0.here hx rfl (hb hby at_0) rfl ?_
              show Steps p.tables e below (s₁.setTop (mkF m 1 #[.val (.int p0), .val (.int p1), .val (.int p2), .val (.int p3), .unset, .unset, .unset, .unset, .unset, .unset, .unset, .unset] [(.int p3)])) _
              refine XS.iconst X0.here hx rfl (hb hby at_1) ?_
              show Steps p.tables e below (s₁.setTop (mkF m 2 #[.val (.int p0), .val (.int p1), .val (.int p2), .val (.int p3), .unset, .unset, .unset, .unset, .unset, .unset, .unset, .unset] [(.int (1 : Int32)), (.int p3)])) _
              refine XS.iand X0.here hx rfl (hb hby at_2) rfl ?_
              show Steps p.tables e below (s₁.setTop (mkF m 3 #[.val (.int p0), .val (.int p1), .val (.int p2), .val (.int p3), .unset, .unset, .unset, .unset, .unset, .unset, .unset, .unset] [(.int (p3 &&& (1 : Int32)))])) _
              refine XS.ifYes X0.here hx rfl (pc0 := 3) (pc' := 10) rfl (hb hby at_3) rfl ((if0 _ _).trans (teq hc1).1) (by decide) (by decide) ?_
              show Steps p.tables e below (s₁.setTop (mkF m 10 #[.val (.int p0), .val (.int p1), .val (.int p2), .val (.int p3), .unset, .unset, .unset, .unset, .unset, .unset, .unset, .unset] [])) _
              refine XS.iconst X0.here hx rfl (hb hby at_10) ?_
              show Steps p.tables e below (s₁.setTop (mkF m 11 #[.val (.int p0), .val (.int p1), .val (.int p2), .val (.int p3), .unset, .unset, .unset, .unset, .unset, .unset, .unset, .unset] [(.int (0 : Int32))])) _
              refine XS.istore X0.here hx rfl (hb hby at_11) rfl (l' := #[.val (.int p0), .val (.int p1), .val (.int p2), .val (.int p3), .val (.int (0 : Int32)), .unset, .unset, .unset, .unset, .unset, .unset, .unset]) rfl ?_
              show Steps p.tables e below (s₁.setTop (mkF m 13 #[.val (.int p0), .val (.int p1), .val (.int p2), .val (.int p3), .val (.int (0 : Int32)), .unset, .unset, .unset, .unset, .unset, .unset, .unset] [])) _
              refine XS.iloadN X0.here hx rfl (hb hby at_13) rfl ?_
              show Steps p.tables e below (s₁.setTop (mkF m 14 #[.val (.int p0), .val (.int p1), .val (.int p2), .val (.int p3), .val (.int (0 : Int32)), .unset, .unset, .unset, .unset, .unset, .unset, .unset] [(.int p3)])) _
              refine XS.iconst X0.here hx rfl (hb hby at_14) ?_
              show Steps p.tables e below (s₁.setTop (mkF m 15 #[.val (.int p0), .val (.int p1), .val (.int p2), .val (.int p3), .val (.int (0 : Int32)), .unset, .unset, .unset, .unset, .unset, .unset, .unset] [(.int (2 : Int32)), (.int p3)])) _
              refine XS.iand X0.here hx rfl (hb hby at_15) rfl ?_
              show Steps p.tables e below (s₁.setTop (mkF m 16 #[.val (.int p0), .val (.int p1), .val (.int p2), .val (.int p3), .val (.int (0 : Int32)), .unset, .unset, .unset, .unset, .unset, .unset, .unset] [(.int (p3 &&& (2 : Int32)))])) _
              refine XS.ifYes X0.here hx rfl (pc0 := 16) (pc' := 23) rfl (hb hby at_16) rfl ((if0 _ _).trans (teq hc2).1) (by decide) (by decide) ?_
              show Steps p.tables e below (s₁.setTop (mkF m 23 #[.val (.int p0), .val (.int p1), .val (.int p2), .val (.int p3), .val (.int (0 : Int32)), .unset, .unset, .unset, .unset, .unset, .unset, .unset] [])) _
              refine XS.iconst X0.here hx rfl (hb hby at_23) ?_
              show Steps p.tables e below (s₁.setTop (mkF m 24 #[.val (.int p0), .val (.int p1), .val (.int p2), .val (.int p3), .val (.int (0 : Int32)), .unset, .unset, .unset, .unset, .unset, .unset, .unset] [(.int (0 : Int32))])) _
              refine XS.istore X0.here hx rfl (hb hby at_24) rfl (l' := #[.val (.int p0), .val (.int p1), .val (.int p2), .val (.int p3), .val (.int (0 : Int32)), .val (.int (0 : Int32)), .unset, .unset, .unset, .unset, .unset, .unset]) rfl ?_
              show Steps p.tables e below (s₁.setTop (mkF m 26 #[.val (.int p0), .val (.int p1), .val (.int p2), .val (.int p3), .val (.int (0 : Int32)), .val (.int (0 : Int32)), .unset, .unset, .unset, .unset, .unset, .unset] [])) _
              refine XS.iloadN X0.here hx rfl (hb hby at_26) rfl ?_
              show Steps p.tables e below (s₁.setTop (mkF m 27 #[.val (.int p0), .val (.int p1), .val (.int p2), .val (.int p3), .val (.int (0 : Int32)), .val (.int (0 : Int32)), .unset, .unset, .unset, .unset, .unset, .unset] [(.int p0)])) _
              refine XS.i2dS X0.here hx rfl (hb hby at_27) rfl rfl ?_
              show Steps p.tables e below (s₁.setTop (mkF m 28 #[.val (.int p0), .val (.int p1), .val (.int p2), .val (.int p3), .val (.int (0 : Int32)), .val (.int (0 : Int32)), .unset, .unset, .unset, .unset, .unset, .unset] [(.double (FP.i2d p0))])) _
              refine X0.ldc2DoubleC hx hown (mvT hZ (hw _ (List.mem_of_getElem? (i := 0) rfl))) (g := (mkF m 28 #[.val (.int p0), .val (.int p1), .val (.int p2), .val (.int p3), .val (.int (0 : Int32)), .val (.int (0 : Int32)), .unset, .unset, .unset, .unset, .unset, .unset] [(.double (FP.i2d p0))])) rfl (hb hby at_28) _ ?_
              show Steps p.tables e below (s₁.setTop (mkF m 31 #[.val (.int p0), .val (.int p1), .val (.int p2), .val (.int p3), .val (.int (0 : Int32)), .val (.int (0 : Int32)), .unset, .unset, .unset, .unset, .unset, .unset] [(.double (4616189618054758400 : UInt64)), (.double (FP.i2d p0))])) _
              refine XS.ddivS X0.here hx rfl (hb hby at_31) rfl (own_nn p0) rfl ?_
              show Steps p.tables e below (s₁.setTop (mkF m 32 #[.val (.int p0), .val (.int p1), .val (.int p2), .val (.int p3), .val (.int (0 : Int32)), .val (.int (0 : Int32)), .unset, .unset, .unset, .unset, .unset, .unset] [(.double (FP.ddiv (FP.i2d p0) (4616189618054758400 : UInt64)))])) _
              refine XS.dstore X0.here hx rfl (hb hby at_32) rfl (l' := #[.val (.int p0), .val (.int p1), .val (.int p2), .val (.int p3), .val (.int (0 : Int32)), .val (.int (0 : Int32)), .val (.double (FP.ddiv (FP.i2d p0) (4616189618054758400 : UInt64))), .second, .unset, .unset, .unset, .unset]) rfl ?_
              show Steps p.tables e below (s₁.setTop (mkF m 34 #[.val (.int p0), .val (.int p1), .val (.int p2), .val (.int p3), .val (.int (0 : Int32)), .val (.int (0 : Int32)), .val (.double (FP.ddiv (FP.i2d p0) (4616189618054758400 : UInt64))), .second, .unset, .unset, .unset, .unset] [])) _
              refine XS.iloadN X0.here hx rfl (hb hby at_34) rfl ?_
              show Steps p.tables e below (s₁.setTop (mkF m 35 #[.val (.int p0), .val (.int p1), .val (.int p2), .val (.int p3), .val (.int (0 : Int32)), .val (.int (0 : Int32)), .val (.double (FP.ddiv (FP.i2d p0) (4616189618054758400 : UInt64))), .second, .unset, .unset, .unset, .unset] [(.int p1)])) _
              refine XS.i2dS X0.here hx rfl (hb hby at_35) rfl rfl ?_
              show Steps p.tables e below (s₁.setTop (mkF m 36 #[.val (.int p0), .val (.int p1), .val (.int p2), .val (.int p3), .val (.int (0 : Int32)), .val (.int (0 : Int32)), .val (.double (FP.ddiv (FP.i2d p0) (4616189618054758400 : UInt64))), .second, .unset, .unset, .unset, .unset] [(.double (FP.i2d p1))])) _
              refine X0.ldc2DoubleC hx hown (mvT hZ (hw _ (List.mem_of_getElem? (i := 0) rfl))) (g := (mkF m 36 #[.val (.int p0), .val (.int p1), .val (.int p2), .val (.int p3), .val (.int (0 : Int32)), .val (.int (0 : Int32)), .val (.double (FP.ddiv (FP.i2d p0) (4616189618054758400 : UInt64))), .second, .unset, .unset, .unset, .unset] [(.double (FP.i2d p1))])) rfl (hb hby at_36) _ ?_
              show Steps p.tables e below (s₁.setTop (mkF m 39 #[.val (.int p0), .val (.int p1), .val (.int p2), .val (.int p3), .val (.int (0 : Int32)), .val (.int (0 : Int32)), .val (.double (FP.ddiv (FP.i2d p0) (4616189618054758400 : UInt64))), .second, .unset, .unset, .unset, .unset] [(.double (4616189618054758400 : UInt64)), (.double (FP.i2d p1))])) _
              refine XS.ddivS X0.here hx rfl (hb hby at_39) rfl (own_nn p1) rfl ?_
              show Steps p.tables e below (s₁.setTop (mkF m 40 #[.val (.int p0), .val (.int p1), .val (.int p2), .val (.int p3), .val (.int (0 : Int32)), .val (.int (0 : Int32)), .val (.double (FP.ddiv (FP.i2d p0) (4616189618054758400 : UInt64))), .second, .unset, .unset, .unset, .unset] [(.double (FP.ddiv (FP.i2d p1) (4616189618054758400 : UInt64)))])) _
              refine XS.dstore X0.here hx rfl (hb hby at_40) rfl (l' := #[.val (.int p0), .val (.int p1), .val (.int p2), .val (.int p3), .val (.int (0 : Int32)), .val (.int (0 : Int32)), .val (.double (FP.ddiv (FP.i2d p0) (4616189618054758400 : UInt64))), .second, .val (.double (FP.ddiv (FP.i2d p1) (4616189618054758400 : UInt64))), .second, .unset, .unset]) rfl ?_
              show Steps p.tables e below (s₁.setTop (mkF m 42 #[.val (.int p0), .val (.int p1), .val (.int p2), .val (.int p3), .val (.int (0 : Int32)), .val (.int (0 : Int32)), .val (.double (FP.ddiv (FP.i2d p0) (4616189618054758400 : UInt64))), .second, .val (.double (FP.ddiv (FP.i2d p1) (4616189618054758400 : UInt64))), .second, .unset, .unset] [])) _
              refine st3 _ ?_
              show Steps p.tables e below (T3.setTop (mkF m 45 #[.val (.int p0), .val (.int p1), .val (.int p2), .val (.int p3), .val (.int (0 : Int32)), .val (.int (0 : Int32)), .val (.double (FP.ddiv (FP.i2d p0) (4616189618054758400 : UInt64))), .second, .val (.double (FP.ddiv (FP.i2d p1) (4616189618054758400 : UInt64))), .second, .unset, .unset] [(.ref fa3)])) _
              refine XS.dup X3.here hx rfl (hb hby at_45) rfl rfl ?_
              show Steps p.tables e below (T3.setTop (mkF m 46 #[.val (.int p0), .val (.int p1), .val (.int p2), .val (.int p3), .val (.int (0 : Int32)), .val (.int (0 : Int32)), .val (.double (FP.ddiv (FP.i2d p0) (4616189618054758400 : UInt64))), .second, .val (.double (FP.ddiv (FP.i2d p1) (4616189618054758400 : UInt64))), .second, .unset, .unset] [(.ref fa3), (.ref fa3)])) _
              refine XS.aconstNull X3.here hx rfl (hb hby at_46) ?_
              show Steps p.tables e below (T3.setTop (mkF m 47 #[.val (.int p0), .val (.int p1), .val (.int p2), .val (.int p3), .val (.int (0 : Int32)), .val (.int (0 : Int32)), .val (.double (FP.ddiv (FP.i2d p0) (4616189618054758400 : UInt64))), .second, .val (.double (FP.ddiv (FP.i2d p1) (4616189618054758400 : UInt64))), .second, .unset, .unset] [.null, (.ref fa3), (.ref fa3)])) _
              refine XS.aconstNull X3.here hx rfl (hb hby at_47) ?_
              show Steps p.tables e below (T3.setTop (mkF m 48 #[.val (.int p0), .val (.int p1), .val (.int p2), .val (.int p3), .val (.int (0 : Int32)), .val (.int (0 : Int32)), .val (.double (FP.ddiv (FP.i2d p0) (4616189618054758400 : UInt64))), .second, .val (.double (FP.ddiv (FP.i2d p1) (4616189618054758400 : UInt64))), .second, .unset, .unset] [.null, .null, (.ref fa3), (.ref fa3)])) _
              refine XS.dload X3.here hx rfl (hb hby at_48) rfl ?_
              show Steps p.tables e below (T3.setTop (mkF m 50 #[.val (.int p0), .val (.int p1), .val (.int p2), .val (.int p3), .val (.int (0 : Int32)), .val (.int (0 : Int32)), .val (.double (FP.ddiv (FP.i2d p0) (4616189618054758400 : UInt64))), .second, .val (.double (FP.ddiv (FP.i2d p1) (4616189618054758400 : UInt64))), .second, .unset, .unset] [(.double (FP.ddiv (FP.i2d p0) (4616189618054758400 : UInt64))), .null, .null, (.ref fa3), (.ref fa3)])) _
              refine XS.dload X3.here hx rfl (hb hby at_50) rfl ?_
              show Steps p.tables e below (T3.setTop (mkF m 52 #[.val (.int p0), .val (.int p1), .val (.int p2), .val (.int p3), .val (.int (0 : Int32)), .val (.int (0 : Int32)), .val (.double (FP.ddiv (FP.i2d p0) (4616189618054758400 : UInt64))), .second, .val (.double (FP.ddiv (FP.i2d p1) (4616189618054758400 : UInt64))), .second, .unset, .unset] [(.double (FP.ddiv (FP.i2d p1) (4616189618054758400 : UInt64))), (.double (FP.ddiv (FP.i2d p0) (4616189618054758400 : UInt64))), .null, .null, (.ref fa3), (.ref fa3)])) _
              refine XS.iloadN X3.here hx rfl (hb hby at_52) rfl ?_
              show Steps p.tables e below (T3.setTop (mkF m 53 #[.val (.int p0), .val (.int p1), .val (.int p2), .val (.int p3), .val (.int (0 : Int32)), .val (.int (0 : Int32)), .val (.double (FP.ddiv (FP.i2d p0) (4616189618054758400 : UInt64))), .second, .val (.double (FP.ddiv (FP.i2d p1) (4616189618054758400 : UInt64))), .second, .unset, .unset] [(.int p2), (.double (FP.ddiv (FP.i2d p1) (4616189618054758400 : UInt64))), (.double (FP.ddiv (FP.i2d p0) (4616189618054758400 : UInt64))), .null, .null, (.ref fa3), (.ref fa3)])) _
              refine XS.iload X3.here hx rfl (hb hby at_53) rfl ?_
              show Steps p.tables e below (T3.setTop (mkF m 55 #[.val (.int p0), .val (.int p1), .val (.int p2), .val (.int p3), .val (.int (0 : Int32)), .val (.int (0 : Int32)), .val (.double (FP.ddiv (FP.i2d p0) (4616189618054758400 : UInt64))), .second, .val (.double (FP.ddiv (FP.i2d p1) (4616189618054758400 : UInt64))), .second, .unset, .unset] [(.int (0 : Int32)), (.int p2), (.double (FP.ddiv (FP.i2d p1) (4616189618054758400 : UInt64))), (.double (FP.ddiv (FP.i2d p0) (4616189618054758400 : UInt64))), .null, .null, (.ref fa3), (.ref fa3)])) _
              refine XS.iload X3.here hx rfl (hb hby at_55) rfl ?_
              show Steps p.tables e below (T3.setTop (mkF m 57 #[.val (.int p0), .val (.int p1), .val (.int p2), .val (.int p3), .val (.int (0 : Int32)), .val (.int (0 : Int32)), .val (.double (FP.ddiv (FP.i2d p0) (4616189618054758400 : UInt64))), .second, .val (.double (FP.ddiv (FP.i2d p1) (4616189618054758400 : UInt64))), .second, .unset, .unset] [(.int (0 : Int32)), (.int (0 : Int32)), (.int p2), (.double (FP.ddiv (FP.i2d p1) (4616189618054758400 : UInt64))), (.double (FP.ddiv (FP.i2d p0) (4616189618054758400 : UInt64))), .null, .null, (.ref fa3), (.ref fa3)])) _
              refine st4.trans ?_
              show Steps p.tables e below (T4.setTop (mkF m 60 #[.val (.int p0), .val (.int p1), .val (.int p2), .val (.int p3), .val (.int (0 : Int32)), .val (.int (0 : Int32)), .val (.double (FP.ddiv (FP.i2d p0) (4616189618054758400 : UInt64))), .second, .val (.double (FP.ddiv (FP.i2d p1) (4616189618054758400 : UInt64))), .second, .unset, .unset] [(.ref fa3)])) _
              refine XS.astore X4.here hx rfl (hb hby at_60) rfl rfl (l' := #[.val (.int p0), .val (.int p1), .val (.int p2), .val (.int p3), .val (.int (0 : Int32)), .val (.int (0 : Int32)), .val (.double (FP.ddiv (FP.i2d p0) (4616189618054758400 : UInt64))), .second, .val (.double (FP.ddiv (FP.i2d p1) (4616189618054758400 : UInt64))), .second, .val (.ref fa3), .unset]) rfl ?_
              show Steps p.tables e below (T4.setTop (mkF m 62 #[.val (.int p0), .val (.int p1), .val (.int p2), .val (.int p3), .val (.int (0 : Int32)), .val (.int (0 : Int32)), .val (.double (FP.ddiv (FP.i2d p0) (4616189618054758400 : UInt64))), .second, .val (.double (FP.ddiv (FP.i2d p1) (4616189618054758400 : UInt64))), .second, .val (.ref fa3), .unset] [])) _
              refine XS.iloadN X4.here hx rfl (hb hby at_62) rfl ?_
              show Steps p.tables e below (T4.setTop (mkF m 63 #[.val (.int p0), .val (.int p1), .val (.int p2), .val (.int p3), .val (.int (0 : Int32)), .val (.int (0 : Int32)), .val (.double (FP.ddiv (FP.i2d p0) (4616189618054758400 : UInt64))), .second, .val (.double (FP.ddiv (FP.i2d p1) (4616189618054758400 : UInt64))), .second, .val (.ref fa3), .unset] [(.int p0)])) _
              refine XS.ifYes X4.here hx rfl (pc0 := 63) (pc' := 72) rfl (hb hby at_63) rfl ((if0 _ _).trans (tlt hc5).2.2.1) (by decide) (by decide) ?_
              show Steps p.tables e below (T4.setTop (mkF m 72 #[.val (.int p0), .val (.int p1), .val (.int p2), .val (.int p3), .val (.int (0 : Int32)), .val (.int (0 : Int32)), .val (.double (FP.ddiv (FP.i2d p0) (4616189618054758400 : UInt64))), .second, .val (.double (FP.ddiv (FP.i2d p1) (4616189618054758400 : UInt64))), .second, .val (.ref fa3), .unset] [])) _
              refine XS.iload X4.here hx rfl (hb hby at_72) rfl ?_
              show Steps p.tables e below (T4.setTop (mkF m 74 #[.val (.int p0), .val (.int p1), .val (.int p2), .val (.int p3), .val (.int (0 : Int32)), .val (.int (0 : Int32)), .val (.double (FP.ddiv (FP.i2d p0) (4616189618054758400 : UInt64))), .second, .val (.double (FP.ddiv (FP.i2d p1) (4616189618054758400 : UInt64))), .second, .val (.ref fa3), .unset] [(.int (0 : Int32))])) _
              refine XS.ifYes X4.here hx rfl (pc0 := 74) (pc' := 83) rfl (hb hby at_74) rfl ((if0 _ _).trans (teq (by decide : (0 : Int32) = (0 : Int32))).1) (by decide) (by decide) ?_
              show Steps p.tables e below (T4.setTop (mkF m 83 #[.val (.int p0), .val (.int p1), .val (.int p2), .val (.int p3), .val (.int (0 : Int32)), .val (.int (0 : Int32)), .val (.double (FP.ddiv (FP.i2d p0) (4616189618054758400 : UInt64))), .second, .val (.double (FP.ddiv (FP.i2d p1) (4616189618054758400 : UInt64))), .second, .val (.ref fa3), .unset] [])) _
              refine XS.iload X4.here hx rfl (hb hby at_83) rfl ?_
              show Steps p.tables e below (T4.setTop (mkF m 85 #[.val (.int p0), .val (.int p1), .val (.int p2), .val (.int p3), .val (.int (0 : Int32)), .val (.int (0 : Int32)), .val (.double (FP.ddiv (FP.i2d p0) (4616189618054758400 : UInt64))), .second, .val (.double (FP.ddiv (FP.i2d p1) (4616189618054758400 : UInt64))), .second, .val (.ref fa3), .unset] [(.int (0 : Int32))])) _
              refine XS.ifYes X4.here hx rfl (pc0 := 85) (pc' := 94) rfl (hb hby at_85) rfl ((if0 _ _).trans (teq (by decide : (0 : Int32) = (0 : Int32))).1) (by decide) (by decide) ?_
              show Steps p.tables e below (T4.setTop (mkF m 94 #[.val (.int p0), .val (.int p1), .val (.int p2), .val (.int p3), .val (.int (0 : Int32)), .val (.int (0 : Int32)), .val (.double (FP.ddiv (FP.i2d p0) (4616189618054758400 : UInt64))), .second, .val (.double (FP.ddiv (FP.i2d p1) (4616189618054758400 : UInt64))), .second, .val (.ref fa3), .unset] [])) _
              refine XS.iloadN X4.here hx rfl (hb hby at_94) rfl ?_
              show Steps p.tables e below (T4.setTop (mkF m 95 #[.val (.int p0), .val (.int p1), .val (.int p2), .val (.int p3), .val (.int (0 : Int32)), .val (.int (0 : Int32)), .val (.double (FP.ddiv (FP.i2d p0) (4616189618054758400 : UInt64))), .second, .val (.double (FP.ddiv (FP.i2d p1) (4616189618054758400 : UInt64))), .second, .val (.ref fa3), .unset] [(.int p2)])) _
              refine XS.ifYes X4.here hx rfl (pc0 := 95) (pc' := 104) rfl (hb hby at_95) rfl ((if0 _ _).trans (flt hc6).2.2.2) (by decide) (by decide) ?_
              show Steps p.tables e below (T4.setTop (mkF m 104 #[.val (.int p0), .val (.int p1), .val (.int p2), .val (.int p3), .val (.int (0 : Int32)), .val (.int (0 : Int32)), .val (.double (FP.ddiv (FP.i2d p0) (4616189618054758400 : UInt64))), .second, .val (.double (FP.ddiv (FP.i2d p1) (4616189618054758400 : UInt64))), .second, .val (.ref fa3), .unset] [])) _
              refine XS.iloadN X4.here hx rfl (hb hby at_104) rfl ?_
              show Steps p.tables e below (T4.setTop (mkF m 105 #[.val (.int p0), .val (.int p1), .val (.int p2), .val (.int p3), .val (.int (0 : Int32)), .val (.int (0 : Int32)), .val (.double (FP.ddiv (FP.i2d p0) (4616189618054758400 : UInt64))), .second, .val (.double (FP.ddiv (FP.i2d p1) (4616189618054758400 : UInt64))), .second, .val (.ref fa3), .unset] [(.int p1)])) _
              refine XS.ifYes X4.here hx rfl (pc0 := 105) (pc' := 112) rfl (hb hby at_105) rfl ((if0 _ _).trans (flt hc8).2.2.2) (by decide) (by decide) ?_
              show Steps p.tables e below (T4.setTop (mkF m 112 #[.val (.int p0), .val (.int p1), .val (.int p2), .val (.int p3), .val (.int (0 : Int32)), .val (.int (0 : Int32)), .val (.double (FP.ddiv (FP.i2d p0) (4616189618054758400 : UInt64))), .second, .val (.double (FP.ddiv (FP.i2d p1) (4616189618054758400 : UInt64))), .second, .val (.ref fa3), .unset] [])) _
              refine XS.iconst X4.here hx rfl (hb hby at_112) ?_
              show Steps p.tables e below (T4.setTop (mkF m 113 #[.val (.int p0), .val (.int p1), .val (.int p2), .val (.int p3), .val (.int (0 : Int32)), .val (.int (0 : Int32)), .val (.double (FP.ddiv (FP.i2d p0) (4616189618054758400 : UInt64))), .second, .val (.double (FP.ddiv (FP.i2d p1) (4616189618054758400 : UInt64))), .second, .val (.ref fa3), .unset] [(.int (0 : Int32))])) _
              refine XS.istore X4.here hx rfl (hb hby at_113) rfl (l' := #[.val (.int p0), .val (.int p1), .val (.int p2), .val (.int p3), .val (.int (0 : Int32)), .val (.int (0 : Int32)), .val (.double (FP.ddiv (FP.i2d p0) (4616189618054758400 : UInt64))), .second, .val (.double (FP.ddiv (FP.i2d p1) (4616189618054758400 : UInt64))), .second, .val (.ref fa3), .val (.int (0 : Int32))]) rfl ?_
              show Steps p.tables e below (T4.setTop (mkF m 115 #[.val (.int p0), .val (.int p1), .val (.int p2), .val (.int p3), .val (.int (0 : Int32)), .val (.int (0 : Int32)), .val (.double (FP.ddiv (FP.i2d p0) (4616189618054758400 : UInt64))), .second, .val (.double (FP.ddiv (FP.i2d p1) (4616189618054758400 : UInt64))), .second, .val (.ref fa3), .val (.int (0 : Int32))] [])) _
              refine XS.aload X4.here hx rfl (hb hby at_115) rfl rfl ?_
              show Steps p.tables e below (T4.setTop (mkF m 117 #[.val (.int p0), .val (.int p1), .val (.int p2), .val (.int p3), .val (.int (0 : Int32)), .val (.int (0 : Int32)), .val (.double (FP.ddiv (FP.i2d p0) (4616189618054758400 : UInt64))), .second, .val (.double (FP.ddiv (FP.i2d p1) (4616189618054758400 : UInt64))), .second, .val (.ref fa3), .val (.int (0 : Int32))] [(.ref fa3)])) _
              refine st10.trans ?_
              show Steps p.tables e below (T10.setTop (mkF m 120 #[.val (.int p0), .val (.int p1), .val (.int p2), .val (.int p3), .val (.int (0 : Int32)), .val (.int (0 : Int32)), .val (.double (FP.ddiv (FP.i2d p0) (4616189618054758400 : UInt64))), .second, .val (.double (FP.ddiv (FP.i2d p1) (4616189618054758400 : UInt64))), .second, .val (.ref fa3), .val (.int (0 : Int32))] [(.int (own_need (FP.ddiv (FP.i2d p0) (4616189618054758400 : UInt64)) (FP.ddiv (FP.i2d p1) (4616189618054758400 : UInt64)) p2 (nar .boolean (0 : Int32)) (nar .boolean (0 : Int32))))])) _
              refine XS.iload X10.here hx rfl (hb hby at_120) rfl ?_
              show Steps p.tables e below (T10.setTop (mkF m 122 #[.val (.int p0), .val (.int p1), .val (.int p2), .val (.int p3), .val (.int (0 : Int32)), .val (.int (0 : Int32)), .val (.double (FP.ddiv (FP.i2d p0) (4616189618054758400 : UInt64))), .second, .val (.double (FP.ddiv (FP.i2d p1) (4616189618054758400 : UInt64))), .second, .val (.ref fa3), .val (.int (0 : Int32))] [(.int (0 : Int32)), (.int (own_need (FP.ddiv (FP.i2d p0) (4616189618054758400 : UInt64)) (FP.ddiv (FP.i2d p1) (4616189618054758400 : UInt64)) p2 (nar .boolean (0 : Int32)) (nar .boolean (0 : Int32))))])) _
              refine XS.icmpNo X10.here hx rfl (hb hby at_122) rfl (teq (by simp [own_need, own_pos, own_nar0, own_nar1, hc1, hc2, hc5, hc6, hc8] : (own_need (FP.ddiv (FP.i2d p0) (4616189618054758400 : UInt64)) (FP.ddiv (FP.i2d p1) (4616189618054758400 : UInt64)) p2 (nar .boolean (0 : Int32)) (nar .boolean (0 : Int32))) = (0 : Int32))).2 ?_
              show Steps p.tables e below (T10.setTop (mkF m 125 #[.val (.int p0), .val (.int p1), .val (.int p2), .val (.int p3), .val (.int (0 : Int32)), .val (.int (0 : Int32)), .val (.double (FP.ddiv (FP.i2d p0) (4616189618054758400 : UInt64))), .second, .val (.double (FP.ddiv (FP.i2d p1) (4616189618054758400 : UInt64))), .second, .val (.ref fa3), .val (.int (0 : Int32))] [])) _
              refine XS.iconst X10.here hx rfl (hb hby at_125) ?_
              show Steps p.tables e below (T10.setTop (mkF m 126 #[.val (.int p0), .val (.int p1), .val (.int p2), .val (.int p3), .val (.int (0 : Int32)), .val (.int (0 : Int32)), .val (.double (FP.ddiv (FP.i2d p0) (4616189618054758400 : UInt64))), .second, .val (.double (FP.ddiv (FP.i2d p1) (4616189618054758400 : UInt64))), .second, .val (.ref fa3), .val (.int (0 : Int32))] [(.int (1 : Int32))])) _
              refine XS.goto X10.here hx rfl (pc0 := 126) (pc' := 130) rfl (hb hby at_126) (by decide) (by decide) ?_
              show Steps p.tables e below (T10.setTop (mkF m 130 #[.val (.int p0), .val (.int p1), .val (.int p2), .val (.int p3), .val (.int (0 : Int32)), .val (.int (0 : Int32)), .val (.double (FP.ddiv (FP.i2d p0) (4616189618054758400 : UInt64))), .second, .val (.double (FP.ddiv (FP.i2d p1) (4616189618054758400 : UInt64))), .second, .val (.ref fa3), .val (.int (0 : Int32))] [(.int (1 : Int32))])) _
              exact retN X10 hx (t := .boolean) Bd.returns (by simp) (hb hby at_130) hr
            · show Q_rm0 Z p0 p1 p2 p3 h0 n0 _ T10.heap _
              rw [e10]
              exact ⟨rfl, N10, KK4⟩
      · obtain ⟨cq11, kq11, q11a, q11b, q11c⟩ := isOf hZ rfl Q4_0
        obtain ⟨_, _, ⟨T11, L11, k11, n11⟩, -, X11, ⟨Lc11, hQ11, l11, y11, z11⟩, st11⟩ := X4.virtualBack hx (y := (⟨"com/example/musterpoint/musterpoint/world/CivilianSighting", "needsHelp", "()Z"⟩ : MethodName)) (z := (⟨"com/example/musterpoint/musterpoint/world/CivilianSighting", "needsHelp", "()Z"⟩ : MethodName)) hown (mvT hZ (hw _ (List.mem_of_getElem? (i := 29) rfl))) (mvT hZ (hw _ (List.mem_of_getElem? (i := 30) rfl))) (notFace_of_selects (args := #[]) (mvT hZ (hw _ (List.mem_of_getElem? (i := 32) rfl)))) (mvT hZ (hw _ (List.mem_of_getElem? (i := 32) rfl))) (mvT hZ (hw _ (List.mem_of_getElem? (i := 31) rfl))) (by decide) (backOf (W := 0) (rm4 l Z a0 hw [] fa3 (FP.ddiv (FP.i2d p0) (4616189618054758400 : UInt64)) (FP.ddiv (FP.i2d p1) (4616189618054758400 : UInt64)) p2 (nar .boolean (0 : Int32)) (nar .boolean (0 : Int32)) T4.heap n0 O4 Q4_1 Q4_2 Q4_3 Q4_4 Q4_5) hZ (hw _ (List.mem_of_getElem? (i := 33) rfl)) (hw _ (List.mem_of_getElem? (i := 3) rfl)) (by decide) (by decide)) q11a q11c (g := (mkF m 117 #[.val (.int p0), .val (.int p1), .val (.int p2), .val (.int p3), .val (.int (0 : Int32)), .val (.int (0 : Int32)), .val (.double (FP.ddiv (FP.i2d p0) (4616189618054758400 : UInt64))), .second, .val (.double (FP.ddiv (FP.i2d p1) (4616189618054758400 : UInt64))), .second, .val (.ref fa3), .val (.int (0 : Int32))] [(.ref fa3)])) rfl (by rw [hml]; rfl) (Steps.refl _) (argsL := []) (rest := []) (lenOf pd_2 rfl) rfl (by show 2 * 0 + _ ≤ _; exact Nat.le_of_eq rfl) (hb hby at_117) (fun _ _ => ⟨rfl, rfl, (by decide : 1 + 0 ≤ _), (by decide : 7 + 0 ≤ _)⟩)
        dsimp only [Pt.U, Pt.locs, Pt.cells, Pt.slots] at X11 l11 y11 z11 st11 hQ11
        subst l11 y11 z11
        obtain ⟨rfl, N11q, e11⟩ := hQ11
        have N11 := Fr.app N4 N11q
        obtain ⟨fs, hr, hrun, hended, hW, hsame⟩ := X11.leave (v := some (.int (1 : Int32))) (fun h => by rw [Bd.returns] at h; cases h)
        refine ⟨_, _, pre0 _ ?_, hrun, hended, _, _, rfl, ?_, ⟨_, rfl⟩, hW, hsame.mono (by decide) (by decide)⟩
        · show Steps p.tables e below (s₁.setTop (mkF m 0 #[.val (.int p0), .val (.int p1), .val (.int p2), .val (.int p3), .unset, .unset, .unset, .unset, .unset, .unset, .unset, .unset] [])) _
          refine XS.iloadN X0.here hx rfl (hb hby at_0) rfl ?_
          show Steps p.tables e below (s₁.setTop (mkF m 1 #[.val (.int p0), .val (.int p1), .val (.int p2), .val (.int p3), .unset, .unset, .unset, .unset, .unset, .unset, .unset, .unset] [(.int p3)])) _
          refine XS.iconst X0.here hx rfl (hb hby at_1) ?_
          show Steps p.tables e below (s₁.setTop (mkF m 2 #[.val (.int p0), .val (.int p1), .val (.int p2), .val (.int p3), .unset, .unset, .unset, .unset, .unset, .unset, .unset, .unset] [(.int (1 : Int32)), (.int p3)])) _
          refine XS.iand X0.here hx rfl (hb hby at_2) rfl ?_
          show Steps p.tables e below (s₁.setTop (mkF m 3 #[.val (.int p0), .val (.int p1), .val (.int p2), .val (.int p3), .unset, .unset, .unset, .unset, .unset, .unset, .unset, .unset] [(.int (p3 &&& (1 : Int32)))])) _
          refine XS.ifYes X0.here hx rfl (pc0 := 3) (pc' := 10) rfl (hb hby at_3) rfl ((if0 _ _).trans (teq hc1).1) (by decide) (by decide) ?_
          show Steps p.tables e below (s₁.setTop (mkF m 10 #[.val (.int p0), .val (.int p1), .val (.int p2), .val (.int p3), .unset, .unset, .unset, .unset, .unset, .unset, .unset, .unset] [])) _
          refine XS.iconst X0.here hx rfl (hb hby at_10) ?_
          show Steps p.tables e below (s₁.setTop (mkF m 11 #[.val (.int p0), .val (.int p1), .val (.int p2), .val (.int p3), .unset, .unset, .unset, .unset, .unset, .unset, .unset, .unset] [(.int (0 : Int32))])) _
          refine XS.istore X0.here hx rfl (hb hby at_11) rfl (l' := #[.val (.int p0), .val (.int p1), .val (.int p2), .val (.int p3), .val (.int (0 : Int32)), .unset, .unset, .unset, .unset, .unset, .unset, .unset]) rfl ?_
          show Steps p.tables e below (s₁.setTop (mkF m 13 #[.val (.int p0), .val (.int p1), .val (.int p2), .val (.int p3), .val (.int (0 : Int32)), .unset, .unset, .unset, .unset, .unset, .unset, .unset] [])) _
          refine XS.iloadN X0.here hx rfl (hb hby at_13) rfl ?_
          show Steps p.tables e below (s₁.setTop (mkF m 14 #[.val (.int p0), .val (.int p1), .val (.int p2), .val (.int p3), .val (.int (0 : Int32)), .unset, .unset, .unset, .unset, .unset, .unset, .unset] [(.int p3)])) _
          refine XS.iconst X0.here hx rfl (hb hby at_14) ?_
          show Steps p.tables e below (s₁.setTop (mkF m 15 #[.val (.int p0), .val (.int p1), .val (.int p2), .val (.int p3), .val (.int (0 : Int32)), .unset, .unset, .unset, .unset, .unset, .unset, .unset] [(.int (2 : Int32)), (.int p3)])) _
          refine XS.iand X0.here hx rfl (hb hby at_15) rfl ?_
          show Steps p.tables e below (s₁.setTop (mkF m 16 #[.val (.int p0), .val (.int p1), .val (.int p2), .val (.int p3), .val (.int (0 : Int32)), .unset, .unset, .unset, .unset, .unset, .unset, .unset] [(.int (p3 &&& (2 : Int32)))])) _
          refine XS.ifYes X0.here hx rfl (pc0 := 16) (pc' := 23) rfl (hb hby at_16) rfl ((if0 _ _).trans (teq hc2).1) (by decide) (by decide) ?_
          show Steps p.tables e below (s₁.setTop (mkF m 23 #[.val (.int p0), .val (.int p1), .val (.int p2), .val (.int p3), .val (.int (0 : Int32)), .unset, .unset, .unset, .unset, .unset, .unset, .unset] [])) _
          refine XS.iconst X0.here hx rfl (hb hby at_23) ?_
          show Steps p.tables e below (s₁.setTop (mkF m 24 #[.val (.int p0), .val (.int p1), .val (.int p2), .val (.int p3), .val (.int (0 : Int32)), .unset, .unset, .unset, .unset, .unset, .unset, .unset] [(.int (0 : Int32))])) _
          refine XS.istore X0.here hx rfl (hb hby at_24) rfl (l' := #[.val (.int p0), .val (.int p1), .val (.int p2), .val (.int p3), .val (.int (0 : Int32)), .val (.int (0 : Int32)), .unset, .unset, .unset, .unset, .unset, .unset]) rfl ?_
          show Steps p.tables e below (s₁.setTop (mkF m 26 #[.val (.int p0), .val (.int p1), .val (.int p2), .val (.int p3), .val (.int (0 : Int32)), .val (.int (0 : Int32)), .unset, .unset, .unset, .unset, .unset, .unset] [])) _
          refine XS.iloadN X0.here hx rfl (hb hby at_26) rfl ?_
          show Steps p.tables e below (s₁.setTop (mkF m 27 #[.val (.int p0), .val (.int p1), .val (.int p2), .val (.int p3), .val (.int (0 : Int32)), .val (.int (0 : Int32)), .unset, .unset, .unset, .unset, .unset, .unset] [(.int p0)])) _
          refine XS.i2dS X0.here hx rfl (hb hby at_27) rfl rfl ?_
          show Steps p.tables e below (s₁.setTop (mkF m 28 #[.val (.int p0), .val (.int p1), .val (.int p2), .val (.int p3), .val (.int (0 : Int32)), .val (.int (0 : Int32)), .unset, .unset, .unset, .unset, .unset, .unset] [(.double (FP.i2d p0))])) _
          refine X0.ldc2DoubleC hx hown (mvT hZ (hw _ (List.mem_of_getElem? (i := 0) rfl))) (g := (mkF m 28 #[.val (.int p0), .val (.int p1), .val (.int p2), .val (.int p3), .val (.int (0 : Int32)), .val (.int (0 : Int32)), .unset, .unset, .unset, .unset, .unset, .unset] [(.double (FP.i2d p0))])) rfl (hb hby at_28) _ ?_
          show Steps p.tables e below (s₁.setTop (mkF m 31 #[.val (.int p0), .val (.int p1), .val (.int p2), .val (.int p3), .val (.int (0 : Int32)), .val (.int (0 : Int32)), .unset, .unset, .unset, .unset, .unset, .unset] [(.double (4616189618054758400 : UInt64)), (.double (FP.i2d p0))])) _
          refine XS.ddivS X0.here hx rfl (hb hby at_31) rfl (own_nn p0) rfl ?_
          show Steps p.tables e below (s₁.setTop (mkF m 32 #[.val (.int p0), .val (.int p1), .val (.int p2), .val (.int p3), .val (.int (0 : Int32)), .val (.int (0 : Int32)), .unset, .unset, .unset, .unset, .unset, .unset] [(.double (FP.ddiv (FP.i2d p0) (4616189618054758400 : UInt64)))])) _
          refine XS.dstore X0.here hx rfl (hb hby at_32) rfl (l' := #[.val (.int p0), .val (.int p1), .val (.int p2), .val (.int p3), .val (.int (0 : Int32)), .val (.int (0 : Int32)), .val (.double (FP.ddiv (FP.i2d p0) (4616189618054758400 : UInt64))), .second, .unset, .unset, .unset, .unset]) rfl ?_
          show Steps p.tables e below (s₁.setTop (mkF m 34 #[.val (.int p0), .val (.int p1), .val (.int p2), .val (.int p3), .val (.int (0 : Int32)), .val (.int (0 : Int32)), .val (.double (FP.ddiv (FP.i2d p0) (4616189618054758400 : UInt64))), .second, .unset, .unset, .unset, .unset] [])) _
          refine XS.iloadN X0.here hx rfl (hb hby at_34) rfl ?_
          show Steps p.tables e below (s₁.setTop (mkF m 35 #[.val (.int p0), .val (.int p1), .val (.int p2), .val (.int p3), .val (.int (0 : Int32)), .val (.int (0 : Int32)), .val (.double (FP.ddiv (FP.i2d p0) (4616189618054758400 : UInt64))), .second, .unset, .unset, .unset, .unset] [(.int p1)])) _
          refine XS.i2dS X0.here hx rfl (hb hby at_35) rfl rfl ?_
          show Steps p.tables e below (s₁.setTop (mkF m 36 #[.val (.int p0), .val (.int p1), .val (.int p2), .val (.int p3), .val (.int (0 : Int32)), .val (.int (0 : Int32)), .val (.double (FP.ddiv (FP.i2d p0) (4616189618054758400 : UInt64))), .second, .unset, .unset, .unset, .unset] [(.double (FP.i2d p1))])) _
          refine X0.ldc2DoubleC hx hown (mvT hZ (hw _ (List.mem_of_getElem? (i := 0) rfl))) (g := (mkF m 36 #[.val (.int p0), .val (.int p1), .val (.int p2), .val (.int p3), .val (.int (0 : Int32)), .val (.int (0 : Int32)), .val (.double (FP.ddiv (FP.i2d p0) (4616189618054758400 : UInt64))), .second, .unset, .unset, .unset, .unset] [(.double (FP.i2d p1))])) rfl (hb hby at_36) _ ?_
          show Steps p.tables e below (s₁.setTop (mkF m 39 #[.val (.int p0), .val (.int p1), .val (.int p2), .val (.int p3), .val (.int (0 : Int32)), .val (.int (0 : Int32)), .val (.double (FP.ddiv (FP.i2d p0) (4616189618054758400 : UInt64))), .second, .unset, .unset, .unset, .unset] [(.double (4616189618054758400 : UInt64)), (.double (FP.i2d p1))])) _
          refine XS.ddivS X0.here hx rfl (hb hby at_39) rfl (own_nn p1) rfl ?_
          show Steps p.tables e below (s₁.setTop (mkF m 40 #[.val (.int p0), .val (.int p1), .val (.int p2), .val (.int p3), .val (.int (0 : Int32)), .val (.int (0 : Int32)), .val (.double (FP.ddiv (FP.i2d p0) (4616189618054758400 : UInt64))), .second, .unset, .unset, .unset, .unset] [(.double (FP.ddiv (FP.i2d p1) (4616189618054758400 : UInt64)))])) _
          refine XS.dstore X0.here hx rfl (hb hby at_40) rfl (l' := #[.val (.int p0), .val (.int p1), .val (.int p2), .val (.int p3), .val (.int (0 : Int32)), .val (.int (0 : Int32)), .val (.double (FP.ddiv (FP.i2d p0) (4616189618054758400 : UInt64))), .second, .val (.double (FP.ddiv (FP.i2d p1) (4616189618054758400 : UInt64))), .second, .unset, .unset]) rfl ?_
          show Steps p.tables e below (s₁.setTop (mkF m 42 #[.val (.int p0), .val (.int p1), .val (.int p2), .val (.int p3), .val (.int (0 : Int32)), .val (.int (0 : Int32)), .val (.double (FP.ddiv (FP.i2d p0) (4616189618054758400 : UInt64))), .second, .val (.double (FP.ddiv (FP.i2d p1) (4616189618054758400 : UInt64))), .second, .unset, .unset] [])) _
          refine st3 _ ?_
          show Steps p.tables e below (T3.setTop (mkF m 45 #[.val (.int p0), .val (.int p1), .val (.int p2), .val (.int p3), .val (.int (0 : Int32)), .val (.int (0 : Int32)), .val (.double (FP.ddiv (FP.i2d p0) (4616189618054758400 : UInt64))), .second, .val (.double (FP.ddiv (FP.i2d p1) (4616189618054758400 : UInt64))), .second, .unset, .unset] [(.ref fa3)])) _
          refine XS.dup X3.here hx rfl (hb hby at_45) rfl rfl ?_
          show Steps p.tables e below (T3.setTop (mkF m 46 #[.val (.int p0), .val (.int p1), .val (.int p2), .val (.int p3), .val (.int (0 : Int32)), .val (.int (0 : Int32)), .val (.double (FP.ddiv (FP.i2d p0) (4616189618054758400 : UInt64))), .second, .val (.double (FP.ddiv (FP.i2d p1) (4616189618054758400 : UInt64))), .second, .unset, .unset] [(.ref fa3), (.ref fa3)])) _
          refine XS.aconstNull X3.here hx rfl (hb hby at_46) ?_
          show Steps p.tables e below (T3.setTop (mkF m 47 #[.val (.int p0), .val (.int p1), .val (.int p2), .val (.int p3), .val (.int (0 : Int32)), .val (.int (0 : Int32)), .val (.double (FP.ddiv (FP.i2d p0) (4616189618054758400 : UInt64))), .second, .val (.double (FP.ddiv (FP.i2d p1) (4616189618054758400 : UInt64))), .second, .unset, .unset] [.null, (.ref fa3), (.ref fa3)])) _
          refine XS.aconstNull X3.here hx rfl (hb hby at_47) ?_
          show Steps p.tables e below (T3.setTop (mkF m 48 #[.val (.int p0), .val (.int p1), .val (.int p2), .val (.int p3), .val (.int (0 : Int32)), .val (.int (0 : Int32)), .val (.double (FP.ddiv (FP.i2d p0) (4616189618054758400 : UInt64))), .second, .val (.double (FP.ddiv (FP.i2d p1) (4616189618054758400 : UInt64))), .second, .unset, .unset] [.null, .null, (.ref fa3), (.ref fa3)])) _
          refine XS.dload X3.here hx rfl (hb hby at_48) rfl ?_
          show Steps p.tables e below (T3.setTop (mkF m 50 #[.val (.int p0), .val (.int p1), .val (.int p2), .val (.int p3), .val (.int (0 : Int32)), .val (.int (0 : Int32)), .val (.double (FP.ddiv (FP.i2d p0) (4616189618054758400 : UInt64))), .second, .val (.double (FP.ddiv (FP.i2d p1) (4616189618054758400 : UInt64))), .second, .unset, .unset] [(.double (FP.ddiv (FP.i2d p0) (4616189618054758400 : UInt64))), .null, .null, (.ref fa3), (.ref fa3)])) _
          refine XS.dload X3.here hx rfl (hb hby at_50) rfl ?_
          show Steps p.tables e below (T3.setTop (mkF m 52 #[.val (.int p0), .val (.int p1), .val (.int p2), .val (.int p3), .val (.int (0 : Int32)), .val (.int (0 : Int32)), .val (.double (FP.ddiv (FP.i2d p0) (4616189618054758400 : UInt64))), .second, .val (.double (FP.ddiv (FP.i2d p1) (4616189618054758400 : UInt64))), .second, .unset, .unset] [(.double (FP.ddiv (FP.i2d p1) (4616189618054758400 : UInt64))), (.double (FP.ddiv (FP.i2d p0) (4616189618054758400 : UInt64))), .null, .null, (.ref fa3), (.ref fa3)])) _
          refine XS.iloadN X3.here hx rfl (hb hby at_52) rfl ?_
          show Steps p.tables e below (T3.setTop (mkF m 53 #[.val (.int p0), .val (.int p1), .val (.int p2), .val (.int p3), .val (.int (0 : Int32)), .val (.int (0 : Int32)), .val (.double (FP.ddiv (FP.i2d p0) (4616189618054758400 : UInt64))), .second, .val (.double (FP.ddiv (FP.i2d p1) (4616189618054758400 : UInt64))), .second, .unset, .unset] [(.int p2), (.double (FP.ddiv (FP.i2d p1) (4616189618054758400 : UInt64))), (.double (FP.ddiv (FP.i2d p0) (4616189618054758400 : UInt64))), .null, .null, (.ref fa3), (.ref fa3)])) _
          refine XS.iload X3.here hx rfl (hb hby at_53) rfl ?_
          show Steps p.tables e below (T3.setTop (mkF m 55 #[.val (.int p0), .val (.int p1), .val (.int p2), .val (.int p3), .val (.int (0 : Int32)), .val (.int (0 : Int32)), .val (.double (FP.ddiv (FP.i2d p0) (4616189618054758400 : UInt64))), .second, .val (.double (FP.ddiv (FP.i2d p1) (4616189618054758400 : UInt64))), .second, .unset, .unset] [(.int (0 : Int32)), (.int p2), (.double (FP.ddiv (FP.i2d p1) (4616189618054758400 : UInt64))), (.double (FP.ddiv (FP.i2d p0) (4616189618054758400 : UInt64))), .null, .null, (.ref fa3), (.ref fa3)])) _
          refine XS.iload X3.here hx rfl (hb hby at_55) rfl ?_
          show Steps p.tables e below (T3.setTop (mkF m 57 #[.val (.int p0), .val (.int p1), .val (.int p2), .val (.int p3), .val (.int (0 : Int32)), .val (.int (0 : Int32)), .val (.double (FP.ddiv (FP.i2d p0) (4616189618054758400 : UInt64))), .second, .val (.double (FP.ddiv (FP.i2d p1) (4616189618054758400 : UInt64))), .second, .unset, .unset] [(.int (0 : Int32)), (.int (0 : Int32)), (.int p2), (.double (FP.ddiv (FP.i2d p1) (4616189618054758400 : UInt64))), (.double (FP.ddiv (FP.i2d p0) (4616189618054758400 : UInt64))), .null, .null, (.ref fa3), (.ref fa3)])) _
          refine st4.trans ?_
          show Steps p.tables e below (T4.setTop (mkF m 60 #[.val (.int p0), .val (.int p1), .val (.int p2), .val (.int p3), .val (.int (0 : Int32)), .val (.int (0 : Int32)), .val (.double (FP.ddiv (FP.i2d p0) (4616189618054758400 : UInt64))), .second, .val (.double (FP.ddiv (FP.i2d p1) (4616189618054758400 : UInt64))), .second, .unset, .unset] [(.ref fa3)])) _
          refine XS.astore X4.here hx rfl (hb hby at_60) rfl rfl (l' := #[.val (.int p0), .val (.int p1), .val (.int p2), .val (.int p3), .val (.int (0 : Int32)), .val (.int (0 : Int32)), .val (.double (FP.ddiv (FP.i2d p0) (4616189618054758400 : UInt64))), .second, .val (.double (FP.ddiv (FP.i2d p1) (4616189618054758400 : UInt64))), .second, .val (.ref fa3), .unset]) rfl ?_
          show Steps p.tables e below (T4.setTop (mkF m 62 #[.val (.int p0), .val (.int p1), .val (.int p2), .val (.int p3), .val (.int (0 : Int32)), .val (.int (0 : Int32)), .val (.double (FP.ddiv (FP.i2d p0) (4616189618054758400 : UInt64))), .second, .val (.double (FP.ddiv (FP.i2d p1) (4616189618054758400 : UInt64))), .second, .val (.ref fa3), .unset] [])) _
          refine XS.iloadN X4.here hx rfl (hb hby at_62) rfl ?_
          show Steps p.tables e below (T4.setTop (mkF m 63 #[.val (.int p0), .val (.int p1), .val (.int p2), .val (.int p3), .val (.int (0 : Int32)), .val (.int (0 : Int32)), .val (.double (FP.ddiv (FP.i2d p0) (4616189618054758400 : UInt64))), .second, .val (.double (FP.ddiv (FP.i2d p1) (4616189618054758400 : UInt64))), .second, .val (.ref fa3), .unset] [(.int p0)])) _
          refine XS.ifNo X4.here hx rfl (hb hby at_63) rfl ((if0 _ _).trans (flt hc5).2.2.1) ?_
          show Steps p.tables e below (T4.setTop (mkF m 66 #[.val (.int p0), .val (.int p1), .val (.int p2), .val (.int p3), .val (.int (0 : Int32)), .val (.int (0 : Int32)), .val (.double (FP.ddiv (FP.i2d p0) (4616189618054758400 : UInt64))), .second, .val (.double (FP.ddiv (FP.i2d p1) (4616189618054758400 : UInt64))), .second, .val (.ref fa3), .unset] [])) _
          refine XS.iconst X4.here hx rfl (hb hby at_66) ?_
          show Steps p.tables e below (T4.setTop (mkF m 67 #[.val (.int p0), .val (.int p1), .val (.int p2), .val (.int p3), .val (.int (0 : Int32)), .val (.int (0 : Int32)), .val (.double (FP.ddiv (FP.i2d p0) (4616189618054758400 : UInt64))), .second, .val (.double (FP.ddiv (FP.i2d p1) (4616189618054758400 : UInt64))), .second, .val (.ref fa3), .unset] [(.int (0 : Int32))])) _
          refine XS.istore X4.here hx rfl (hb hby at_67) rfl (l' := #[.val (.int p0), .val (.int p1), .val (.int p2), .val (.int p3), .val (.int (0 : Int32)), .val (.int (0 : Int32)), .val (.double (FP.ddiv (FP.i2d p0) (4616189618054758400 : UInt64))), .second, .val (.double (FP.ddiv (FP.i2d p1) (4616189618054758400 : UInt64))), .second, .val (.ref fa3), .val (.int (0 : Int32))]) rfl ?_
          show Steps p.tables e below (T4.setTop (mkF m 69 #[.val (.int p0), .val (.int p1), .val (.int p2), .val (.int p3), .val (.int (0 : Int32)), .val (.int (0 : Int32)), .val (.double (FP.ddiv (FP.i2d p0) (4616189618054758400 : UInt64))), .second, .val (.double (FP.ddiv (FP.i2d p1) (4616189618054758400 : UInt64))), .second, .val (.ref fa3), .val (.int (0 : Int32))] [])) _
          refine XS.goto X4.here hx rfl (pc0 := 69) (pc' := 115) rfl (hb hby at_69) (by decide) (by decide) ?_
          show Steps p.tables e below (T4.setTop (mkF m 115 #[.val (.int p0), .val (.int p1), .val (.int p2), .val (.int p3), .val (.int (0 : Int32)), .val (.int (0 : Int32)), .val (.double (FP.ddiv (FP.i2d p0) (4616189618054758400 : UInt64))), .second, .val (.double (FP.ddiv (FP.i2d p1) (4616189618054758400 : UInt64))), .second, .val (.ref fa3), .val (.int (0 : Int32))] [])) _
          refine XS.aload X4.here hx rfl (hb hby at_115) rfl rfl ?_
          show Steps p.tables e below (T4.setTop (mkF m 117 #[.val (.int p0), .val (.int p1), .val (.int p2), .val (.int p3), .val (.int (0 : Int32)), .val (.int (0 : Int32)), .val (.double (FP.ddiv (FP.i2d p0) (4616189618054758400 : UInt64))), .second, .val (.double (FP.ddiv (FP.i2d p1) (4616189618054758400 : UInt64))), .second, .val (.ref fa3), .val (.int (0 : Int32))] [(.ref fa3)])) _
          refine st11.trans ?_
          show Steps p.tables e below (T11.setTop (mkF m 120 #[.val (.int p0), .val (.int p1), .val (.int p2), .val (.int p3), .val (.int (0 : Int32)), .val (.int (0 : Int32)), .val (.double (FP.ddiv (FP.i2d p0) (4616189618054758400 : UInt64))), .second, .val (.double (FP.ddiv (FP.i2d p1) (4616189618054758400 : UInt64))), .second, .val (.ref fa3), .val (.int (0 : Int32))] [(.int (own_need (FP.ddiv (FP.i2d p0) (4616189618054758400 : UInt64)) (FP.ddiv (FP.i2d p1) (4616189618054758400 : UInt64)) p2 (nar .boolean (0 : Int32)) (nar .boolean (0 : Int32))))])) _
          refine XS.iload X11.here hx rfl (hb hby at_120) rfl ?_
          show Steps p.tables e below (T11.setTop (mkF m 122 #[.val (.int p0), .val (.int p1), .val (.int p2), .val (.int p3), .val (.int (0 : Int32)), .val (.int (0 : Int32)), .val (.double (FP.ddiv (FP.i2d p0) (4616189618054758400 : UInt64))), .second, .val (.double (FP.ddiv (FP.i2d p1) (4616189618054758400 : UInt64))), .second, .val (.ref fa3), .val (.int (0 : Int32))] [(.int (0 : Int32)), (.int (own_need (FP.ddiv (FP.i2d p0) (4616189618054758400 : UInt64)) (FP.ddiv (FP.i2d p1) (4616189618054758400 : UInt64)) p2 (nar .boolean (0 : Int32)) (nar .boolean (0 : Int32))))])) _
          refine XS.icmpNo X11.here hx rfl (hb hby at_122) rfl (teq (by simp [own_need, own_pos, own_nar0, own_nar1, hc1, hc2, hc5] : (own_need (FP.ddiv (FP.i2d p0) (4616189618054758400 : UInt64)) (FP.ddiv (FP.i2d p1) (4616189618054758400 : UInt64)) p2 (nar .boolean (0 : Int32)) (nar .boolean (0 : Int32))) = (0 : Int32))).2 ?_
          show Steps p.tables e below (T11.setTop (mkF m 125 #[.val (.int p0), .val (.int p1), .val (.int p2), .val (.int p3), .val (.int (0 : Int32)), .val (.int (0 : Int32)), .val (.double (FP.ddiv (FP.i2d p0) (4616189618054758400 : UInt64))), .second, .val (.double (FP.ddiv (FP.i2d p1) (4616189618054758400 : UInt64))), .second, .val (.ref fa3), .val (.int (0 : Int32))] [])) _
          refine XS.iconst X11.here hx rfl (hb hby at_125) ?_
          show Steps p.tables e below (T11.setTop (mkF m 126 #[.val (.int p0), .val (.int p1), .val (.int p2), .val (.int p3), .val (.int (0 : Int32)), .val (.int (0 : Int32)), .val (.double (FP.ddiv (FP.i2d p0) (4616189618054758400 : UInt64))), .second, .val (.double (FP.ddiv (FP.i2d p1) (4616189618054758400 : UInt64))), .second, .val (.ref fa3), .val (.int (0 : Int32))] [(.int (1 : Int32))])) _
          refine XS.goto X11.here hx rfl (pc0 := 126) (pc' := 130) rfl (hb hby at_126) (by decide) (by decide) ?_
          show Steps p.tables e below (T11.setTop (mkF m 130 #[.val (.int p0), .val (.int p1), .val (.int p2), .val (.int p3), .val (.int (0 : Int32)), .val (.int (0 : Int32)), .val (.double (FP.ddiv (FP.i2d p0) (4616189618054758400 : UInt64))), .second, .val (.double (FP.ddiv (FP.i2d p1) (4616189618054758400 : UInt64))), .second, .val (.ref fa3), .val (.int (0 : Int32))] [(.int (1 : Int32))])) _
          exact retN X11 hx (t := .boolean) Bd.returns (by simp) (hb hby at_130) hr
        · show Q_rm0 Z p0 p1 p2 p3 h0 n0 _ T11.heap _
          rw [e11]
          exact ⟨rfl, N11, KK4⟩
    · obtain ⟨T12, h12, X12, e12, E12, A12, D12, -, st12⟩ := newO X0 hx hZ hown (hw _ (List.mem_of_getElem? (i := 1) rfl)) (hw _ (List.mem_of_getElem? (i := 2) rfl)) (hw _ (List.mem_of_getElem? (i := 3) rfl)) e0 (g := (mkF m 42 #[.val (.int p0), .val (.int p1), .val (.int p2), .val (.int p3), .val (.int (0 : Int32)), .val (.int (1 : Int32)), .val (.double (FP.ddiv (FP.i2d p0) (4616189618054758400 : UInt64))), .second, .val (.double (FP.ddiv (FP.i2d p1) (4616189618054758400 : UInt64))), .second, .unset, .unset] [])) rfl (hb hby at_42) (by decide) (by decide)
      obtain ⟨fa12, g12⟩ : ∃ z, z = h0.size := ⟨_, rfl⟩
      rw [← g12] at A12 D12 st12
      have gn_fa12 : n0 ≤ fa12 := Nat.le_trans (own_oldsz O0) (Nat.le_of_eq g12.symm)
      have gh_fa12 : h0.size ≤ fa12 := Nat.le_trans (Keep.refl h0 []).1 (Nat.le_of_eq g12.symm)
      have Zn12 : n0 ≤ h12.size := Nat.le_trans (own_oldsz O0) E12.1
      have K12 : Keep h0 h12 [] := (Keep.refl h0 []).ext E12
      have O12 := O0.ext E12
      have F12_civilian : Fld Z h12 fa12 "com/example/musterpoint/musterpoint/world/CivilianSighting" "civilian" "Lcom/example/musterpoint/musterpoint/world/Civilian;" .null := D12 (Or.inr (hw _ (List.mem_of_getElem? (i := 16) rfl))) (ty := (.object "com/example/musterpoint/musterpoint/world/Civilian")) (by decide)
      have F12_area : Fld Z h12 fa12 "com/example/musterpoint/musterpoint/world/CivilianSighting" "area" "Lcom/example/musterpoint/musterpoint/world/Area;" .null := D12 (Or.inr (hw _ (List.mem_of_getElem? (i := 18) rfl))) (ty := (.object "com/example/musterpoint/musterpoint/world/Area")) (by decide)
      have F12_health : Fld Z h12 fa12 "com/example/musterpoint/musterpoint/world/CivilianSighting" "health" "D" (.double (0 : UInt64)) := D12 (Or.inr (hw _ (List.mem_of_getElem? (i := 20) rfl))) (ty := .double) (by decide)
      have F12_damage : Fld Z h12 fa12 "com/example/musterpoint/musterpoint/world/CivilianSighting" "damage" "D" (.double (0 : UInt64)) := D12 (Or.inr (hw _ (List.mem_of_getElem? (i := 22) rfl))) (ty := .double) (by decide)
      have F12_buriedness : Fld Z h12 fa12 "com/example/musterpoint/musterpoint/world/CivilianSighting" "buriedness" "I" (.int (0 : Int32)) := D12 (Or.inr (hw _ (List.mem_of_getElem? (i := 24) rfl))) (ty := .int) (by decide)
      have F12_carried : Fld Z h12 fa12 "com/example/musterpoint/musterpoint/world/CivilianSighting" "carried" "Z" (.int (0 : Int32)) := D12 (Or.inr (hw _ (List.mem_of_getElem? (i := 26) rfl))) (ty := .boolean) (by decide)
      have F12_sheltered : Fld Z h12 fa12 "com/example/musterpoint/musterpoint/world/CivilianSighting" "sheltered" "Z" (.int (0 : Int32)) := D12 (Or.inr (hw _ (List.mem_of_getElem? (i := 28) rfl))) (ty := .boolean) (by decide)
      obtain ⟨_, _, ⟨T13, L13, k13, n13⟩, -, X13, ⟨Lc13, hQ13, l13, y13, z13⟩, st13⟩ := X12.specialBack hx (y := (⟨"com/example/musterpoint/musterpoint/world/CivilianSighting", "<init>", "(Lcom/example/musterpoint/musterpoint/world/Civilian;Lcom/example/musterpoint/musterpoint/world/Area;DDIZZ)V"⟩ : MethodName)) rfl hown (mvT hZ (hw _ (List.mem_of_getElem? (i := 4) rfl))) (mvT hZ (hw _ (List.mem_of_getElem? (i := 5) rfl))) (mvT hZ (hw _ (List.mem_of_getElem? (i := 6) rfl))) (by decide) (backOf (W := 1) (rm1 l Z a0 hw [] fa12 (FP.ddiv (FP.i2d p0) (4616189618054758400 : UInt64)) (FP.ddiv (FP.i2d p1) (4616189618054758400 : UInt64)) p2 (0 : Int32) (1 : Int32) h12 n0 O12 A12 F12_civilian F12_area F12_health F12_damage F12_buriedness F12_carried F12_sheltered gn_fa12) hZ (hw _ (List.mem_of_getElem? (i := 6) rfl)) (hw _ (List.mem_of_getElem? (i := 3) rfl)) (by decide) (by decide)) (g := (mkF m 57 #[.val (.int p0), .val (.int p1), .val (.int p2), .val (.int p3), .val (.int (0 : Int32)), .val (.int (1 : Int32)), .val (.double (FP.ddiv (FP.i2d p0) (4616189618054758400 : UInt64))), .second, .val (.double (FP.ddiv (FP.i2d p1) (4616189618054758400 : UInt64))), .second, .unset, .unset] [(.int (1 : Int32)), (.int (0 : Int32)), (.int p2), (.double (FP.ddiv (FP.i2d p1) (4616189618054758400 : UInt64))), (.double (FP.ddiv (FP.i2d p0) (4616189618054758400 : UInt64))), .null, .null, (.ref fa12), (.ref fa12)])) rfl (by rw [hml]; rfl) (Steps.refl _) (a := fa12) (argsL := [.null, .null, (.double (FP.ddiv (FP.i2d p0) (4616189618054758400 : UInt64))), (.double (FP.ddiv (FP.i2d p1) (4616189618054758400 : UInt64))), (.int p2), (.int (0 : Int32)), (.int (1 : Int32))]) (rest := [(.ref fa12)]) (lenOf pd_1 rfl) rfl (by show 2 * 0 + _ ≤ _; exact Nat.le_of_eq rfl) (hb hby at_57) (fun _ _ => ⟨rfl, e12, (by decide : 1 + 0 ≤ _), (by decide : 7 + 0 ≤ _)⟩)
      dsimp only [Pt.U, Pt.locs, Pt.cells, Pt.slots] at X13 l13 y13 z13 st13 hQ13
      subst l13 y13 z13
      obtain ⟨rfl, N13q, K13, Q13_0, Q13_1, Q13_2, Q13_3, Q13_4, Q13_5⟩ := hQ13
      have O13 := O12.keep K13 (allS gn_fa12 all0)
      have KK13 : Keep h0 T13.heap [] := K12.trans K13 (allS (Or.inr gh_fa12) all0)
      have N13 := Fr.app N0 N13q
      by_cases hc14 : (0 : Int32) < p0
      · obtain ⟨cq15, kq15, q15a, q15b, q15c⟩ := isOf hZ rfl Q13_0
        obtain ⟨_, _, ⟨T15, L15, k15, n15⟩, -, X15, ⟨Lc15, hQ15, l15, y15, z15⟩, st15⟩ := X13.virtualBack hx (y := (⟨"com/example/musterpoint/musterpoint/world/CivilianSighting", "needsHelp", "()Z"⟩ : MethodName)) (z := (⟨"com/example/musterpoint/musterpoint/world/CivilianSighting", "needsHelp", "()Z"⟩ : MethodName)) hown (mvT hZ (hw _ (List.mem_of_getElem? (i := 29) rfl))) (mvT hZ (hw _ (List.mem_of_getElem? (i := 30) rfl))) (notFace_of_selects (args := #[]) (mvT hZ (hw _ (List.mem_of_getElem? (i := 32) rfl)))) (mvT hZ (hw _ (List.mem_of_getElem? (i := 32) rfl))) (mvT hZ (hw _ (List.mem_of_getElem? (i := 31) rfl))) (by decide) (backOf (W := 0) (rm4 l Z a0 hw [] fa12 (FP.ddiv (FP.i2d p0) (4616189618054758400 : UInt64)) (FP.ddiv (FP.i2d p1) (4616189618054758400 : UInt64)) p2 (nar .boolean (0 : Int32)) (nar .boolean (1 : Int32)) T13.heap n0 O13 Q13_1 Q13_2 Q13_3 Q13_4 Q13_5) hZ (hw _ (List.mem_of_getElem? (i := 33) rfl)) (hw _ (List.mem_of_getElem? (i := 3) rfl)) (by decide) (by decide)) q15a q15c (g := (mkF m 117 #[.val (.int p0), .val (.int p1), .val (.int p2), .val (.int p3), .val (.int (0 : Int32)), .val (.int (1 : Int32)), .val (.double (FP.ddiv (FP.i2d p0) (4616189618054758400 : UInt64))), .second, .val (.double (FP.ddiv (FP.i2d p1) (4616189618054758400 : UInt64))), .second, .val (.ref fa12), .val (.int (0 : Int32))] [(.ref fa12)])) rfl (by rw [hml]; rfl) (Steps.refl _) (argsL := []) (rest := []) (lenOf pd_2 rfl) rfl (by show 2 * 0 + _ ≤ _; exact Nat.le_of_eq rfl) (hb hby at_117) (fun _ _ => ⟨rfl, rfl, (by decide : 1 + 0 ≤ _), (by decide : 7 + 0 ≤ _)⟩)
        dsimp only [Pt.U, Pt.locs, Pt.cells, Pt.slots] at X15 l15 y15 z15 st15 hQ15
        subst l15 y15 z15
        obtain ⟨rfl, N15q, e15⟩ := hQ15
        have N15 := Fr.app N13 N15q
        obtain ⟨fs, hr, hrun, hended, hW, hsame⟩ := X15.leave (v := some (.int (1 : Int32))) (fun h => by rw [Bd.returns] at h; cases h)
        refine ⟨_, _, pre0 _ ?_, hrun, hended, _, _, rfl, ?_, ⟨_, rfl⟩, hW, hsame.mono (by decide) (by decide)⟩
        · show Steps p.tables e below (s₁.setTop (mkF m 0 #[.val (.int p0), .val (.int p1), .val (.int p2), .val (.int p3), .unset, .unset, .unset, .unset, .unset, .unset, .unset, .unset] [])) _
          refine XS.iloadN X0.here hx rfl (hb hby at_0) rfl ?_
          show Steps p.tables e below (s₁.setTop (mkF m 1 #[.val (.int p0), .val (.int p1), .val (.int p2), .val (.int p3), .unset, .unset, .unset, .unset, .unset, .unset, .unset, .unset] [(.int p3)])) _
          refine XS.iconst X0.here hx rfl (hb hby at_1) ?_
          show Steps p.tables e below (s₁.setTop (mkF m 2 #[.val (.int p0), .val (.int p1), .val (.int p2), .val (.int p3), .unset, .unset, .unset, .unset, .unset, .unset, .unset, .unset] [(.int (1 : Int32)), (.int p3)])) _
          refine XS.iand X0.here hx rfl (hb hby at_2) rfl ?_
          show Steps p.tables e below (s₁.setTop (mkF m 3 #[.val (.int p0), .val (.int p1), .val (.int p2), .val (.int p3), .unset, .unset, .unset, .unset, .unset, .unset, .unset, .unset] [(.int (p3 &&& (1 : Int32)))])) _
          refine XS.ifYes X0.here hx rfl (pc0 := 3) (pc' := 10) rfl (hb hby at_3) rfl ((if0 _ _).trans (teq hc1).1) (by decide) (by decide) ?_
          show Steps p.tables e below (s₁.setTop (mkF m 10 #[.val (.int p0), .val (.int p1), .val (.int p2), .val (.int p3), .unset, .unset, .unset, .unset, .unset, .unset, .unset, .unset] [])) _
          refine XS.iconst X0.here hx rfl (hb hby at_10) ?_
          show Steps p.tables e below (s₁.setTop (mkF m 11 #[.val (.int p0), .val (.int p1), .val (.int p2), .val (.int p3), .unset, .unset, .unset, .unset, .unset, .unset, .unset, .unset] [(.int (0 : Int32))])) _
          refine XS.istore X0.here hx rfl (hb hby at_11) rfl (l' := #[.val (.int p0), .val (.int p1), .val (.int p2), .val (.int p3), .val (.int (0 : Int32)), .unset, .unset, .unset, .unset, .unset, .unset, .unset]) rfl ?_
          show Steps p.tables e below (s₁.setTop (mkF m 13 #[.val (.int p0), .val (.int p1), .val (.int p2), .val (.int p3), .val (.int (0 : Int32)), .unset, .unset, .unset, .unset, .unset, .unset, .unset] [])) _
          refine XS.iloadN X0.here hx rfl (hb hby at_13) rfl ?_
          show Steps p.tables e below (s₁.setTop (mkF m 14 #[.val (.int p0), .val (.int p1), .val (.int p2), .val (.int p3), .val (.int (0 : Int32)), .unset, .unset, .unset, .unset, .unset, .unset, .unset] [(.int p3)])) _
          refine XS.iconst X0.here hx rfl (hb hby at_14) ?_
          show Steps p.tables e below (s₁.setTop (mkF m 15 #[.val (.int p0), .val (.int p1), .val (.int p2), .val (.int p3), .val (.int (0 : Int32)), .unset, .unset, .unset, .unset, .unset, .unset, .unset] [(.int (2 : Int32)), (.int p3)])) _
          refine XS.iand X0.here hx rfl (hb hby at_15) rfl ?_
          show Steps p.tables e below (s₁.setTop (mkF m 16 #[.val (.int p0), .val (.int p1), .val (.int p2), .val (.int p3), .val (.int (0 : Int32)), .unset, .unset, .unset, .unset, .unset, .unset, .unset] [(.int (p3 &&& (2 : Int32)))])) _
          refine XS.ifNo X0.here hx rfl (hb hby at_16) rfl ((if0 _ _).trans (feq hc2).1) ?_
          show Steps p.tables e below (s₁.setTop (mkF m 19 #[.val (.int p0), .val (.int p1), .val (.int p2), .val (.int p3), .val (.int (0 : Int32)), .unset, .unset, .unset, .unset, .unset, .unset, .unset] [])) _
          refine XS.iconst X0.here hx rfl (hb hby at_19) ?_
          show Steps p.tables e below (s₁.setTop (mkF m 20 #[.val (.int p0), .val (.int p1), .val (.int p2), .val (.int p3), .val (.int (0 : Int32)), .unset, .unset, .unset, .unset, .unset, .unset, .unset] [(.int (1 : Int32))])) _
          refine XS.goto X0.here hx rfl (pc0 := 20) (pc' := 24) rfl (hb hby at_20) (by decide) (by decide) ?_
          show Steps p.tables e below (s₁.setTop (mkF m 24 #[.val (.int p0), .val (.int p1), .val (.int p2), .val (.int p3), .val (.int (0 : Int32)), .unset, .unset, .unset, .unset, .unset, .unset, .unset] [(.int (1 : Int32))])) _
          refine XS.istore X0.here hx rfl (hb hby at_24) rfl (l' := #[.val (.int p0), .val (.int p1), .val (.int p2), .val (.int p3), .val (.int (0 : Int32)), .val (.int (1 : Int32)), .unset, .unset, .unset, .unset, .unset, .unset]) rfl ?_
          show Steps p.tables e below (s₁.setTop (mkF m 26 #[.val (.int p0), .val (.int p1), .val (.int p2), .val (.int p3), .val (.int (0 : Int32)), .val (.int (1 : Int32)), .unset, .unset, .unset, .unset, .unset, .unset] [])) _
          refine XS.iloadN X0.here hx rfl (hb hby at_26) rfl ?_
          show Steps p.tables e below (s₁.setTop (mkF m 27 #[.val (.int p0), .val (.int p1), .val (.int p2), .val (.int p3), .val (.int (0 : Int32)), .val (.int (1 : Int32)), .unset, .unset, .unset, .unset, .unset, .unset] [(.int p0)])) _
          refine XS.i2dS X0.here hx rfl (hb hby at_27) rfl rfl ?_
          show Steps p.tables e below (s₁.setTop (mkF m 28 #[.val (.int p0), .val (.int p1), .val (.int p2), .val (.int p3), .val (.int (0 : Int32)), .val (.int (1 : Int32)), .unset, .unset, .unset, .unset, .unset, .unset] [(.double (FP.i2d p0))])) _
          refine X0.ldc2DoubleC hx hown (mvT hZ (hw _ (List.mem_of_getElem? (i := 0) rfl))) (g := (mkF m 28 #[.val (.int p0), .val (.int p1), .val (.int p2), .val (.int p3), .val (.int (0 : Int32)), .val (.int (1 : Int32)), .unset, .unset, .unset, .unset, .unset, .unset] [(.double (FP.i2d p0))])) rfl (hb hby at_28) _ ?_
          show Steps p.tables e below (s₁.setTop (mkF m 31 #[.val (.int p0), .val (.int p1), .val (.int p2), .val (.int p3), .val (.int (0 : Int32)), .val (.int (1 : Int32)), .unset, .unset, .unset, .unset, .unset, .unset] [(.double (4616189618054758400 : UInt64)), (.double (FP.i2d p0))])) _
          refine XS.ddivS X0.here hx rfl (hb hby at_31) rfl (own_nn p0) rfl ?_
          show Steps p.tables e below (s₁.setTop (mkF m 32 #[.val (.int p0), .val (.int p1), .val (.int p2), .val (.int p3), .val (.int (0 : Int32)), .val (.int (1 : Int32)), .unset, .unset, .unset, .unset, .unset, .unset] [(.double (FP.ddiv (FP.i2d p0) (4616189618054758400 : UInt64)))])) _
          refine XS.dstore X0.here hx rfl (hb hby at_32) rfl (l' := #[.val (.int p0), .val (.int p1), .val (.int p2), .val (.int p3), .val (.int (0 : Int32)), .val (.int (1 : Int32)), .val (.double (FP.ddiv (FP.i2d p0) (4616189618054758400 : UInt64))), .second, .unset, .unset, .unset, .unset]) rfl ?_
          show Steps p.tables e below (s₁.setTop (mkF m 34 #[.val (.int p0), .val (.int p1), .val (.int p2), .val (.int p3), .val (.int (0 : Int32)), .val (.int (1 : Int32)), .val (.double (FP.ddiv (FP.i2d p0) (4616189618054758400 : UInt64))), .second, .unset, .unset, .unset, .unset] [])) _
          refine XS.iloadN X0.here hx rfl (hb hby at_34) rfl ?_
          show Steps p.tables e below (s₁.setTop (mkF m 35 #[.val (.int p0), .val (.int p1), .val (.int p2), .val (.int p3), .val (.int (0 : Int32)), .val (.int (1 : Int32)), .val (.double (FP.ddiv (FP.i2d p0) (4616189618054758400 : UInt64))), .second, .unset, .unset, .unset, .unset] [(.int p1)])) _
          refine XS.i2dS X0.here hx rfl (hb hby at_35) rfl rfl ?_
          show Steps p.tables e below (s₁.setTop (mkF m 36 #[.val (.int p0), .val (.int p1), .val (.int p2), .val (.int p3), .val (.int (0 : Int32)), .val (.int (1 : Int32)), .val (.double (FP.ddiv (FP.i2d p0) (4616189618054758400 : UInt64))), .second, .unset, .unset, .unset, .unset] [(.double (FP.i2d p1))])) _
          refine X0.ldc2DoubleC hx hown (mvT hZ (hw _ (List.mem_of_getElem? (i := 0) rfl))) (g := (mkF m 36 #[.val (.int p0), .val (.int p1), .val (.int p2), .val (.int p3), .val (.int (0 : Int32)), .val (.int (1 : Int32)), .val (.double (FP.ddiv (FP.i2d p0) (4616189618054758400 : UInt64))), .second, .unset, .unset, .unset, .unset] [(.double (FP.i2d p1))])) rfl (hb hby at_36) _ ?_
          show Steps p.tables e below (s₁.setTop (mkF m 39 #[.val (.int p0), .val (.int p1), .val (.int p2), .val (.int p3), .val (.int (0 : Int32)), .val (.int (1 : Int32)), .val (.double (FP.ddiv (FP.i2d p0) (4616189618054758400 : UInt64))), .second, .unset, .unset, .unset, .unset] [(.double (4616189618054758400 : UInt64)), (.double (FP.i2d p1))])) _
          refine XS.ddivS X0.here hx rfl (hb hby at_39) rfl (own_nn p1) rfl ?_
          show Steps p.tables e below (s₁.setTop (mkF m 40 #[.val (.int p0), .val (.int p1), .val (.int p2), .val (.int p3), .val (.int (0 : Int32)), .val (.int (1 : Int32)), .val (.double (FP.ddiv (FP.i2d p0) (4616189618054758400 : UInt64))), .second, .unset, .unset, .unset, .unset] [(.double (FP.ddiv (FP.i2d p1) (4616189618054758400 : UInt64)))])) _
          refine XS.dstore X0.here hx rfl (hb hby at_40) rfl (l' := #[.val (.int p0), .val (.int p1), .val (.int p2), .val (.int p3), .val (.int (0 : Int32)), .val (.int (1 : Int32)), .val (.double (FP.ddiv (FP.i2d p0) (4616189618054758400 : UInt64))), .second, .val (.double (FP.ddiv (FP.i2d p1) (4616189618054758400 : UInt64))), .second, .unset, .unset]) rfl ?_
          show Steps p.tables e below (s₁.setTop (mkF m 42 #[.val (.int p0), .val (.int p1), .val (.int p2), .val (.int p3), .val (.int (0 : Int32)), .val (.int (1 : Int32)), .val (.double (FP.ddiv (FP.i2d p0) (4616189618054758400 : UInt64))), .second, .val (.double (FP.ddiv (FP.i2d p1) (4616189618054758400 : UInt64))), .second, .unset, .unset] [])) _
          refine st12 _ ?_
          show Steps p.tables e below (T12.setTop (mkF m 45 #[.val (.int p0), .val (.int p1), .val (.int p2), .val (.int p3), .val (.int (0 : Int32)), .val (.int (1 : Int32)), .val (.double (FP.ddiv (FP.i2d p0) (4616189618054758400 : UInt64))), .second, .val (.double (FP.ddiv (FP.i2d p1) (4616189618054758400 : UInt64))), .second, .unset, .unset] [(.ref fa12)])) _
          refine XS.dup X12.here hx rfl (hb hby at_45) rfl rfl ?_
          show Steps p.tables e below (T12.setTop (mkF m 46 #[.val (.int p0), .val (.int p1), .val (.int p2), .val (.int p3), .val (.int (0 : Int32)), .val (.int (1 : Int32)), .val (.double (FP.ddiv (FP.i2d p0) (4616189618054758400 : UInt64))), .second, .val (.double (FP.ddiv (FP.i2d p1) (4616189618054758400 : UInt64))), .second, .unset, .unset] [(.ref fa12), (.ref fa12)])) _
          refine XS.aconstNull X12.here hx rfl (hb hby at_46) ?_
          show Steps p.tables e below (T12.setTop (mkF m 47 #[.val (.int p0), .val (.int p1), .val (.int p2), .val (.int p3), .val (.int (0 : Int32)), .val (.int (1 : Int32)), .val (.double (FP.ddiv (FP.i2d p0) (4616189618054758400 : UInt64))), .second, .val (.double (FP.ddiv (FP.i2d p1) (4616189618054758400 : UInt64))), .second, .unset, .unset] [.null, (.ref fa12), (.ref fa12)])) _
          refine XS.aconstNull X12.here hx rfl (hb hby at_47) ?_
          show Steps p.tables e below (T12.setTop (mkF m 48 #[.val (.int p0), .val (.int p1), .val (.int p2), .val (.int p3), .val (.int (0 : Int32)), .val (.int (1 : Int32)), .val (.double (FP.ddiv (FP.i2d p0) (4616189618054758400 : UInt64))), .second, .val (.double (FP.ddiv (FP.i2d p1) (4616189618054758400 : UInt64))), .second, .unset, .unset] [.null, .null, (.ref fa12), (.ref fa12)])) _
          refine XS.dload X12.here hx rfl (hb hby at_48) rfl ?_
          show Steps p.tables e below (T12.setTop (mkF m 50 #[.val (.int p0), .val (.int p1), .val (.int p2), .val (.int p3), .val (.int (0 : Int32)), .val (.int (1 : Int32)), .val (.double (FP.ddiv (FP.i2d p0) (4616189618054758400 : UInt64))), .second, .val (.double (FP.ddiv (FP.i2d p1) (4616189618054758400 : UInt64))), .second, .unset, .unset] [(.double (FP.ddiv (FP.i2d p0) (4616189618054758400 : UInt64))), .null, .null, (.ref fa12), (.ref fa12)])) _
          refine XS.dload X12.here hx rfl (hb hby at_50) rfl ?_
          show Steps p.tables e below (T12.setTop (mkF m 52 #[.val (.int p0), .val (.int p1), .val (.int p2), .val (.int p3), .val (.int (0 : Int32)), .val (.int (1 : Int32)), .val (.double (FP.ddiv (FP.i2d p0) (4616189618054758400 : UInt64))), .second, .val (.double (FP.ddiv (FP.i2d p1) (4616189618054758400 : UInt64))), .second, .unset, .unset] [(.double (FP.ddiv (FP.i2d p1) (4616189618054758400 : UInt64))), (.double (FP.ddiv (FP.i2d p0) (4616189618054758400 : UInt64))), .null, .null, (.ref fa12), (.ref fa12)])) _
          refine XS.iloadN X12.here hx rfl (hb hby at_52) rfl ?_
          show Steps p.tables e below (T12.setTop (mkF m 53 #[.val (.int p0), .val (.int p1), .val (.int p2), .val (.int p3), .val (.int (0 : Int32)), .val (.int (1 : Int32)), .val (.double (FP.ddiv (FP.i2d p0) (4616189618054758400 : UInt64))), .second, .val (.double (FP.ddiv (FP.i2d p1) (4616189618054758400 : UInt64))), .second, .unset, .unset] [(.int p2), (.double (FP.ddiv (FP.i2d p1) (4616189618054758400 : UInt64))), (.double (FP.ddiv (FP.i2d p0) (4616189618054758400 : UInt64))), .null, .null, (.ref fa12), (.ref fa12)])) _
          refine XS.iload X12.here hx rfl (hb hby at_53) rfl ?_
          show Steps p.tables e below (T12.setTop (mkF m 55 #[.val (.int p0), .val (.int p1), .val (.int p2), .val (.int p3), .val (.int (0 : Int32)), .val (.int (1 : Int32)), .val (.double (FP.ddiv (FP.i2d p0) (4616189618054758400 : UInt64))), .second, .val (.double (FP.ddiv (FP.i2d p1) (4616189618054758400 : UInt64))), .second, .unset, .unset] [(.int (0 : Int32)), (.int p2), (.double (FP.ddiv (FP.i2d p1) (4616189618054758400 : UInt64))), (.double (FP.ddiv (FP.i2d p0) (4616189618054758400 : UInt64))), .null, .null, (.ref fa12), (.ref fa12)])) _
          refine XS.iload X12.here hx rfl (hb hby at_55) rfl ?_
          show Steps p.tables e below (T12.setTop (mkF m 57 #[.val (.int p0), .val (.int p1), .val (.int p2), .val (.int p3), .val (.int (0 : Int32)), .val (.int (1 : Int32)), .val (.double (FP.ddiv (FP.i2d p0) (4616189618054758400 : UInt64))), .second, .val (.double (FP.ddiv (FP.i2d p1) (4616189618054758400 : UInt64))), .second, .unset, .unset] [(.int (1 : Int32)), (.int (0 : Int32)), (.int p2), (.double (FP.ddiv (FP.i2d p1) (4616189618054758400 : UInt64))), (.double (FP.ddiv (FP.i2d p0) (4616189618054758400 : UInt64))), .null, .null, (.ref fa12), (.ref fa12)])) _
          refine st13.trans ?_
          show Steps p.tables e below (T13.setTop (mkF m 60 #[.val (.int p0), .val (.int p1), .val (.int p2), .val (.int p3), .val (.int (0 : Int32)), .val (.int (1 : Int32)), .val (.double (FP.ddiv (FP.i2d p0) (4616189618054758400 : UInt64))), .second, .val (.double (FP.ddiv (FP.i2d p1) (4616189618054758400 : UInt64))), .second, .unset, .unset] [(.ref fa12)])) _
          refine XS.astore X13.here hx rfl (hb hby at_60) rfl rfl (l' := #[.val (.int p0), .val (.int p1), .val (.int p2), .val (.int p3), .val (.int (0 : Int32)), .val (.int (1 : Int32)), .val (.double (FP.ddiv (FP.i2d p0) (4616189618054758400 : UInt64))), .second, .val (.double (FP.ddiv (FP.i2d p1) (4616189618054758400 : UInt64))), .second, .val (.ref fa12), .unset]) rfl ?_
          show Steps p.tables e below (T13.setTop (mkF m 62 #[.val (.int p0), .val (.int p1), .val (.int p2), .val (.int p3), .val (.int (0 : Int32)), .val (.int (1 : Int32)), .val (.double (FP.ddiv (FP.i2d p0) (4616189618054758400 : UInt64))), .second, .val (.double (FP.ddiv (FP.i2d p1) (4616189618054758400 : UInt64))), .second, .val (.ref fa12), .unset] [])) _
          refine XS.iloadN X13.here hx rfl (hb hby at_62) rfl ?_
          show Steps p.tables e below (T13.setTop (mkF m 63 #[.val (.int p0), .val (.int p1), .val (.int p2), .val (.int p3), .val (.int (0 : Int32)), .val (.int (1 : Int32)), .val (.double (FP.ddiv (FP.i2d p0) (4616189618054758400 : UInt64))), .second, .val (.double (FP.ddiv (FP.i2d p1) (4616189618054758400 : UInt64))), .second, .val (.ref fa12), .unset] [(.int p0)])) _
          refine XS.ifYes X13.here hx rfl (pc0 := 63) (pc' := 72) rfl (hb hby at_63) rfl ((if0 _ _).trans (tlt hc14).2.2.1) (by decide) (by decide) ?_
          show Steps p.tables e below (T13.setTop (mkF m 72 #[.val (.int p0), .val (.int p1), .val (.int p2), .val (.int p3), .val (.int (0 : Int32)), .val (.int (1 : Int32)), .val (.double (FP.ddiv (FP.i2d p0) (4616189618054758400 : UInt64))), .second, .val (.double (FP.ddiv (FP.i2d p1) (4616189618054758400 : UInt64))), .second, .val (.ref fa12), .unset] [])) _
          refine XS.iload X13.here hx rfl (hb hby at_72) rfl ?_
          show Steps p.tables e below (T13.setTop (mkF m 74 #[.val (.int p0), .val (.int p1), .val (.int p2), .val (.int p3), .val (.int (0 : Int32)), .val (.int (1 : Int32)), .val (.double (FP.ddiv (FP.i2d p0) (4616189618054758400 : UInt64))), .second, .val (.double (FP.ddiv (FP.i2d p1) (4616189618054758400 : UInt64))), .second, .val (.ref fa12), .unset] [(.int (0 : Int32))])) _
          refine XS.ifYes X13.here hx rfl (pc0 := 74) (pc' := 83) rfl (hb hby at_74) rfl ((if0 _ _).trans (teq (by decide : (0 : Int32) = (0 : Int32))).1) (by decide) (by decide) ?_
          show Steps p.tables e below (T13.setTop (mkF m 83 #[.val (.int p0), .val (.int p1), .val (.int p2), .val (.int p3), .val (.int (0 : Int32)), .val (.int (1 : Int32)), .val (.double (FP.ddiv (FP.i2d p0) (4616189618054758400 : UInt64))), .second, .val (.double (FP.ddiv (FP.i2d p1) (4616189618054758400 : UInt64))), .second, .val (.ref fa12), .unset] [])) _
          refine XS.iload X13.here hx rfl (hb hby at_83) rfl ?_
          show Steps p.tables e below (T13.setTop (mkF m 85 #[.val (.int p0), .val (.int p1), .val (.int p2), .val (.int p3), .val (.int (0 : Int32)), .val (.int (1 : Int32)), .val (.double (FP.ddiv (FP.i2d p0) (4616189618054758400 : UInt64))), .second, .val (.double (FP.ddiv (FP.i2d p1) (4616189618054758400 : UInt64))), .second, .val (.ref fa12), .unset] [(.int (1 : Int32))])) _
          refine XS.ifNo X13.here hx rfl (hb hby at_85) rfl ((if0 _ _).trans (feq (by decide : ¬ ((1 : Int32) = (0 : Int32)))).1) ?_
          show Steps p.tables e below (T13.setTop (mkF m 88 #[.val (.int p0), .val (.int p1), .val (.int p2), .val (.int p3), .val (.int (0 : Int32)), .val (.int (1 : Int32)), .val (.double (FP.ddiv (FP.i2d p0) (4616189618054758400 : UInt64))), .second, .val (.double (FP.ddiv (FP.i2d p1) (4616189618054758400 : UInt64))), .second, .val (.ref fa12), .unset] [])) _
          refine XS.iconst X13.here hx rfl (hb hby at_88) ?_
          show Steps p.tables e below (T13.setTop (mkF m 89 #[.val (.int p0), .val (.int p1), .val (.int p2), .val (.int p3), .val (.int (0 : Int32)), .val (.int (1 : Int32)), .val (.double (FP.ddiv (FP.i2d p0) (4616189618054758400 : UInt64))), .second, .val (.double (FP.ddiv (FP.i2d p1) (4616189618054758400 : UInt64))), .second, .val (.ref fa12), .unset] [(.int (0 : Int32))])) _
          refine XS.istore X13.here hx rfl (hb hby at_89) rfl (l' := #[.val (.int p0), .val (.int p1), .val (.int p2), .val (.int p3), .val (.int (0 : Int32)), .val (.int (1 : Int32)), .val (.double (FP.ddiv (FP.i2d p0) (4616189618054758400 : UInt64))), .second, .val (.double (FP.ddiv (FP.i2d p1) (4616189618054758400 : UInt64))), .second, .val (.ref fa12), .val (.int (0 : Int32))]) rfl ?_
          show Steps p.tables e below (T13.setTop (mkF m 91 #[.val (.int p0), .val (.int p1), .val (.int p2), .val (.int p3), .val (.int (0 : Int32)), .val (.int (1 : Int32)), .val (.double (FP.ddiv (FP.i2d p0) (4616189618054758400 : UInt64))), .second, .val (.double (FP.ddiv (FP.i2d p1) (4616189618054758400 : UInt64))), .second, .val (.ref fa12), .val (.int (0 : Int32))] [])) _
          refine XS.goto X13.here hx rfl (pc0 := 91) (pc' := 115) rfl (hb hby at_91) (by decide) (by decide) ?_
          show Steps p.tables e below (T13.setTop (mkF m 115 #[.val (.int p0), .val (.int p1), .val (.int p2), .val (.int p3), .val (.int (0 : Int32)), .val (.int (1 : Int32)), .val (.double (FP.ddiv (FP.i2d p0) (4616189618054758400 : UInt64))), .second, .val (.double (FP.ddiv (FP.i2d p1) (4616189618054758400 : UInt64))), .second, .val (.ref fa12), .val (.int (0 : Int32))] [])) _
          refine XS.aload X13.here hx rfl (hb hby at_115) rfl rfl ?_
          show Steps p.tables e below (T13.setTop (mkF m 117 #[.val (.int p0), .val (.int p1), .val (.int p2), .val (.int p3), .val (.int (0 : Int32)), .val (.int (1 : Int32)), .val (.double (FP.ddiv (FP.i2d p0) (4616189618054758400 : UInt64))), .second, .val (.double (FP.ddiv (FP.i2d p1) (4616189618054758400 : UInt64))), .second, .val (.ref fa12), .val (.int (0 : Int32))] [(.ref fa12)])) _
          refine st15.trans ?_
          show Steps p.tables e below (T15.setTop (mkF m 120 #[.val (.int p0), .val (.int p1), .val (.int p2), .val (.int p3), .val (.int (0 : Int32)), .val (.int (1 : Int32)), .val (.double (FP.ddiv (FP.i2d p0) (4616189618054758400 : UInt64))), .second, .val (.double (FP.ddiv (FP.i2d p1) (4616189618054758400 : UInt64))), .second, .val (.ref fa12), .val (.int (0 : Int32))] [(.int (own_need (FP.ddiv (FP.i2d p0) (4616189618054758400 : UInt64)) (FP.ddiv (FP.i2d p1) (4616189618054758400 : UInt64)) p2 (nar .boolean (0 : Int32)) (nar .boolean (1 : Int32))))])) _
          refine XS.iload X15.here hx rfl (hb hby at_120) rfl ?_
          show Steps p.tables e below (T15.setTop (mkF m 122 #[.val (.int p0), .val (.int p1), .val (.int p2), .val (.int p3), .val (.int (0 : Int32)), .val (.int (1 : Int32)), .val (.double (FP.ddiv (FP.i2d p0) (4616189618054758400 : UInt64))), .second, .val (.double (FP.ddiv (FP.i2d p1) (4616189618054758400 : UInt64))), .second, .val (.ref fa12), .val (.int (0 : Int32))] [(.int (0 : Int32)), (.int (own_need (FP.ddiv (FP.i2d p0) (4616189618054758400 : UInt64)) (FP.ddiv (FP.i2d p1) (4616189618054758400 : UInt64)) p2 (nar .boolean (0 : Int32)) (nar .boolean (1 : Int32))))])) _
          refine XS.icmpNo X15.here hx rfl (hb hby at_122) rfl (teq (by simp [own_need, own_pos, own_nar0, own_nar1, hc1, hc2, hc14] : (own_need (FP.ddiv (FP.i2d p0) (4616189618054758400 : UInt64)) (FP.ddiv (FP.i2d p1) (4616189618054758400 : UInt64)) p2 (nar .boolean (0 : Int32)) (nar .boolean (1 : Int32))) = (0 : Int32))).2 ?_
          show Steps p.tables e below (T15.setTop (mkF m 125 #[.val (.int p0), .val (.int p1), .val (.int p2), .val (.int p3), .val (.int (0 : Int32)), .val (.int (1 : Int32)), .val (.double (FP.ddiv (FP.i2d p0) (4616189618054758400 : UInt64))), .second, .val (.double (FP.ddiv (FP.i2d p1) (4616189618054758400 : UInt64))), .second, .val (.ref fa12), .val (.int (0 : Int32))] [])) _
          refine XS.iconst X15.here hx rfl (hb hby at_125) ?_
          show Steps p.tables e below (T15.setTop (mkF m 126 #[.val (.int p0), .val (.int p1), .val (.int p2), .val (.int p3), .val (.int (0 : Int32)), .val (.int (1 : Int32)), .val (.double (FP.ddiv (FP.i2d p0) (4616189618054758400 : UInt64))), .second, .val (.double (FP.ddiv (FP.i2d p1) (4616189618054758400 : UInt64))), .second, .val (.ref fa12), .val (.int (0 : Int32))] [(.int (1 : Int32))])) _
          refine XS.goto X15.here hx rfl (pc0 := 126) (pc' := 130) rfl (hb hby at_126) (by decide) (by decide) ?_
          show Steps p.tables e below (T15.setTop (mkF m 130 #[.val (.int p0), .val (.int p1), .val (.int p2), .val (.int p3), .val (.int (0 : Int32)), .val (.int (1 : Int32)), .val (.double (FP.ddiv (FP.i2d p0) (4616189618054758400 : UInt64))), .second, .val (.double (FP.ddiv (FP.i2d p1) (4616189618054758400 : UInt64))), .second, .val (.ref fa12), .val (.int (0 : Int32))] [(.int (1 : Int32))])) _
          exact retN X15 hx (t := .boolean) Bd.returns (by simp) (hb hby at_130) hr
        · show Q_rm0 Z p0 p1 p2 p3 h0 n0 _ T15.heap _
          rw [e15]
          exact ⟨rfl, N15, KK13⟩
      · obtain ⟨cq16, kq16, q16a, q16b, q16c⟩ := isOf hZ rfl Q13_0
        obtain ⟨_, _, ⟨T16, L16, k16, n16⟩, -, X16, ⟨Lc16, hQ16, l16, y16, z16⟩, st16⟩ := X13.virtualBack hx (y := (⟨"com/example/musterpoint/musterpoint/world/CivilianSighting", "needsHelp", "()Z"⟩ : MethodName)) (z := (⟨"com/example/musterpoint/musterpoint/world/CivilianSighting", "needsHelp", "()Z"⟩ : MethodName)) hown (mvT hZ (hw _ (List.mem_of_getElem? (i := 29) rfl))) (mvT hZ (hw _ (List.mem_of_getElem? (i := 30) rfl))) (notFace_of_selects (args := #[]) (mvT hZ (hw _ (List.mem_of_getElem? (i := 32) rfl)))) (mvT hZ (hw _ (List.mem_of_getElem? (i := 32) rfl))) (mvT hZ (hw _ (List.mem_of_getElem? (i := 31) rfl))) (by decide) (backOf (W := 0) (rm4 l Z a0 hw [] fa12 (FP.ddiv (FP.i2d p0) (4616189618054758400 : UInt64)) (FP.ddiv (FP.i2d p1) (4616189618054758400 : UInt64)) p2 (nar .boolean (0 : Int32)) (nar .boolean (1 : Int32)) T13.heap n0 O13 Q13_1 Q13_2 Q13_3 Q13_4 Q13_5) hZ (hw _ (List.mem_of_getElem? (i := 33) rfl)) (hw _ (List.mem_of_getElem? (i := 3) rfl)) (by decide) (by decide)) q16a q16c (g := (mkF m 117 #[.val (.int p0), .val (.int p1), .val (.int p2), .val (.int p3), .val (.int (0 : Int32)), .val (.int (1 : Int32)), .val (.double (FP.ddiv (FP.i2d p0) (4616189618054758400 : UInt64))), .second, .val (.double (FP.ddiv (FP.i2d p1) (4616189618054758400 : UInt64))), .second, .val (.ref fa12), .val (.int (0 : Int32))] [(.ref fa12)])) rfl (by rw [hml]; rfl) (Steps.refl _) (argsL := []) (rest := []) (lenOf pd_2 rfl) rfl (by show 2 * 0 + _ ≤ _; exact Nat.le_of_eq rfl) (hb hby at_117) (fun _ _ => ⟨rfl, rfl, (by decide : 1 + 0 ≤ _), (by decide : 7 + 0 ≤ _)⟩)
        dsimp only [Pt.U, Pt.locs, Pt.cells, Pt.slots] at X16 l16 y16 z16 st16 hQ16
        subst l16 y16 z16
        obtain ⟨rfl, N16q, e16⟩ := hQ16
        have N16 := Fr.app N13 N16q
        obtain ⟨fs, hr, hrun, hended, hW, hsame⟩ := X16.leave (v := some (.int (1 : Int32))) (fun h => by rw [Bd.returns] at h; cases h)
        refine ⟨_, _, pre0 _ ?_, hrun, hended, _, _, rfl, ?_, ⟨_, rfl⟩, hW, hsame.mono (by decide) (by decide)⟩
        · show Steps p.tables e below (s₁.setTop (mkF m 0 #[.val (.int p0), .val (.int p1), .val (.int p2), .val (.int p3), .unset, .unset, .unset, .unset, .unset, .unset, .unset, .unset] [])) _
          refine XS.iloadN X0.here hx rfl (hb hby at_0) rfl ?_
          show Steps p.tables e below (s₁.setTop (mkF m 1 #[.val (.int p0), .val (.int p1), .val (.int p2), .val (.int p3), .unset, .unset, .unset, .unset, .unset, .unset, .unset, .unset] [(.int p3)])) _
          refine XS.iconst X0.here hx rfl (hb hby at_1) ?_
          show Steps p.tables e below (s₁.setTop (mkF m 2 #[.val (.int p0), .val (.int p1), .val (.int p2), .val (.int p3), .unset, .unset, .unset, .unset, .unset, .unset, .unset, .unset] [(.int (1 : Int32)), (.int p3)])) _
          refine XS.iand X0.here hx rfl (hb hby at_2) rfl ?_
          show Steps p.tables e below (s₁.setTop (mkF m 3 #[.val (.int p0), .val (.int p1), .val (.int p2), .val (.int p3), .unset, .unset, .unset, .unset, .unset, .unset, .unset, .unset] [(.int (p3 &&& (1 : Int32)))])) _
          refine XS.ifYes X0.here hx rfl (pc0 := 3) (pc' := 10) rfl (hb hby at_3) rfl ((if0 _ _).trans (teq hc1).1) (by decide) (by decide) ?_
          show Steps p.tables e below (s₁.setTop (mkF m 10 #[.val (.int p0), .val (.int p1), .val (.int p2), .val (.int p3), .unset, .unset, .unset, .unset, .unset, .unset, .unset, .unset] [])) _
          refine XS.iconst X0.here hx rfl (hb hby at_10) ?_
          show Steps p.tables e below (s₁.setTop (mkF m 11 #[.val (.int p0), .val (.int p1), .val (.int p2), .val (.int p3), .unset, .unset, .unset, .unset, .unset, .unset, .unset, .unset] [(.int (0 : Int32))])) _
          refine XS.istore X0.here hx rfl (hb hby at_11) rfl (l' := #[.val (.int p0), .val (.int p1), .val (.int p2), .val (.int p3), .val (.int (0 : Int32)), .unset, .unset, .unset, .unset, .unset, .unset, .unset]) rfl ?_
          show Steps p.tables e below (s₁.setTop (mkF m 13 #[.val (.int p0), .val (.int p1), .val (.int p2), .val (.int p3), .val (.int (0 : Int32)), .unset, .unset, .unset, .unset, .unset, .unset, .unset] [])) _
          refine XS.iloadN X0.here hx rfl (hb hby at_13) rfl ?_
          show Steps p.tables e below (s₁.setTop (mkF m 14 #[.val (.int p0), .val (.int p1), .val (.int p2), .val (.int p3), .val (.int (0 : Int32)), .unset, .unset, .unset, .unset, .unset, .unset, .unset] [(.int p3)])) _
          refine XS.iconst X0.here hx rfl (hb hby at_14) ?_
          show Steps p.tables e below (s₁.setTop (mkF m 15 #[.val (.int p0), .val (.int p1), .val (.int p2), .val (.int p3), .val (.int (0 : Int32)), .unset, .unset, .unset, .unset, .unset, .unset, .unset] [(.int (2 : Int32)), (.int p3)])) _
          refine XS.iand X0.here hx rfl (hb hby at_15) rfl ?_
          show Steps p.tables e below (s₁.setTop (mkF m 16 #[.val (.int p0), .val (.int p1), .val (.int p2), .val (.int p3), .val (.int (0 : Int32)), .unset, .unset, .unset, .unset, .unset, .unset, .unset] [(.int (p3 &&& (2 : Int32)))])) _
          refine XS.ifNo X0.here hx rfl (hb hby at_16) rfl ((if0 _ _).trans (feq hc2).1) ?_
          show Steps p.tables e below (s₁.setTop (mkF m 19 #[.val (.int p0), .val (.int p1), .val (.int p2), .val (.int p3), .val (.int (0 : Int32)), .unset, .unset, .unset, .unset, .unset, .unset, .unset] [])) _
          refine XS.iconst X0.here hx rfl (hb hby at_19) ?_
          show Steps p.tables e below (s₁.setTop (mkF m 20 #[.val (.int p0), .val (.int p1), .val (.int p2), .val (.int p3), .val (.int (0 : Int32)), .unset, .unset, .unset, .unset, .unset, .unset, .unset] [(.int (1 : Int32))])) _
          refine XS.goto X0.here hx rfl (pc0 := 20) (pc' := 24) rfl (hb hby at_20) (by decide) (by decide) ?_
          show Steps p.tables e below (s₁.setTop (mkF m 24 #[.val (.int p0), .val (.int p1), .val (.int p2), .val (.int p3), .val (.int (0 : Int32)), .unset, .unset, .unset, .unset, .unset, .unset, .unset] [(.int (1 : Int32))])) _
          refine XS.istore X0.here hx rfl (hb hby at_24) rfl (l' := #[.val (.int p0), .val (.int p1), .val (.int p2), .val (.int p3), .val (.int (0 : Int32)), .val (.int (1 : Int32)), .unset, .unset, .unset, .unset, .unset, .unset]) rfl ?_
          show Steps p.tables e below (s₁.setTop (mkF m 26 #[.val (.int p0), .val (.int p1), .val (.int p2), .val (.int p3), .val (.int (0 : Int32)), .val (.int (1 : Int32)), .unset, .unset, .unset, .unset, .unset, .unset] [])) _
          refine XS.iloadN X0.here hx rfl (hb hby at_26) rfl ?_
          show Steps p.tables e below (s₁.setTop (mkF m 27 #[.val (.int p0), .val (.int p1), .val (.int p2), .val (.int p3), .val (.int (0 : Int32)), .val (.int (1 : Int32)), .unset, .unset, .unset, .unset, .unset, .unset] [(.int p0)])) _
          refine XS.i2dS X0.here hx rfl (hb hby at_27) rfl rfl ?_
          show Steps p.tables e below (s₁.setTop (mkF m 28 #[.val (.int p0), .val (.int p1), .val (.int p2), .val (.int p3), .val (.int (0 : Int32)), .val (.int (1 : Int32)), .unset, .unset, .unset, .unset, .unset, .unset] [(.double (FP.i2d p0))])) _
          refine X0.ldc2DoubleC hx hown (mvT hZ (hw _ (List.mem_of_getElem? (i := 0) rfl))) (g := (mkF m 28 #[.val (.int p0), .val (.int p1), .val (.int p2), .val (.int p3), .val (.int (0 : Int32)), .val (.int (1 : Int32)), .unset, .unset, .unset, .unset, .unset, .unset] [(.double (FP.i2d p0))])) rfl (hb hby at_28) _ ?_
          show Steps p.tables e below (s₁.setTop (mkF m 31 #[.val (.int p0), .val (.int p1), .val (.int p2), .val (.int p3), .val (.int (0 : Int32)), .val (.int (1 : Int32)), .unset, .unset, .unset, .unset, .unset, .unset] [(.double (4616189618054758400 : UInt64)), (.double (FP.i2d p0))])) _
          refine XS.ddivS X0.here hx rfl (hb hby at_31) rfl (own_nn p0) rfl ?_
          show Steps p.tables e below (s₁.setTop (mkF m 32 #[.val (.int p0), .val (.int p1), .val (.int p2), .val (.int p3), .val (.int (0 : Int32)), .val (.int (1 : Int32)), .unset, .unset, .unset, .unset, .unset, .unset] [(.double (FP.ddiv (FP.i2d p0) (4616189618054758400 : UInt64)))])) _
          refine XS.dstore X0.here hx rfl (hb hby at_32) rfl (l' := #[.val (.int p0), .val (.int p1), .val (.int p2), .val (.int p3), .val (.int (0 : Int32)), .val (.int (1 : Int32)), .val (.double (FP.ddiv (FP.i2d p0) (4616189618054758400 : UInt64))), .second, .unset, .unset, .unset, .unset]) rfl ?_
          show Steps p.tables e below (s₁.setTop (mkF m 34 #[.val (.int p0), .val (.int p1), .val (.int p2), .val (.int p3), .val (.int (0 : Int32)), .val (.int (1 : Int32)), .val (.double (FP.ddiv (FP.i2d p0) (4616189618054758400 : UInt64))), .second, .unset, .unset, .unset, .unset] [])) _
          refine XS.iloadN X0.here hx rfl (hb hby at_34) rfl ?_
          show Steps p.tables e below (s₁.setTop (mkF m 35 #[.val (.int p0), .val (.int p1), .val (.int p2), .val (.int p3), .val (.int (0 : Int32)), .val (.int (1 : Int32)), .val (.double (FP.ddiv (FP.i2d p0) (4616189618054758400 : UInt64))), .second, .unset, .unset, .unset, .unset] [(.int p1)])) _
          refine XS.i2dS X0.here hx rfl (hb hby at_35) rfl rfl ?_
          show Steps p.tables e below (s₁.setTop (mkF m 36 #[.val (.int p0), .val (.int p1), .val (.int p2), .val (.int p3), .val (.int (0 : Int32)), .val (.int (1 : Int32)), .val (.double (FP.ddiv (FP.i2d p0) (4616189618054758400 : UInt64))), .second, .unset, .unset, .unset, .unset] [(.double (FP.i2d p1))])) _
          refine X0.ldc2DoubleC hx hown (mvT hZ (hw _ (List.mem_of_getElem? (i := 0) rfl))) (g := (mkF m 36 #[.val (.int p0), .val (.int p1), .val (.int p2), .val (.int p3), .val (.int (0 : Int32)), .val (.int (1 : Int32)), .val (.double (FP.ddiv (FP.i2d p0) (4616189618054758400 : UInt64))), .second, .unset, .unset, .unset, .unset] [(.double (FP.i2d p1))])) rfl (hb hby at_36) _ ?_
          show Steps p.tables e below (s₁.setTop (mkF m 39 #[.val (.int p0), .val (.int p1), .val (.int p2), .val (.int p3), .val (.int (0 : Int32)), .val (.int (1 : Int32)), .val (.double (FP.ddiv (FP.i2d p0) (4616189618054758400 : UInt64))), .second, .unset, .unset, .unset, .unset] [(.double (4616189618054758400 : UInt64)), (.double (FP.i2d p1))])) _
          refine XS.ddivS X0.here hx rfl (hb hby at_39) rfl (own_nn p1) rfl ?_
          show Steps p.tables e below (s₁.setTop (mkF m 40 #[.val (.int p0), .val (.int p1), .val (.int p2), .val (.int p3), .val (.int (0 : Int32)), .val (.int (1 : Int32)), .val (.double (FP.ddiv (FP.i2d p0) (4616189618054758400 : UInt64))), .second, .unset, .unset, .unset, .unset] [(.double (FP.ddiv (FP.i2d p1) (4616189618054758400 : UInt64)))])) _
          refine XS.dstore X0.here hx rfl (hb hby at_40) rfl (l' := #[.val (.int p0), .val (.int p1), .val (.int p2), .val (.int p3), .val (.int (0 : Int32)), .val (.int (1 : Int32)), .val (.double (FP.ddiv (FP.i2d p0) (4616189618054758400 : UInt64))), .second, .val (.double (FP.ddiv (FP.i2d p1) (4616189618054758400 : UInt64))), .second, .unset, .unset]) rfl ?_
          show Steps p.tables e below (s₁.setTop (mkF m 42 #[.val (.int p0), .val (.int p1), .val (.int p2), .val (.int p3), .val (.int (0 : Int32)), .val (.int (1 : Int32)), .val (.double (FP.ddiv (FP.i2d p0) (4616189618054758400 : UInt64))), .second, .val (.double (FP.ddiv (FP.i2d p1) (4616189618054758400 : UInt64))), .second, .unset, .unset] [])) _
          refine st12 _ ?_
          show Steps p.tables e below (T12.setTop (mkF m 45 #[.val (.int p0), .val (.int p1), .val (.int p2), .val (.int p3), .val (.int (0 : Int32)), .val (.int (1 : Int32)), .val (.double (FP.ddiv (FP.i2d p0) (4616189618054758400 : UInt64))), .second, .val (.double (FP.ddiv (FP.i2d p1) (4616189618054758400 : UInt64))), .second, .unset, .unset] [(.ref fa12)])) _
          refine XS.dup X12.here hx rfl (hb hby at_45) rfl rfl ?_
          show Steps p.tables e below (T12.setTop (mkF m 46 #[.val (.int p0), .val (.int p1), .val (.int p2), .val (.int p3), .val (.int (0 : Int32)), .val (.int (1 : Int32)), .val (.double (FP.ddiv (FP.i2d p0) (4616189618054758400 : UInt64))), .second, .val (.double (FP.ddiv (FP.i2d p1) (4616189618054758400 : UInt64))), .second, .unset, .unset] [(.ref fa12), (.ref fa12)])) _
          refine XS.aconstNull X12.here hx rfl (hb hby at_46) ?_
          show Steps p.tables e below (T12.setTop (mkF m 47 #[.val (.int p0), .val (.int p1), .val (.int p2), .val (.int p3), .val (.int (0 : Int32)), .val (.int (1 : Int32)), .val (.double (FP.ddiv (FP.i2d p0) (4616189618054758400 : UInt64))), .second, .val (.double (FP.ddiv (FP.i2d p1) (4616189618054758400 : UInt64))), .second, .unset, .unset] [.null, (.ref fa12), (.ref fa12)])) _
          refine XS.aconstNull X12.here hx rfl (hb hby at_47) ?_
          show Steps p.tables e below (T12.setTop (mkF m 48 #[.val (.int p0), .val (.int p1), .val (.int p2), .val (.int p3), .val (.int (0 : Int32)), .val (.int (1 : Int32)), .val (.double (FP.ddiv (FP.i2d p0) (4616189618054758400 : UInt64))), .second, .val (.double (FP.ddiv (FP.i2d p1) (4616189618054758400 : UInt64))), .second, .unset, .unset] [.null, .null, (.ref fa12), (.ref fa12)])) _
          refine XS.dload X12.here hx rfl (hb hby at_48) rfl ?_
          show Steps p.tables e below (T12.setTop (mkF m 50 #[.val (.int p0), .val (.int p1), .val (.int p2), .val (.int p3), .val (.int (0 : Int32)), .val (.int (1 : Int32)), .val (.double (FP.ddiv (FP.i2d p0) (4616189618054758400 : UInt64))), .second, .val (.double (FP.ddiv (FP.i2d p1) (4616189618054758400 : UInt64))), .second, .unset, .unset] [(.double (FP.ddiv (FP.i2d p0) (4616189618054758400 : UInt64))), .null, .null, (.ref fa12), (.ref fa12)])) _
          refine XS.dload X12.here hx rfl (hb hby at_50) rfl ?_
          show Steps p.tables e below (T12.setTop (mkF m 52 #[.val (.int p0), .val (.int p1), .val (.int p2), .val (.int p3), .val (.int (0 : Int32)), .val (.int (1 : Int32)), .val (.double (FP.ddiv (FP.i2d p0) (4616189618054758400 : UInt64))), .second, .val (.double (FP.ddiv (FP.i2d p1) (4616189618054758400 : UInt64))), .second, .unset, .unset] [(.double (FP.ddiv (FP.i2d p1) (4616189618054758400 : UInt64))), (.double (FP.ddiv (FP.i2d p0) (4616189618054758400 : UInt64))), .null, .null, (.ref fa12), (.ref fa12)])) _
          refine XS.iloadN X12.here hx rfl (hb hby at_52) rfl ?_
          show Steps p.tables e below (T12.setTop (mkF m 53 #[.val (.int p0), .val (.int p1), .val (.int p2), .val (.int p3), .val (.int (0 : Int32)), .val (.int (1 : Int32)), .val (.double (FP.ddiv (FP.i2d p0) (4616189618054758400 : UInt64))), .second, .val (.double (FP.ddiv (FP.i2d p1) (4616189618054758400 : UInt64))), .second, .unset, .unset] [(.int p2), (.double (FP.ddiv (FP.i2d p1) (4616189618054758400 : UInt64))), (.double (FP.ddiv (FP.i2d p0) (4616189618054758400 : UInt64))), .null, .null, (.ref fa12), (.ref fa12)])) _
          refine XS.iload X12.here hx rfl (hb hby at_53) rfl ?_
          show Steps p.tables e below (T12.setTop (mkF m 55 #[.val (.int p0), .val (.int p1), .val (.int p2), .val (.int p3), .val (.int (0 : Int32)), .val (.int (1 : Int32)), .val (.double (FP.ddiv (FP.i2d p0) (4616189618054758400 : UInt64))), .second, .val (.double (FP.ddiv (FP.i2d p1) (4616189618054758400 : UInt64))), .second, .unset, .unset] [(.int (0 : Int32)), (.int p2), (.double (FP.ddiv (FP.i2d p1) (4616189618054758400 : UInt64))), (.double (FP.ddiv (FP.i2d p0) (4616189618054758400 : UInt64))), .null, .null, (.ref fa12), (.ref fa12)])) _
          refine XS.iload X12.here hx rfl (hb hby at_55) rfl ?_
          show Steps p.tables e below (T12.setTop (mkF m 57 #[.val (.int p0), .val (.int p1), .val (.int p2), .val (.int p3), .val (.int (0 : Int32)), .val (.int (1 : Int32)), .val (.double (FP.ddiv (FP.i2d p0) (4616189618054758400 : UInt64))), .second, .val (.double (FP.ddiv (FP.i2d p1) (4616189618054758400 : UInt64))), .second, .unset, .unset] [(.int (1 : Int32)), (.int (0 : Int32)), (.int p2), (.double (FP.ddiv (FP.i2d p1) (4616189618054758400 : UInt64))), (.double (FP.ddiv (FP.i2d p0) (4616189618054758400 : UInt64))), .null, .null, (.ref fa12), (.ref fa12)])) _
          refine st13.trans ?_
          show Steps p.tables e below (T13.setTop (mkF m 60 #[.val (.int p0), .val (.int p1), .val (.int p2), .val (.int p3), .val (.int (0 : Int32)), .val (.int (1 : Int32)), .val (.double (FP.ddiv (FP.i2d p0) (4616189618054758400 : UInt64))), .second, .val (.double (FP.ddiv (FP.i2d p1) (4616189618054758400 : UInt64))), .second, .unset, .unset] [(.ref fa12)])) _
          refine XS.astore X13.here hx rfl (hb hby at_60) rfl rfl (l' := #[.val (.int p0), .val (.int p1), .val (.int p2), .val (.int p3), .val (.int (0 : Int32)), .val (.int (1 : Int32)), .val (.double (FP.ddiv (FP.i2d p0) (4616189618054758400 : UInt64))), .second, .val (.double (FP.ddiv (FP.i2d p1) (4616189618054758400 : UInt64))), .second, .val (.ref fa12), .unset]) rfl ?_
          show Steps p.tables e below (T13.setTop (mkF m 62 #[.val (.int p0), .val (.int p1), .val (.int p2), .val (.int p3), .val (.int (0 : Int32)), .val (.int (1 : Int32)), .val (.double (FP.ddiv (FP.i2d p0) (4616189618054758400 : UInt64))), .second, .val (.double (FP.ddiv (FP.i2d p1) (4616189618054758400 : UInt64))), .second, .val (.ref fa12), .unset] [])) _
          refine XS.iloadN X13.here hx rfl (hb hby at_62) rfl ?_
          show Steps p.tables e below (T13.setTop (mkF m 63 #[.val (.int p0), .val (.int p1), .val (.int p2), .val (.int p3), .val (.int (0 : Int32)), .val (.int (1 : Int32)), .val (.double (FP.ddiv (FP.i2d p0) (4616189618054758400 : UInt64))), .second, .val (.double (FP.ddiv (FP.i2d p1) (4616189618054758400 : UInt64))), .second, .val (.ref fa12), .unset] [(.int p0)])) _
          refine XS.ifNo X13.here hx rfl (hb hby at_63) rfl ((if0 _ _).trans (flt hc14).2.2.1) ?_
          show Steps p.tables e below (T13.setTop (mkF m 66 #[.val (.int p0), .val (.int p1), .val (.int p2), .val (.int p3), .val (.int (0 : Int32)), .val (.int (1 : Int32)), .val (.double (FP.ddiv (FP.i2d p0) (4616189618054758400 : UInt64))), .second, .val (.double (FP.ddiv (FP.i2d p1) (4616189618054758400 : UInt64))), .second, .val (.ref fa12), .unset] [])) _
          refine XS.iconst X13.here hx rfl (hb hby at_66) ?_
          show Steps p.tables e below (T13.setTop (mkF m 67 #[.val (.int p0), .val (.int p1), .val (.int p2), .val (.int p3), .val (.int (0 : Int32)), .val (.int (1 : Int32)), .val (.double (FP.ddiv (FP.i2d p0) (4616189618054758400 : UInt64))), .second, .val (.double (FP.ddiv (FP.i2d p1) (4616189618054758400 : UInt64))), .second, .val (.ref fa12), .unset] [(.int (0 : Int32))])) _
          refine XS.istore X13.here hx rfl (hb hby at_67) rfl (l' := #[.val (.int p0), .val (.int p1), .val (.int p2), .val (.int p3), .val (.int (0 : Int32)), .val (.int (1 : Int32)), .val (.double (FP.ddiv (FP.i2d p0) (4616189618054758400 : UInt64))), .second, .val (.double (FP.ddiv (FP.i2d p1) (4616189618054758400 : UInt64))), .second, .val (.ref fa12), .val (.int (0 : Int32))]) rfl ?_
          show Steps p.tables e below (T13.setTop (mkF m 69 #[.val (.int p0), .val (.int p1), .val (.int p2), .val (.int p3), .val (.int (0 : Int32)), .val (.int (1 : Int32)), .val (.double (FP.ddiv (FP.i2d p0) (4616189618054758400 : UInt64))), .second, .val (.double (FP.ddiv (FP.i2d p1) (4616189618054758400 : UInt64))), .second, .val (.ref fa12), .val (.int (0 : Int32))] [])) _
          refine XS.goto X13.here hx rfl (pc0 := 69) (pc' := 115) rfl (hb hby at_69) (by decide) (by decide) ?_
          show Steps p.tables e below (T13.setTop (mkF m 115 #[.val (.int p0), .val (.int p1), .val (.int p2), .val (.int p3), .val (.int (0 : Int32)), .val (.int (1 : Int32)), .val (.double (FP.ddiv (FP.i2d p0) (4616189618054758400 : UInt64))), .second, .val (.double (FP.ddiv (FP.i2d p1) (4616189618054758400 : UInt64))), .second, .val (.ref fa12), .val (.int (0 : Int32))] [])) _
          refine XS.aload X13.here hx rfl (hb hby at_115) rfl rfl ?_
          show Steps p.tables e below (T13.setTop (mkF m 117 #[.val (.int p0), .val (.int p1), .val (.int p2), .val (.int p3), .val (.int (0 : Int32)), .val (.int (1 : Int32)), .val (.double (FP.ddiv (FP.i2d p0) (4616189618054758400 : UInt64))), .second, .val (.double (FP.ddiv (FP.i2d p1) (4616189618054758400 : UInt64))), .second, .val (.ref fa12), .val (.int (0 : Int32))] [(.ref fa12)])) _
          refine st16.trans ?_
          show Steps p.tables e below (T16.setTop (mkF m 120 #[.val (.int p0), .val (.int p1), .val (.int p2), .val (.int p3), .val (.int (0 : Int32)), .val (.int (1 : Int32)), .val (.double (FP.ddiv (FP.i2d p0) (4616189618054758400 : UInt64))), .second, .val (.double (FP.ddiv (FP.i2d p1) (4616189618054758400 : UInt64))), .second, .val (.ref fa12), .val (.int (0 : Int32))] [(.int (own_need (FP.ddiv (FP.i2d p0) (4616189618054758400 : UInt64)) (FP.ddiv (FP.i2d p1) (4616189618054758400 : UInt64)) p2 (nar .boolean (0 : Int32)) (nar .boolean (1 : Int32))))])) _
          refine XS.iload X16.here hx rfl (hb hby at_120) rfl ?_
          show Steps p.tables e below (T16.setTop (mkF m 122 #[.val (.int p0), .val (.int p1), .val (.int p2), .val (.int p3), .val (.int (0 : Int32)), .val (.int (1 : Int32)), .val (.double (FP.ddiv (FP.i2d p0) (4616189618054758400 : UInt64))), .second, .val (.double (FP.ddiv (FP.i2d p1) (4616189618054758400 : UInt64))), .second, .val (.ref fa12), .val (.int (0 : Int32))] [(.int (0 : Int32)), (.int (own_need (FP.ddiv (FP.i2d p0) (4616189618054758400 : UInt64)) (FP.ddiv (FP.i2d p1) (4616189618054758400 : UInt64)) p2 (nar .boolean (0 : Int32)) (nar .boolean (1 : Int32))))])) _
          refine XS.icmpNo X16.here hx rfl (hb hby at_122) rfl (teq (by simp [own_need, own_pos, own_nar0, own_nar1, hc1, hc2, hc14] : (own_need (FP.ddiv (FP.i2d p0) (4616189618054758400 : UInt64)) (FP.ddiv (FP.i2d p1) (4616189618054758400 : UInt64)) p2 (nar .boolean (0 : Int32)) (nar .boolean (1 : Int32))) = (0 : Int32))).2 ?_
          show Steps p.tables e below (T16.setTop (mkF m 125 #[.val (.int p0), .val (.int p1), .val (.int p2), .val (.int p3), .val (.int (0 : Int32)), .val (.int (1 : Int32)), .val (.double (FP.ddiv (FP.i2d p0) (4616189618054758400 : UInt64))), .second, .val (.double (FP.ddiv (FP.i2d p1) (4616189618054758400 : UInt64))), .second, .val (.ref fa12), .val (.int (0 : Int32))] [])) _
          refine XS.iconst X16.here hx rfl (hb hby at_125) ?_
          show Steps p.tables e below (T16.setTop (mkF m 126 #[.val (.int p0), .val (.int p1), .val (.int p2), .val (.int p3), .val (.int (0 : Int32)), .val (.int (1 : Int32)), .val (.double (FP.ddiv (FP.i2d p0) (4616189618054758400 : UInt64))), .second, .val (.double (FP.ddiv (FP.i2d p1) (4616189618054758400 : UInt64))), .second, .val (.ref fa12), .val (.int (0 : Int32))] [(.int (1 : Int32))])) _
          refine XS.goto X16.here hx rfl (pc0 := 126) (pc' := 130) rfl (hb hby at_126) (by decide) (by decide) ?_
          show Steps p.tables e below (T16.setTop (mkF m 130 #[.val (.int p0), .val (.int p1), .val (.int p2), .val (.int p3), .val (.int (0 : Int32)), .val (.int (1 : Int32)), .val (.double (FP.ddiv (FP.i2d p0) (4616189618054758400 : UInt64))), .second, .val (.double (FP.ddiv (FP.i2d p1) (4616189618054758400 : UInt64))), .second, .val (.ref fa12), .val (.int (0 : Int32))] [(.int (1 : Int32))])) _
          exact retN X16 hx (t := .boolean) Bd.returns (by simp) (hb hby at_130) hr
        · show Q_rm0 Z p0 p1 p2 p3 h0 n0 _ T16.heap _
          rw [e16]
          exact ⟨rfl, N16, KK13⟩
  · by_cases hc17 : (p3 &&& (2 : Int32)) = (0 : Int32)
    · obtain ⟨T18, h18, X18, e18, E18, A18, D18, -, st18⟩ := newO X0 hx hZ hown (hw _ (List.mem_of_getElem? (i := 1) rfl)) (hw _ (List.mem_of_getElem? (i := 2) rfl)) (hw _ (List.mem_of_getElem? (i := 3) rfl)) e0 (g := (mkF m 42 #[.val (.int p0), .val (.int p1), .val (.int p2), .val (.int p3), .val (.int (1 : Int32)), .val (.int (0 : Int32)), .val (.double (FP.ddiv (FP.i2d p0) (4616189618054758400 : UInt64))), .second, .val (.double (FP.ddiv (FP.i2d p1) (4616189618054758400 : UInt64))), .second, .unset, .unset] [])) rfl (hb hby at_42) (by decide) (by decide)
      obtain ⟨fa18, g18⟩ : ∃ z, z = h0.size := ⟨_, rfl⟩
      rw [← g18] at A18 D18 st18
      have gn_fa18 : n0 ≤ fa18 := Nat.le_trans (own_oldsz O0) (Nat.le_of_eq g18.symm)
      have gh_fa18 : h0.size ≤ fa18 := Nat.le_trans (Keep.refl h0 []).1 (Nat.le_of_eq g18.symm)
      have Zn18 : n0 ≤ h18.size := Nat.le_trans (own_oldsz O0) E18.1
      have K18 : Keep h0 h18 [] := (Keep.refl h0 []).ext E18
      have O18 := O0.ext E18
      have F18_civilian : Fld Z h18 fa18 "com/example/musterpoint/musterpoint/world/CivilianSighting" "civilian" "Lcom/example/musterpoint/musterpoint/world/Civilian;" .null := D18 (Or.inr (hw _ (List.mem_of_getElem? (i := 16) rfl))) (ty := (.object "com/example/musterpoint/musterpoint/world/Civilian")) (by decide)
      have F18_area : Fld Z h18 fa18 "com/example/musterpoint/musterpoint/world/CivilianSighting" "area" "Lcom/example/musterpoint/musterpoint/world/Area;" .null := D18 (Or.inr (hw _ (List.mem_of_getElem? (i := 18) rfl))) (ty := (.object "com/example/musterpoint/musterpoint/world/Area")) (by decide)
      have F18_health : Fld Z h18 fa18 "com/example/musterpoint/musterpoint/world/CivilianSighting" "health" "D" (.double (0 : UInt64)) := D18 (Or.inr (hw _ (List.mem_of_getElem? (i := 20) rfl))) (ty := .double) (by decide)
      have F18_damage : Fld Z h18 fa18 "com/example/musterpoint/musterpoint/world/CivilianSighting" "damage" "D" (.double (0 : UInt64)) := D18 (Or.inr (hw _ (List.mem_of_getElem? (i := 22) rfl))) (ty := .double) (by decide)
      have F18_buriedness : Fld Z h18 fa18 "com/example/musterpoint/musterpoint/world/CivilianSighting" "buriedness" "I" (.int (0 : Int32)) := D18 (Or.inr (hw _ (List.mem_of_getElem? (i := 24) rfl))) (ty := .int) (by decide)
      have F18_carried : Fld Z h18 fa18 "com/example/musterpoint/musterpoint/world/CivilianSighting" "carried" "Z" (.int (0 : Int32)) := D18 (Or.inr (hw _ (List.mem_of_getElem? (i := 26) rfl))) (ty := .boolean) (by decide)
      have F18_sheltered : Fld Z h18 fa18 "com/example/musterpoint/musterpoint/world/CivilianSighting" "sheltered" "Z" (.int (0 : Int32)) := D18 (Or.inr (hw _ (List.mem_of_getElem? (i := 28) rfl))) (ty := .boolean) (by decide)
      obtain ⟨_, _, ⟨T19, L19, k19, n19⟩, -, X19, ⟨Lc19, hQ19, l19, y19, z19⟩, st19⟩ := X18.specialBack hx (y := (⟨"com/example/musterpoint/musterpoint/world/CivilianSighting", "<init>", "(Lcom/example/musterpoint/musterpoint/world/Civilian;Lcom/example/musterpoint/musterpoint/world/Area;DDIZZ)V"⟩ : MethodName)) rfl hown (mvT hZ (hw _ (List.mem_of_getElem? (i := 4) rfl))) (mvT hZ (hw _ (List.mem_of_getElem? (i := 5) rfl))) (mvT hZ (hw _ (List.mem_of_getElem? (i := 6) rfl))) (by decide) (backOf (W := 1) (rm1 l Z a0 hw [] fa18 (FP.ddiv (FP.i2d p0) (4616189618054758400 : UInt64)) (FP.ddiv (FP.i2d p1) (4616189618054758400 : UInt64)) p2 (1 : Int32) (0 : Int32) h18 n0 O18 A18 F18_civilian F18_area F18_health F18_damage F18_buriedness F18_carried F18_sheltered gn_fa18) hZ (hw _ (List.mem_of_getElem? (i := 6) rfl)) (hw _ (List.mem_of_getElem? (i := 3) rfl)) (by decide) (by decide)) (g := (mkF m 57 #[.val (.int p0), .val (.int p1), .val (.int p2), .val (.int p3), .val (.int (1 : Int32)), .val (.int (0 : Int32)), .val (.double (FP.ddiv (FP.i2d p0) (4616189618054758400 : UInt64))), .second, .val (.double (FP.ddiv (FP.i2d p1) (4616189618054758400 : UInt64))), .second, .unset, .unset] [(.int (0 : Int32)), (.int (1 : Int32)), (.int p2), (.double (FP.ddiv (FP.i2d p1) (4616189618054758400 : UInt64))), (.double (FP.ddiv (FP.i2d p0) (4616189618054758400 : UInt64))), .null, .null, (.ref fa18), (.ref fa18)])) rfl (by rw [hml]; rfl) (Steps.refl _) (a := fa18) (argsL := [.null, .null, (.double (FP.ddiv (FP.i2d p0) (4616189618054758400 : UInt64))), (.double (FP.ddiv (FP.i2d p1) (4616189618054758400 : UInt64))), (.int p2), (.int (1 : Int32)), (.int (0 : Int32))]) (rest := [(.ref fa18)]) (lenOf pd_1 rfl) rfl (by show 2 * 0 + _ ≤ _; exact Nat.le_of_eq rfl) (hb hby at_57) (fun _ _ => ⟨rfl, e18, (by decide : 1 + 0 ≤ _), (by decide : 7 + 0 ≤ _)⟩)
      dsimp only [Pt.U, Pt.locs, Pt.cells, Pt.slots] at X19 l19 y19 z19 st19 hQ19
      subst l19 y19 z19
      obtain ⟨rfl, N19q, K19, Q19_0, Q19_1, Q19_2, Q19_3, Q19_4, Q19_5⟩ := hQ19
      have O19 := O18.keep K19 (allS gn_fa18 all0)
      have KK19 : Keep h0 T19.heap [] := K18.trans K19 (allS (Or.inr gh_fa18) all0)
      have N19 := Fr.app N0 N19q
      by_cases hc20 : (0 : Int32) < p0
      · obtain ⟨cq21, kq21, q21a, q21b, q21c⟩ := isOf hZ rfl Q19_0
        obtain ⟨_, _, ⟨T21, L21, k21, n21⟩, -, X21, ⟨Lc21, hQ21, l21, y21, z21⟩, st21⟩ := X19.virtualBack hx (y := (⟨"com/example/musterpoint/musterpoint/world/CivilianSighting", "needsHelp", "()Z"⟩ : MethodName)) (z := (⟨"com/example/musterpoint/musterpoint/world/CivilianSighting", "needsHelp", "()Z"⟩ : MethodName)) hown (mvT hZ (hw _ (List.mem_of_getElem? (i := 29) rfl))) (mvT hZ (hw _ (List.mem_of_getElem? (i := 30) rfl))) (notFace_of_selects (args := #[]) (mvT hZ (hw _ (List.mem_of_getElem? (i := 32) rfl)))) (mvT hZ (hw _ (List.mem_of_getElem? (i := 32) rfl))) (mvT hZ (hw _ (List.mem_of_getElem? (i := 31) rfl))) (by decide) (backOf (W := 0) (rm4 l Z a0 hw [] fa18 (FP.ddiv (FP.i2d p0) (4616189618054758400 : UInt64)) (FP.ddiv (FP.i2d p1) (4616189618054758400 : UInt64)) p2 (nar .boolean (1 : Int32)) (nar .boolean (0 : Int32)) T19.heap n0 O19 Q19_1 Q19_2 Q19_3 Q19_4 Q19_5) hZ (hw _ (List.mem_of_getElem? (i := 33) rfl)) (hw _ (List.mem_of_getElem? (i := 3) rfl)) (by decide) (by decide)) q21a q21c (g := (mkF m 117 #[.val (.int p0), .val (.int p1), .val (.int p2), .val (.int p3), .val (.int (1 : Int32)), .val (.int (0 : Int32)), .val (.double (FP.ddiv (FP.i2d p0) (4616189618054758400 : UInt64))), .second, .val (.double (FP.ddiv (FP.i2d p1) (4616189618054758400 : UInt64))), .second, .val (.ref fa18), .val (.int (0 : Int32))] [(.ref fa18)])) rfl (by rw [hml]; rfl) (Steps.refl _) (argsL := []) (rest := []) (lenOf pd_2 rfl) rfl (by show 2 * 0 + _ ≤ _; exact Nat.le_of_eq rfl) (hb hby at_117) (fun _ _ => ⟨rfl, rfl, (by decide : 1 + 0 ≤ _), (by decide : 7 + 0 ≤ _)⟩)
        dsimp only [Pt.U, Pt.locs, Pt.cells, Pt.slots] at X21 l21 y21 z21 st21 hQ21
        subst l21 y21 z21
        obtain ⟨rfl, N21q, e21⟩ := hQ21
        have N21 := Fr.app N19 N21q
        obtain ⟨fs, hr, hrun, hended, hW, hsame⟩ := X21.leave (v := some (.int (1 : Int32))) (fun h => by rw [Bd.returns] at h; cases h)
        refine ⟨_, _, pre0 _ ?_, hrun, hended, _, _, rfl, ?_, ⟨_, rfl⟩, hW, hsame.mono (by decide) (by decide)⟩
        · show Steps p.tables e below (s₁.setTop (mkF m 0 #[.val (.int p0), .val (.int p1), .val (.int p2), .val (.int p3), .unset, .unset, .unset, .unset, .unset, .unset, .unset, .unset] [])) _
          refine XS.iloadN X0.here hx rfl (hb hby at_0) rfl ?_
          show Steps p.tables e below (s₁.setTop (mkF m 1 #[.val (.int p0), .val (.int p1), .val (.int p2), .val (.int p3), .unset, .unset, .unset, .unset, .unset, .unset, .unset, .unset] [(.int p3)])) _
          refine XS.iconst X0.here hx rfl (hb hby at_1) ?_
          show Steps p.tables e below (s₁.setTop (mkF m 2 #[.val (.int p0), .val (.int p1), .val (.int p2), .val (.int p3), .unset, .unset, .unset, .unset, .unset, .unset, .unset, .unset] [(.int (1 : Int32)), (.int p3)])) _
          refine XS.iand X0.here hx rfl (hb hby at_2) rfl ?_
          show Steps p.tables e below (s₁.setTop (mkF m 3 #[.val (.int p0), .val (.int p1), .val (.int p2), .val (.int p3), .unset, .unset, .unset, .unset, .unset, .unset, .unset, .unset] [(.int (p3 &&& (1 : Int32)))])) _
          refine XS.ifNo X0.here hx rfl (hb hby at_3) rfl ((if0 _ _).trans (feq hc1).1) ?_
          show Steps p.tables e below (s₁.setTop (mkF m 6 #[.val (.int p0), .val (.int p1), .val (.int p2), .val (.int p3), .unset, .unset, .unset, .unset, .unset, .unset, .unset, .unset] [])) _
          refine XS.iconst X0.here hx rfl (hb hby at_6) ?_
          show Steps p.tables e below (s₁.setTop (mkF m 7 #[.val (.int p0), .val (.int p1), .val (.int p2), .val (.int p3), .unset, .unset, .unset, .unset, .unset, .unset, .unset, .unset] [(.int (1 : Int32))])) _
          refine XS.goto X0.here hx rfl (pc0 := 7) (pc' := 11) rfl (hb hby at_7) (by decide) (by decide) ?_
          show Steps p.tables e below (s₁.setTop (mkF m 11 #[.val (.int p0), .val (.int p1), .val (.int p2), .val (.int p3), .unset, .unset, .unset, .unset, .unset, .unset, .unset, .unset] [(.int (1 : Int32))])) _
          refine XS.istore X0.here hx rfl (hb hby at_11) rfl (l' := #[.val (.int p0), .val (.int p1), .val (.int p2), .val (.int p3), .val (.int (1 : Int32)), .unset, .unset, .unset, .unset, .unset, .unset, .unset]) rfl ?_
          show Steps p.tables e below (s₁.setTop (mkF m 13 #[.val (.int p0), .val (.int p1), .val (.int p2), .val (.int p3), .val (.int (1 : Int32)), .unset, .unset, .unset, .unset, .unset, .unset, .unset] [])) _
          refine XS.iloadN X0.here hx rfl (hb hby at_13) rfl ?_
          show Steps p.tables e below (s₁.setTop (mkF m 14 #[.val (.int p0), .val (.int p1), .val (.int p2), .val (.int p3), .val (.int (1 : Int32)), .unset, .unset, .unset, .unset, .unset, .unset, .unset] [(.int p3)])) _
          refine XS.iconst X0.here hx rfl (hb hby at_14) ?_
          show Steps p.tables e below (s₁.setTop (mkF m 15 #[.val (.int p0), .val (.int p1), .val (.int p2), .val (.int p3), .val (.int (1 : Int32)), .unset, .unset, .unset, .unset, .unset, .unset, .unset] [(.int (2 : Int32)), (.int p3)])) _
          refine XS.iand X0.here hx rfl (hb hby at_15) rfl ?_
          show Steps p.tables e below (s₁.setTop (mkF m 16 #[.val (.int p0), .val (.int p1), .val (.int p2), .val (.int p3), .val (.int (1 : Int32)), .unset, .unset, .unset, .unset, .unset, .unset, .unset] [(.int (p3 &&& (2 : Int32)))])) _
          refine XS.ifYes X0.here hx rfl (pc0 := 16) (pc' := 23) rfl (hb hby at_16) rfl ((if0 _ _).trans (teq hc17).1) (by decide) (by decide) ?_
          show Steps p.tables e below (s₁.setTop (mkF m 23 #[.val (.int p0), .val (.int p1), .val (.int p2), .val (.int p3), .val (.int (1 : Int32)), .unset, .unset, .unset, .unset, .unset, .unset, .unset] [])) _
          refine XS.iconst X0.here hx rfl (hb hby at_23) ?_
          show Steps p.tables e below (s₁.setTop (mkF m 24 #[.val (.int p0), .val (.int p1), .val (.int p2), .val (.int p3), .val (.int (1 : Int32)), .unset, .unset, .unset, .unset, .unset, .unset, .unset] [(.int (0 : Int32))])) _
          refine XS.istore X0.here hx rfl (hb hby at_24) rfl (l' := #[.val (.int p0), .val (.int p1), .val (.int p2), .val (.int p3), .val (.int (1 : Int32)), .val (.int (0 : Int32)), .unset, .unset, .unset, .unset, .unset, .unset]) rfl ?_
          show Steps p.tables e below (s₁.setTop (mkF m 26 #[.val (.int p0), .val (.int p1), .val (.int p2), .val (.int p3), .val (.int (1 : Int32)), .val (.int (0 : Int32)), .unset, .unset, .unset, .unset, .unset, .unset] [])) _
          refine XS.iloadN X0.here hx rfl (hb hby at_26) rfl ?_
          show Steps p.tables e below (s₁.setTop (mkF m 27 #[.val (.int p0), .val (.int p1), .val (.int p2), .val (.int p3), .val (.int (1 : Int32)), .val (.int (0 : Int32)), .unset, .unset, .unset, .unset, .unset, .unset] [(.int p0)])) _
          refine XS.i2dS X0.here hx rfl (hb hby at_27) rfl rfl ?_
          show Steps p.tables e below (s₁.setTop (mkF m 28 #[.val (.int p0), .val (.int p1), .val (.int p2), .val (.int p3), .val (.int (1 : Int32)), .val (.int (0 : Int32)), .unset, .unset, .unset, .unset, .unset, .unset] [(.double (FP.i2d p0))])) _
          refine X0.ldc2DoubleC hx hown (mvT hZ (hw _ (List.mem_of_getElem? (i := 0) rfl))) (g := (mkF m 28 #[.val (.int p0), .val (.int p1), .val (.int p2), .val (.int p3), .val (.int (1 : Int32)), .val (.int (0 : Int32)), .unset, .unset, .unset, .unset, .unset, .unset] [(.double (FP.i2d p0))])) rfl (hb hby at_28) _ ?_
          show Steps p.tables e below (s₁.setTop (mkF m 31 #[.val (.int p0), .val (.int p1), .val (.int p2), .val (.int p3), .val (.int (1 : Int32)), .val (.int (0 : Int32)), .unset, .unset, .unset, .unset, .unset, .unset] [(.double (4616189618054758400 : UInt64)), (.double (FP.i2d p0))])) _
          refine XS.ddivS X0.here hx rfl (hb hby at_31) rfl (own_nn p0) rfl ?_
          show Steps p.tables e below (s₁.setTop (mkF m 32 #[.val (.int p0), .val (.int p1), .val (.int p2), .val (.int p3), .val (.int (1 : Int32)), .val (.int (0 : Int32)), .unset, .unset, .unset, .unset, .unset, .unset] [(.double (FP.ddiv (FP.i2d p0) (4616189618054758400 : UInt64)))])) _
          refine XS.dstore X0.here hx rfl (hb hby at_32) rfl (l' := #[.val (.int p0), .val (.int p1), .val (.int p2), .val (.int p3), .val (.int (1 : Int32)), .val (.int (0 : Int32)), .val (.double (FP.ddiv (FP.i2d p0) (4616189618054758400 : UInt64))), .second, .unset, .unset, .unset, .unset]) rfl ?_
          show Steps p.tables e below (s₁.setTop (mkF m 34 #[.val (.int p0), .val (.int p1), .val (.int p2), .val (.int p3), .val (.int (1 : Int32)), .val (.int (0 : Int32)), .val (.double (FP.ddiv (FP.i2d p0) (4616189618054758400 : UInt64))), .second, .unset, .unset, .unset, .unset] [])) _
          refine XS.iloadN X0.here hx rfl (hb hby at_34) rfl ?_
          show Steps p.tables e below (s₁.setTop (mkF m 35 #[.val (.int p0), .val (.int p1), .val (.int p2), .val (.int p3), .val (.int (1 : Int32)), .val (.int (0 : Int32)), .val (.double (FP.ddiv (FP.i2d p0) (4616189618054758400 : UInt64))), .second, .unset, .unset, .unset, .unset] [(.int p1)])) _
          refine XS.i2dS X0.here hx rfl (hb hby at_35) rfl rfl ?_
          show Steps p.tables e below (s₁.setTop (mkF m 36 #[.val (.int p0), .val (.int p1), .val (.int p2), .val (.int p3), .val (.int (1 : Int32)), .val (.int (0 : Int32)), .val (.double (FP.ddiv (FP.i2d p0) (4616189618054758400 : UInt64))), .second, .unset, .unset, .unset, .unset] [(.double (FP.i2d p1))])) _
          refine X0.ldc2DoubleC hx hown (mvT hZ (hw _ (List.mem_of_getElem? (i := 0) rfl))) (g := (mkF m 36 #[.val (.int p0), .val (.int p1), .val (.int p2), .val (.int p3), .val (.int (1 : Int32)), .val (.int (0 : Int32)), .val (.double (FP.ddiv (FP.i2d p0) (4616189618054758400 : UInt64))), .second, .unset, .unset, .unset, .unset] [(.double (FP.i2d p1))])) rfl (hb hby at_36) _ ?_
          show Steps p.tables e below (s₁.setTop (mkF m 39 #[.val (.int p0), .val (.int p1), .val (.int p2), .val (.int p3), .val (.int (1 : Int32)), .val (.int (0 : Int32)), .val (.double (FP.ddiv (FP.i2d p0) (4616189618054758400 : UInt64))), .second, .unset, .unset, .unset, .unset] [(.double (4616189618054758400 : UInt64)), (.double (FP.i2d p1))])) _
          refine XS.ddivS X0.here hx rfl (hb hby at_39) rfl (own_nn p1) rfl ?_
          show Steps p.tables e below (s₁.setTop (mkF m 40 #[.val (.int p0), .val (.int p1), .val (.int p2), .val (.int p3), .val (.int (1 : Int32)), .val (.int (0 : Int32)), .val (.double (FP.ddiv (FP.i2d p0) (4616189618054758400 : UInt64))), .second, .unset, .unset, .unset, .unset] [(.double (FP.ddiv (FP.i2d p1) (4616189618054758400 : UInt64)))])) _
          refine XS.dstore X0.here hx rfl (hb hby at_40) rfl (l' := #[.val (.int p0), .val (.int p1), .val (.int p2), .val (.int p3), .val (.int (1 : Int32)), .val (.int (0 : Int32)), .val (.double (FP.ddiv (FP.i2d p0) (4616189618054758400 : UInt64))), .second, .val (.double (FP.ddiv (FP.i2d p1) (4616189618054758400 : UInt64))), .second, .unset, .unset]) rfl ?_
          show Steps p.tables e below (s₁.setTop (mkF m 42 #[.val (.int p0), .val (.int p1), .val (.int p2), .val (.int p3), .val (.int (1 : Int32)), .val (.int (0 : Int32)), .val (.double (FP.ddiv (FP.i2d p0) (4616189618054758400 : UInt64))), .second, .val (.double (FP.ddiv (FP.i2d p1) (4616189618054758400 : UInt64))), .second, .unset, .unset] [])) _
          refine st18 _ ?_
          show Steps p.tables e below (T18.setTop (mkF m 45 #[.val (.int p0), .val (.int p1), .val (.int p2), .val (.int p3), .val (.int (1 : Int32)), .val (.int (0 : Int32)), .val (.double (FP.ddiv (FP.i2d p0) (4616189618054758400 : UInt64))), .second, .val (.double (FP.ddiv (FP.i2d p1) (4616189618054758400 : UInt64))), .second, .unset, .unset] [(.ref fa18)])) _
          refine XS.dup X18.here hx rfl (hb hby at_45) rfl rfl ?_
          show Steps p.tables e below (T18.setTop (mkF m 46 #[.val (.int p0), .val (.int p1), .val (.int p2), .val (.int p3), .val (.int (1 : Int32)), .val (.int (0 : Int32)), .val (.double (FP.ddiv (FP.i2d p0) (4616189618054758400 : UInt64))), .second, .val (.double (FP.ddiv (FP.i2d p1) (4616189618054758400 : UInt64))), .second, .unset, .unset] [(.ref fa18), (.ref fa18)])) _
          refine XS.aconstNull X18.here hx rfl (hb hby at_46) ?_
          show Steps p.tables e below (T18.setTop (mkF m 47 #[.val (.int p0), .val (.int p1), .val (.int p2), .val (.int p3), .val (.int (1 : Int32)), .val (.int (0 : Int32)), .val (.double (FP.ddiv (FP.i2d p0) (4616189618054758400 : UInt64))), .second, .val (.double (FP.ddiv (FP.i2d p1) (4616189618054758400 : UInt64))), .second, .unset, .unset] [.null, (.ref fa18), (.ref fa18)])) _
          refine XS.aconstNull X18.here hx rfl (hb hby at_47) ?_
          show Steps p.tables e below (T18.setTop (mkF m 48 #[.val (.int p0), .val (.int p1), .val (.int p2), .val (.int p3), .val (.int (1 : Int32)), .val (.int (0 : Int32)), .val (.double (FP.ddiv (FP.i2d p0) (4616189618054758400 : UInt64))), .second, .val (.double (FP.ddiv (FP.i2d p1) (4616189618054758400 : UInt64))), .second, .unset, .unset] [.null, .null, (.ref fa18), (.ref fa18)])) _
          refine XS.dload X18.here hx rfl (hb hby at_48) rfl ?_
          show Steps p.tables e below (T18.setTop (mkF m 50 #[.val (.int p0), .val (.int p1), .val (.int p2), .val (.int p3), .val (.int (1 : Int32)), .val (.int (0 : Int32)), .val (.double (FP.ddiv (FP.i2d p0) (4616189618054758400 : UInt64))), .second, .val (.double (FP.ddiv (FP.i2d p1) (4616189618054758400 : UInt64))), .second, .unset, .unset] [(.double (FP.ddiv (FP.i2d p0) (4616189618054758400 : UInt64))), .null, .null, (.ref fa18), (.ref fa18)])) _
          refine XS.dload X18.here hx rfl (hb hby at_50) rfl ?_
          show Steps p.tables e below (T18.setTop (mkF m 52 #[.val (.int p0), .val (.int p1), .val (.int p2), .val (.int p3), .val (.int (1 : Int32)), .val (.int (0 : Int32)), .val (.double (FP.ddiv (FP.i2d p0) (4616189618054758400 : UInt64))), .second, .val (.double (FP.ddiv (FP.i2d p1) (4616189618054758400 : UInt64))), .second, .unset, .unset] [(.double (FP.ddiv (FP.i2d p1) (4616189618054758400 : UInt64))), (.double (FP.ddiv (FP.i2d p0) (4616189618054758400 : UInt64))), .null, .null, (.ref fa18), (.ref fa18)])) _
          refine XS.iloadN X18.here hx rfl (hb hby at_52) rfl ?_
          show Steps p.tables e below (T18.setTop (mkF m 53 #[.val (.int p0), .val (.int p1), .val (.int p2), .val (.int p3), .val (.int (1 : Int32)), .val (.int (0 : Int32)), .val (.double (FP.ddiv (FP.i2d p0) (4616189618054758400 : UInt64))), .second, .val (.double (FP.ddiv (FP.i2d p1) (4616189618054758400 : UInt64))), .second, .unset, .unset] [(.int p2), (.double (FP.ddiv (FP.i2d p1) (4616189618054758400 : UInt64))), (.double (FP.ddiv (FP.i2d p0) (4616189618054758400 : UInt64))), .null, .null, (.ref fa18), (.ref fa18)])) _
          refine XS.iload X18.here hx rfl (hb hby at_53) rfl ?_
          show Steps p.tables e below (T18.setTop (mkF m 55 #[.val (.int p0), .val (.int p1), .val (.int p2), .val (.int p3), .val (.int (1 : Int32)), .val (.int (0 : Int32)), .val (.double (FP.ddiv (FP.i2d p0) (4616189618054758400 : UInt64))), .second, .val (.double (FP.ddiv (FP.i2d p1) (4616189618054758400 : UInt64))), .second, .unset, .unset] [(.int (1 : Int32)), (.int p2), (.double (FP.ddiv (FP.i2d p1) (4616189618054758400 : UInt64))), (.double (FP.ddiv (FP.i2d p0) (4616189618054758400 : UInt64))), .null, .null, (.ref fa18), (.ref fa18)])) _
          refine XS.iload X18.here hx rfl (hb hby at_55) rfl ?_
          show Steps p.tables e below (T18.setTop (mkF m 57 #[.val (.int p0), .val (.int p1), .val (.int p2), .val (.int p3), .val (.int (1 : Int32)), .val (.int (0 : Int32)), .val (.double (FP.ddiv (FP.i2d p0) (4616189618054758400 : UInt64))), .second, .val (.double (FP.ddiv (FP.i2d p1) (4616189618054758400 : UInt64))), .second, .unset, .unset] [(.int (0 : Int32)), (.int (1 : Int32)), (.int p2), (.double (FP.ddiv (FP.i2d p1) (4616189618054758400 : UInt64))), (.double (FP.ddiv (FP.i2d p0) (4616189618054758400 : UInt64))), .null, .null, (.ref fa18), (.ref fa18)])) _
          refine st19.trans ?_
          show Steps p.tables e below (T19.setTop (mkF m 60 #[.val (.int p0), .val (.int p1), .val (.int p2), .val (.int p3), .val (.int (1 : Int32)), .val (.int (0 : Int32)), .val (.double (FP.ddiv (FP.i2d p0) (4616189618054758400 : UInt64))), .second, .val (.double (FP.ddiv (FP.i2d p1) (4616189618054758400 : UInt64))), .second, .unset, .unset] [(.ref fa18)])) _
          refine XS.astore X19.here hx rfl (hb hby at_60) rfl rfl (l' := #[.val (.int p0), .val (.int p1), .val (.int p2), .val (.int p3), .val (.int (1 : Int32)), .val (.int (0 : Int32)), .val (.double (FP.ddiv (FP.i2d p0) (4616189618054758400 : UInt64))), .second, .val (.double (FP.ddiv (FP.i2d p1) (4616189618054758400 : UInt64))), .second, .val (.ref fa18), .unset]) rfl ?_
          show Steps p.tables e below (T19.setTop (mkF m 62 #[.val (.int p0), .val (.int p1), .val (.int p2), .val (.int p3), .val (.int (1 : Int32)), .val (.int (0 : Int32)), .val (.double (FP.ddiv (FP.i2d p0) (4616189618054758400 : UInt64))), .second, .val (.double (FP.ddiv (FP.i2d p1) (4616189618054758400 : UInt64))), .second, .val (.ref fa18), .unset] [])) _
          refine XS.iloadN X19.here hx rfl (hb hby at_62) rfl ?_
          show Steps p.tables e below (T19.setTop (mkF m 63 #[.val (.int p0), .val (.int p1), .val (.int p2), .val (.int p3), .val (.int (1 : Int32)), .val (.int (0 : Int32)), .val (.double (FP.ddiv (FP.i2d p0) (4616189618054758400 : UInt64))), .second, .val (.double (FP.ddiv (FP.i2d p1) (4616189618054758400 : UInt64))), .second, .val (.ref fa18), .unset] [(.int p0)])) _
          refine XS.ifYes X19.here hx rfl (pc0 := 63) (pc' := 72) rfl (hb hby at_63) rfl ((if0 _ _).trans (tlt hc20).2.2.1) (by decide) (by decide) ?_
          show Steps p.tables e below (T19.setTop (mkF m 72 #[.val (.int p0), .val (.int p1), .val (.int p2), .val (.int p3), .val (.int (1 : Int32)), .val (.int (0 : Int32)), .val (.double (FP.ddiv (FP.i2d p0) (4616189618054758400 : UInt64))), .second, .val (.double (FP.ddiv (FP.i2d p1) (4616189618054758400 : UInt64))), .second, .val (.ref fa18), .unset] [])) _
          refine XS.iload X19.here hx rfl (hb hby at_72) rfl ?_
          show Steps p.tables e below (T19.setTop (mkF m 74 #[.val (.int p0), .val (.int p1), .val (.int p2), .val (.int p3), .val (.int (1 : Int32)), .val (.int (0 : Int32)), .val (.double (FP.ddiv (FP.i2d p0) (4616189618054758400 : UInt64))), .second, .val (.double (FP.ddiv (FP.i2d p1) (4616189618054758400 : UInt64))), .second, .val (.ref fa18), .unset] [(.int (1 : Int32))])) _
          refine XS.ifNo X19.here hx rfl (hb hby at_74) rfl ((if0 _ _).trans (feq (by decide : ¬ ((1 : Int32) = (0 : Int32)))).1) ?_
          show Steps p.tables e below (T19.setTop (mkF m 77 #[.val (.int p0), .val (.int p1), .val (.int p2), .val (.int p3), .val (.int (1 : Int32)), .val (.int (0 : Int32)), .val (.double (FP.ddiv (FP.i2d p0) (4616189618054758400 : UInt64))), .second, .val (.double (FP.ddiv (FP.i2d p1) (4616189618054758400 : UInt64))), .second, .val (.ref fa18), .unset] [])) _
          refine XS.iconst X19.here hx rfl (hb hby at_77) ?_
          show Steps p.tables e below (T19.setTop (mkF m 78 #[.val (.int p0), .val (.int p1), .val (.int p2), .val (.int p3), .val (.int (1 : Int32)), .val (.int (0 : Int32)), .val (.double (FP.ddiv (FP.i2d p0) (4616189618054758400 : UInt64))), .second, .val (.double (FP.ddiv (FP.i2d p1) (4616189618054758400 : UInt64))), .second, .val (.ref fa18), .unset] [(.int (0 : Int32))])) _
          refine XS.istore X19.here hx rfl (hb hby at_78) rfl (l' := #[.val (.int p0), .val (.int p1), .val (.int p2), .val (.int p3), .val (.int (1 : Int32)), .val (.int (0 : Int32)), .val (.double (FP.ddiv (FP.i2d p0) (4616189618054758400 : UInt64))), .second, .val (.double (FP.ddiv (FP.i2d p1) (4616189618054758400 : UInt64))), .second, .val (.ref fa18), .val (.int (0 : Int32))]) rfl ?_
          show Steps p.tables e below (T19.setTop (mkF m 80 #[.val (.int p0), .val (.int p1), .val (.int p2), .val (.int p3), .val (.int (1 : Int32)), .val (.int (0 : Int32)), .val (.double (FP.ddiv (FP.i2d p0) (4616189618054758400 : UInt64))), .second, .val (.double (FP.ddiv (FP.i2d p1) (4616189618054758400 : UInt64))), .second, .val (.ref fa18), .val (.int (0 : Int32))] [])) _
          refine XS.goto X19.here hx rfl (pc0 := 80) (pc' := 115) rfl (hb hby at_80) (by decide) (by decide) ?_
          show Steps p.tables e below (T19.setTop (mkF m 115 #[.val (.int p0), .val (.int p1), .val (.int p2), .val (.int p3), .val (.int (1 : Int32)), .val (.int (0 : Int32)), .val (.double (FP.ddiv (FP.i2d p0) (4616189618054758400 : UInt64))), .second, .val (.double (FP.ddiv (FP.i2d p1) (4616189618054758400 : UInt64))), .second, .val (.ref fa18), .val (.int (0 : Int32))] [])) _
          refine XS.aload X19.here hx rfl (hb hby at_115) rfl rfl ?_
          show Steps p.tables e below (T19.setTop (mkF m 117 #[.val (.int p0), .val (.int p1), .val (.int p2), .val (.int p3), .val (.int (1 : Int32)), .val (.int (0 : Int32)), .val (.double (FP.ddiv (FP.i2d p0) (4616189618054758400 : UInt64))), .second, .val (.double (FP.ddiv (FP.i2d p1) (4616189618054758400 : UInt64))), .second, .val (.ref fa18), .val (.int (0 : Int32))] [(.ref fa18)])) _
          refine st21.trans ?_
          show Steps p.tables e below (T21.setTop (mkF m 120 #[.val (.int p0), .val (.int p1), .val (.int p2), .val (.int p3), .val (.int (1 : Int32)), .val (.int (0 : Int32)), .val (.double (FP.ddiv (FP.i2d p0) (4616189618054758400 : UInt64))), .second, .val (.double (FP.ddiv (FP.i2d p1) (4616189618054758400 : UInt64))), .second, .val (.ref fa18), .val (.int (0 : Int32))] [(.int (own_need (FP.ddiv (FP.i2d p0) (4616189618054758400 : UInt64)) (FP.ddiv (FP.i2d p1) (4616189618054758400 : UInt64)) p2 (nar .boolean (1 : Int32)) (nar .boolean (0 : Int32))))])) _
          refine XS.iload X21.here hx rfl (hb hby at_120) rfl ?_
          show Steps p.tables e below (T21.setTop (mkF m 122 #[.val (.int p0), .val (.int p1), .val (.int p2), .val (.int p3), .val (.int (1 : Int32)), .val (.int (0 : Int32)), .val (.double (FP.ddiv (FP.i2d p0) (4616189618054758400 : UInt64))), .second, .val (.double (FP.ddiv (FP.i2d p1) (4616189618054758400 : UInt64))), .second, .val (.ref fa18), .val (.int (0 : Int32))] [(.int (0 : Int32)), (.int (own_need (FP.ddiv (FP.i2d p0) (4616189618054758400 : UInt64)) (FP.ddiv (FP.i2d p1) (4616189618054758400 : UInt64)) p2 (nar .boolean (1 : Int32)) (nar .boolean (0 : Int32))))])) _
          refine XS.icmpNo X21.here hx rfl (hb hby at_122) rfl (teq (by simp [own_need, own_pos, own_nar0, own_nar1, hc1, hc17, hc20] : (own_need (FP.ddiv (FP.i2d p0) (4616189618054758400 : UInt64)) (FP.ddiv (FP.i2d p1) (4616189618054758400 : UInt64)) p2 (nar .boolean (1 : Int32)) (nar .boolean (0 : Int32))) = (0 : Int32))).2 ?_
          show Steps p.tables e below (T21.setTop (mkF m 125 #[.val (.int p0), .val (.int p1), .val (.int p2), .val (.int p3), .val (.int (1 : Int32)), .val (.int (0 : Int32)), .val (.double (FP.ddiv (FP.i2d p0) (4616189618054758400 : UInt64))), .second, .val (.double (FP.ddiv (FP.i2d p1) (4616189618054758400 : UInt64))), .second, .val (.ref fa18), .val (.int (0 : Int32))] [])) _
          refine XS.iconst X21.here hx rfl (hb hby at_125) ?_
          show Steps p.tables e below (T21.setTop (mkF m 126 #[.val (.int p0), .val (.int p1), .val (.int p2), .val (.int p3), .val (.int (1 : Int32)), .val (.int (0 : Int32)), .val (.double (FP.ddiv (FP.i2d p0) (4616189618054758400 : UInt64))), .second, .val (.double (FP.ddiv (FP.i2d p1) (4616189618054758400 : UInt64))), .second, .val (.ref fa18), .val (.int (0 : Int32))] [(.int (1 : Int32))])) _
          refine XS.goto X21.here hx rfl (pc0 := 126) (pc' := 130) rfl (hb hby at_126) (by decide) (by decide) ?_
          show Steps p.tables e below (T21.setTop (mkF m 130 #[.val (.int p0), .val (.int p1), .val (.int p2), .val (.int p3), .val (.int (1 : Int32)), .val (.int (0 : Int32)), .val (.double (FP.ddiv (FP.i2d p0) (4616189618054758400 : UInt64))), .second, .val (.double (FP.ddiv (FP.i2d p1) (4616189618054758400 : UInt64))), .second, .val (.ref fa18), .val (.int (0 : Int32))] [(.int (1 : Int32))])) _
          exact retN X21 hx (t := .boolean) Bd.returns (by simp) (hb hby at_130) hr
        · show Q_rm0 Z p0 p1 p2 p3 h0 n0 _ T21.heap _
          rw [e21]
          exact ⟨rfl, N21, KK19⟩
      · obtain ⟨cq22, kq22, q22a, q22b, q22c⟩ := isOf hZ rfl Q19_0
        obtain ⟨_, _, ⟨T22, L22, k22, n22⟩, -, X22, ⟨Lc22, hQ22, l22, y22, z22⟩, st22⟩ := X19.virtualBack hx (y := (⟨"com/example/musterpoint/musterpoint/world/CivilianSighting", "needsHelp", "()Z"⟩ : MethodName)) (z := (⟨"com/example/musterpoint/musterpoint/world/CivilianSighting", "needsHelp", "()Z"⟩ : MethodName)) hown (mvT hZ (hw _ (List.mem_of_getElem? (i := 29) rfl))) (mvT hZ (hw _ (List.mem_of_getElem? (i := 30) rfl))) (notFace_of_selects (args := #[]) (mvT hZ (hw _ (List.mem_of_getElem? (i := 32) rfl)))) (mvT hZ (hw _ (List.mem_of_getElem? (i := 32) rfl))) (mvT hZ (hw _ (List.mem_of_getElem? (i := 31) rfl))) (by decide) (backOf (W := 0) (rm4 l Z a0 hw [] fa18 (FP.ddiv (FP.i2d p0) (4616189618054758400 : UInt64)) (FP.ddiv (FP.i2d p1) (4616189618054758400 : UInt64)) p2 (nar .boolean (1 : Int32)) (nar .boolean (0 : Int32)) T19.heap n0 O19 Q19_1 Q19_2 Q19_3 Q19_4 Q19_5) hZ (hw _ (List.mem_of_getElem? (i := 33) rfl)) (hw _ (List.mem_of_getElem? (i := 3) rfl)) (by decide) (by decide)) q22a q22c (g := (mkF m 117 #[.val (.int p0), .val (.int p1), .val (.int p2), .val (.int p3), .val (.int (1 : Int32)), .val (.int (0 : Int32)), .val (.double (FP.ddiv (FP.i2d p0) (4616189618054758400 : UInt64))), .second, .val (.double (FP.ddiv (FP.i2d p1) (4616189618054758400 : UInt64))), .second, .val (.ref fa18), .val (.int (0 : Int32))] [(.ref fa18)])) rfl (by rw [hml]; rfl) (Steps.refl _) (argsL := []) (rest := []) (lenOf pd_2 rfl) rfl (by show 2 * 0 + _ ≤ _; exact Nat.le_of_eq rfl) (hb hby at_117) (fun _ _ => ⟨rfl, rfl, (by decide : 1 + 0 ≤ _), (by decide : 7 + 0 ≤ _)⟩)
        dsimp only [Pt.U, Pt.locs, Pt.cells, Pt.slots] at X22 l22 y22 z22 st22 hQ22
        subst l22 y22 z22
        obtain ⟨rfl, N22q, e22⟩ := hQ22
        have N22 := Fr.app N19 N22q
        obtain ⟨fs, hr, hrun, hended, hW, hsame⟩ := X22.leave (v := some (.int (1 : Int32))) (fun h => by rw [Bd.returns] at h; cases h)
        refine ⟨_, _, pre0 _ ?_, hrun, hended, _, _, rfl, ?_, ⟨_, rfl⟩, hW, hsame.mono (by decide) (by decide)⟩
        · show Steps p.tables e below (s₁.setTop (mkF m 0 #[.val (.int p0), .val (.int p1), .val (.int p2), .val (.int p3), .unset, .unset, .unset, .unset, .unset, .unset, .unset, .unset] [])) _
          refine XS.iloadN X0.here hx rfl (hb hby at_0) rfl ?_
          show Steps p.tables e below (s₁.setTop (mkF m 1 #[.val (.int p0), .val (.int p1), .val (.int p2), .val (.int p3), .unset, .unset, .unset, .unset, .unset, .unset, .unset, .unset] [(.int p3)])) _
          refine XS.iconst X0.here hx rfl (hb hby at_1) ?_
          show Steps p.tables e below (s₁.setTop (mkF m 2 #[.val (.int p0), .val (.int p1), .val (.int p2), .val (.int p3), .unset, .unset, .unset, .unset, .unset, .unset, .unset, .unset] [(.int (1 : Int32)), (.int p3)])) _
          refine XS.iand X0.here hx rfl (hb hby at_2) rfl ?_
          show Steps p.tables e below (s₁.setTop (mkF m 3 #[.val (.int p0), .val (.int p1), .val (.int p2), .val (.int p3), .unset, .unset, .unset, .unset, .unset, .unset, .unset, .unset] [(.int (p3 &&& (1 : Int32)))])) _
          refine XS.ifNo X0.here hx rfl (hb hby at_3) rfl ((if0 _ _).trans (feq hc1).1) ?_
          show Steps p.tables e below (s₁.setTop (mkF m 6 #[.val (.int p0), .val (.int p1), .val (.int p2), .val (.int p3), .unset, .unset, .unset, .unset, .unset, .unset, .unset, .unset] [])) _
          refine XS.iconst X0.here hx rfl (hb hby at_6) ?_
          show Steps p.tables e below (s₁.setTop (mkF m 7 #[.val (.int p0), .val (.int p1), .val (.int p2), .val (.int p3), .unset, .unset, .unset, .unset, .unset, .unset, .unset, .unset] [(.int (1 : Int32))])) _
          refine XS.goto X0.here hx rfl (pc0 := 7) (pc' := 11) rfl (hb hby at_7) (by decide) (by decide) ?_
          show Steps p.tables e below (s₁.setTop (mkF m 11 #[.val (.int p0), .val (.int p1), .val (.int p2), .val (.int p3), .unset, .unset, .unset, .unset, .unset, .unset, .unset, .unset] [(.int (1 : Int32))])) _
          refine XS.istore X0.here hx rfl (hb hby at_11) rfl (l' := #[.val (.int p0), .val (.int p1), .val (.int p2), .val (.int p3), .val (.int (1 : Int32)), .unset, .unset, .unset, .unset, .unset, .unset, .unset]) rfl ?_
          show Steps p.tables e below (s₁.setTop (mkF m 13 #[.val (.int p0), .val (.int p1), .val (.int p2), .val (.int p3), .val (.int (1 : Int32)), .unset, .unset, .unset, .unset, .unset, .unset, .unset] [])) _
          refine XS.iloadN X0.here hx rfl (hb hby at_13) rfl ?_
          show Steps p.tables e below (s₁.setTop (mkF m 14 #[.val (.int p0), .val (.int p1), .val (.int p2), .val (.int p3), .val (.int (1 : Int32)), .unset, .unset, .unset, .unset, .unset, .unset, .unset] [(.int p3)])) _
          refine XS.iconst X0.here hx rfl (hb hby at_14) ?_
          show Steps p.tables e below (s₁.setTop (mkF m 15 #[.val (.int p0), .val (.int p1), .val (.int p2), .val (.int p3), .val (.int (1 : Int32)), .unset, .unset, .unset, .unset, .unset, .unset, .unset] [(.int (2 : Int32)), (.int p3)])) _
          refine XS.iand X0.here hx rfl (hb hby at_15) rfl ?_
          show Steps p.tables e below (s₁.setTop (mkF m 16 #[.val (.int p0), .val (.int p1), .val (.int p2), .val (.int p3), .val (.int (1 : Int32)), .unset, .unset, .unset, .unset, .unset, .unset, .unset] [(.int (p3 &&& (2 : Int32)))])) _
          refine XS.ifYes X0.here hx rfl (pc0 := 16) (pc' := 23) rfl (hb hby at_16) rfl ((if0 _ _).trans (teq hc17).1) (by decide) (by decide) ?_
          show Steps p.tables e below (s₁.setTop (mkF m 23 #[.val (.int p0), .val (.int p1), .val (.int p2), .val (.int p3), .val (.int (1 : Int32)), .unset, .unset, .unset, .unset, .unset, .unset, .unset] [])) _
          refine XS.iconst X0.here hx rfl (hb hby at_23) ?_
          show Steps p.tables e below (s₁.setTop (mkF m 24 #[.val (.int p0), .val (.int p1), .val (.int p2), .val (.int p3), .val (.int (1 : Int32)), .unset, .unset, .unset, .unset, .unset, .unset, .unset] [(.int (0 : Int32))])) _
          refine XS.istore X0.here hx rfl (hb hby at_24) rfl (l' := #[.val (.int p0), .val (.int p1), .val (.int p2), .val (.int p3), .val (.int (1 : Int32)), .val (.int (0 : Int32)), .unset, .unset, .unset, .unset, .unset, .unset]) rfl ?_
          show Steps p.tables e below (s₁.setTop (mkF m 26 #[.val (.int p0), .val (.int p1), .val (.int p2), .val (.int p3), .val (.int (1 : Int32)), .val (.int (0 : Int32)), .unset, .unset, .unset, .unset, .unset, .unset] [])) _
          refine XS.iloadN X0.here hx rfl (hb hby at_26) rfl ?_
          show Steps p.tables e below (s₁.setTop (mkF m 27 #[.val (.int p0), .val (.int p1), .val (.int p2), .val (.int p3), .val (.int (1 : Int32)), .val (.int (0 : Int32)), .unset, .unset, .unset, .unset, .unset, .unset] [(.int p0)])) _
          refine XS.i2dS X0.here hx rfl (hb hby at_27) rfl rfl ?_
          show Steps p.tables e below (s₁.setTop (mkF m 28 #[.val (.int p0), .val (.int p1), .val (.int p2), .val (.int p3), .val (.int (1 : Int32)), .val (.int (0 : Int32)), .unset, .unset, .unset, .unset, .unset, .unset] [(.double (FP.i2d p0))])) _
          refine X0.ldc2DoubleC hx hown (mvT hZ (hw _ (List.mem_of_getElem? (i := 0) rfl))) (g := (mkF m 28 #[.val (.int p0), .val (.int p1), .val (.int p2), .val (.int p3), .val (.int (1 : Int32)), .val (.int (0 : Int32)), .unset, .unset, .unset, .unset, .unset, .unset] [(.double (FP.i2d p0))])) rfl (hb hby at_28) _ ?_
          show Steps p.tables e below (s₁.setTop (mkF m 31 #[.val (.int p0), .val (.int p1), .val (.int p2), .val (.int p3), .val (.int (1 : Int32)), .val (.int (0 : Int32)), .unset, .unset, .unset, .unset, .unset, .unset] [(.double (4616189618054758400 : UInt64)), (.double (FP.i2d p0))])) _
          refine XS.ddivS X0.here hx rfl (hb hby at_31) rfl (own_nn p0) rfl ?_
          show Steps p.tables e below (s₁.setTop (mkF m 32 #[.val (.int p0), .val (.int p1), .val (.int p2), .val (.int p3), .val (.int (1 : Int32)), .val (.int (0 : Int32)), .unset, .unset, .unset, .unset, .unset, .unset] [(.double (FP.ddiv (FP.i2d p0) (4616189618054758400 : UInt64)))])) _
          refine XS.dstore X0.here hx rfl (hb hby at_32) rfl (l' := #[.val (.int p0), .val (.int p1), .val (.int p2), .val (.int p3), .val (.int (1 : Int32)), .val (.int (0 : Int32)), .val (.double (FP.ddiv (FP.i2d p0) (4616189618054758400 : UInt64))), .second, .unset, .unset, .unset, .unset]) rfl ?_
          show Steps p.tables e below (s₁.setTop (mkF m 34 #[.val (.int p0), .val (.int p1), .val (.int p2), .val (.int p3), .val (.int (1 : Int32)), .val (.int (0 : Int32)), .val (.double (FP.ddiv (FP.i2d p0) (4616189618054758400 : UInt64))), .second, .unset, .unset, .unset, .unset] [])) _
          refine XS.iloadN X0.here hx rfl (hb hby at_34) rfl ?_
          show Steps p.tables e below (s₁.setTop (mkF m 35 #[.val (.int p0), .val (.int p1), .val (.int p2), .val (.int p3), .val (.int (1 : Int32)), .val (.int (0 : Int32)), .val (.double (FP.ddiv (FP.i2d p0) (4616189618054758400 : UInt64))), .second, .unset, .unset, .unset, .unset] [(.int p1)])) _
          refine XS.i2dS X0.here hx rfl (hb hby at_35) rfl rfl ?_
          show Steps p.tables e below (s₁.setTop (mkF m 36 #[.val (.int p0), .val (.int p1), .val (.int p2), .val (.int p3), .val (.int (1 : Int32)), .val (.int (0 : Int32)), .val (.double (FP.ddiv (FP.i2d p0) (4616189618054758400 : UInt64))), .second, .unset, .unset, .unset, .unset] [(.double (FP.i2d p1))])) _
          refine X0.ldc2DoubleC hx hown (mvT hZ (hw _ (List.mem_of_getElem? (i := 0) rfl))) (g := (mkF m 36 #[.val (.int p0), .val (.int p1), .val (.int p2), .val (.int p3), .val (.int (1 : Int32)), .val (.int (0 : Int32)), .val (.double (FP.ddiv (FP.i2d p0) (4616189618054758400 : UInt64))), .second, .unset, .unset, .unset, .unset] [(.double (FP.i2d p1))])) rfl (hb hby at_36) _ ?_
          show Steps p.tables e below (s₁.setTop (mkF m 39 #[.val (.int p0), .val (.int p1), .val (.int p2), .val (.int p3), .val (.int (1 : Int32)), .val (.int (0 : Int32)), .val (.double (FP.ddiv (FP.i2d p0) (4616189618054758400 : UInt64))), .second, .unset, .unset, .unset, .unset] [(.double (4616189618054758400 : UInt64)), (.double (FP.i2d p1))])) _
          refine XS.ddivS X0.here hx rfl (hb hby at_39) rfl (own_nn p1) rfl ?_
          show Steps p.tables e below (s₁.setTop (mkF m 40 #[.val (.int p0), .val (.int p1), .val (.int p2), .val (.int p3), .val (.int (1 : Int32)), .val (.int (0 : Int32)), .val (.double (FP.ddiv (FP.i2d p0) (4616189618054758400 : UInt64))), .second, .unset, .unset, .unset, .unset] [(.double (FP.ddiv (FP.i2d p1) (4616189618054758400 : UInt64)))])) _
          refine XS.dstore X0.here hx rfl (hb hby at_40) rfl (l' := #[.val (.int p0), .val (.int p1), .val (.int p2), .val (.int p3), .val (.int (1 : Int32)), .val (.int (0 : Int32)), .val (.double (FP.ddiv (FP.i2d p0) (4616189618054758400 : UInt64))), .second, .val (.double (FP.ddiv (FP.i2d p1) (4616189618054758400 : UInt64))), .second, .unset, .unset]) rfl ?_
          show Steps p.tables e below (s₁.setTop (mkF m 42 #[.val (.int p0), .val (.int p1), .val (.int p2), .val (.int p3), .val (.int (1 : Int32)), .val (.int (0 : Int32)), .val (.double (FP.ddiv (FP.i2d p0) (4616189618054758400 : UInt64))), .second, .val (.double (FP.ddiv (FP.i2d p1) (4616189618054758400 : UInt64))), .second, .unset, .unset] [])) _
          refine st18 _ ?_
          show Steps p.tables e below (T18.setTop (mkF m 45 #[.val (.int p0), .val (.int p1), .val (.int p2), .val (.int p3), .val (.int (1 : Int32)), .val (.int (0 : Int32)), .val (.double (FP.ddiv (FP.i2d p0) (4616189618054758400 : UInt64))), .second, .val (.double (FP.ddiv (FP.i2d p1) (4616189618054758400 : UInt64))), .second, .unset, .unset] [(.ref fa18)])) _
          refine XS.dup X18.here hx rfl (hb hby at_45) rfl rfl ?_
          show Steps p.tables e below (T18.setTop (mkF m 46 #[.val (.int p0), .val (.int p1), .val (.int p2), .val (.int p3), .val (.int (1 : Int32)), .val (.int (0 : Int32)), .val (.double (FP.ddiv (FP.i2d p0) (4616189618054758400 : UInt64))), .second, .val (.double (FP.ddiv (FP.i2d p1) (4616189618054758400 : UInt64))), .second, .unset, .unset] [(.ref fa18), (.ref fa18)])) _
          refine XS.aconstNull X18.here hx rfl (hb hby at_46) ?_
          show Steps p.tables e below (T18.setTop (mkF m 47 #[.val (.int p0), .val (.int p1), .val (.int p2), .val (.int p3), .val (.int (1 : Int32)), .val (.int (0 : Int32)), .val (.double (FP.ddiv (FP.i2d p0) (4616189618054758400 : UInt64))), .second, .val (.double (FP.ddiv (FP.i2d p1) (4616189618054758400 : UInt64))), .second, .unset, .unset] [.null, (.ref fa18), (.ref fa18)])) _
          refine XS.aconstNull X18.here hx rfl (hb hby at_47) ?_
          show Steps p.tables e below (T18.setTop (mkF m 48 #[.val (.int p0), .val (.int p1), .val (.int p2), .val (.int p3), .val (.int (1 : Int32)), .val (.int (0 : Int32)), .val (.double (FP.ddiv (FP.i2d p0) (4616189618054758400 : UInt64))), .second, .val (.double (FP.ddiv (FP.i2d p1) (4616189618054758400 : UInt64))), .second, .unset, .unset] [.null, .null, (.ref fa18), (.ref fa18)])) _
          refine XS.dload X18.here hx rfl (hb hby at_48) rfl ?_
          show Steps p.tables e below (T18.setTop (mkF m 50 #[.val (.int p0), .val (.int p1), .val (.int p2), .val (.int p3), .val (.int (1 : Int32)), .val (.int (0 : Int32)), .val (.double (FP.ddiv (FP.i2d p0) (4616189618054758400 : UInt64))), .second, .val (.double (FP.ddiv (FP.i2d p1) (4616189618054758400 : UInt64))), .second, .unset, .unset] [(.double (FP.ddiv (FP.i2d p0) (4616189618054758400 : UInt64))), .null, .null, (.ref fa18), (.ref fa18)])) _
          refine XS.dload X18.here hx rfl (hb hby at_50) rfl ?_
          show Steps p.tables e below (T18.setTop (mkF m 52 #[.val (.int p0), .val (.int p1), .val (.int p2), .val (.int p3), .val (.int (1 : Int32)), .val (.int (0 : Int32)), .val (.double (FP.ddiv (FP.i2d p0) (4616189618054758400 : UInt64))), .second, .val (.double (FP.ddiv (FP.i2d p1) (4616189618054758400 : UInt64))), .second, .unset, .unset] [(.double (FP.ddiv (FP.i2d p1) (4616189618054758400 : UInt64))), (.double (FP.ddiv (FP.i2d p0) (4616189618054758400 : UInt64))), .null, .null, (.ref fa18), (.ref fa18)])) _
          refine XS.iloadN X18.here hx rfl (hb hby at_52) rfl ?_
          show Steps p.tables e below (T18.setTop (mkF m 53 #[.val (.int p0), .val (.int p1), .val (.int p2), .val (.int p3), .val (.int (1 : Int32)), .val (.int (0 : Int32)), .val (.double (FP.ddiv (FP.i2d p0) (4616189618054758400 : UInt64))), .second, .val (.double (FP.ddiv (FP.i2d p1) (4616189618054758400 : UInt64))), .second, .unset, .unset] [(.int p2), (.double (FP.ddiv (FP.i2d p1) (4616189618054758400 : UInt64))), (.double (FP.ddiv (FP.i2d p0) (4616189618054758400 : UInt64))), .null, .null, (.ref fa18), (.ref fa18)])) _
          refine XS.iload X18.here hx rfl (hb hby at_53) rfl ?_
          show Steps p.tables e below (T18.setTop (mkF m 55 #[.val (.int p0), .val (.int p1), .val (.int p2), .val (.int p3), .val (.int (1 : Int32)), .val (.int (0 : Int32)), .val (.double (FP.ddiv (FP.i2d p0) (4616189618054758400 : UInt64))), .second, .val (.double (FP.ddiv (FP.i2d p1) (4616189618054758400 : UInt64))), .second, .unset, .unset] [(.int (1 : Int32)), (.int p2), (.double (FP.ddiv (FP.i2d p1) (4616189618054758400 : UInt64))), (.double (FP.ddiv (FP.i2d p0) (4616189618054758400 : UInt64))), .null, .null, (.ref fa18), (.ref fa18)])) _
          refine XS.iload X18.here hx rfl (hb hby at_55) rfl ?_
          show Steps p.tables e below (T18.setTop (mkF m 57 #[.val (.int p0), .val (.int p1), .val (.int p2), .val (.int p3), .val (.int (1 : Int32)), .val (.int (0 : Int32)), .val (.double (FP.ddiv (FP.i2d p0) (4616189618054758400 : UInt64))), .second, .val (.double (FP.ddiv (FP.i2d p1) (4616189618054758400 : UInt64))), .second, .unset, .unset] [(.int (0 : Int32)), (.int (1 : Int32)), (.int p2), (.double (FP.ddiv (FP.i2d p1) (4616189618054758400 : UInt64))), (.double (FP.ddiv (FP.i2d p0) (4616189618054758400 : UInt64))), .null, .null, (.ref fa18), (.ref fa18)])) _
          refine st19.trans ?_
          show Steps p.tables e below (T19.setTop (mkF m 60 #[.val (.int p0), .val (.int p1), .val (.int p2), .val (.int p3), .val (.int (1 : Int32)), .val (.int (0 : Int32)), .val (.double (FP.ddiv (FP.i2d p0) (4616189618054758400 : UInt64))), .second, .val (.double (FP.ddiv (FP.i2d p1) (4616189618054758400 : UInt64))), .second, .unset, .unset] [(.ref fa18)])) _
          refine XS.astore X19.here hx rfl (hb hby at_60) rfl rfl (l' := #[.val (.int p0), .val (.int p1), .val (.int p2), .val (.int p3), .val (.int (1 : Int32)), .val (.int (0 : Int32)), .val (.double (FP.ddiv (FP.i2d p0) (4616189618054758400 : UInt64))), .second, .val (.double (FP.ddiv (FP.i2d p1) (4616189618054758400 : UInt64))), .second, .val (.ref fa18), .unset]) rfl ?_
          show Steps p.tables e below (T19.setTop (mkF m 62 #[.val (.int p0), .val (.int p1), .val (.int p2), .val (.int p3), .val (.int (1 : Int32)), .val (.int (0 : Int32)), .val (.double (FP.ddiv (FP.i2d p0) (4616189618054758400 : UInt64))), .second, .val (.double (FP.ddiv (FP.i2d p1) (4616189618054758400 : UInt64))), .second, .val (.ref fa18), .unset] [])) _
          refine XS.iloadN X19.here hx rfl (hb hby at_62) rfl ?_
          show Steps p.tables e below (T19.setTop (mkF m 63 #[.val (.int p0), .val (.int p1), .val (.int p2), .val (.int p3), .val (.int (1 : Int32)), .val (.int (0 : Int32)), .val (.double (FP.ddiv (FP.i2d p0) (4616189618054758400 : UInt64))), .second, .val (.double (FP.ddiv (FP.i2d p1) (4616189618054758400 : UInt64))), .second, .val (.ref fa18), .unset] [(.int p0)])) _
          refine XS.ifNo X19.here hx rfl (hb hby at_63) rfl ((if0 _ _).trans (flt hc20).2.2.1) ?_
          show Steps p.tables e below (T19.setTop (mkF m 66 #[.val (.int p0), .val (.int p1), .val (.int p2), .val (.int p3), .val (.int (1 : Int32)), .val (.int (0 : Int32)), .val (.double (FP.ddiv (FP.i2d p0) (4616189618054758400 : UInt64))), .second, .val (.double (FP.ddiv (FP.i2d p1) (4616189618054758400 : UInt64))), .second, .val (.ref fa18), .unset] [])) _
          refine XS.iconst X19.here hx rfl (hb hby at_66) ?_
          show Steps p.tables e below (T19.setTop (mkF m 67 #[.val (.int p0), .val (.int p1), .val (.int p2), .val (.int p3), .val (.int (1 : Int32)), .val (.int (0 : Int32)), .val (.double (FP.ddiv (FP.i2d p0) (4616189618054758400 : UInt64))), .second, .val (.double (FP.ddiv (FP.i2d p1) (4616189618054758400 : UInt64))), .second, .val (.ref fa18), .unset] [(.int (0 : Int32))])) _
          refine XS.istore X19.here hx rfl (hb hby at_67) rfl (l' := #[.val (.int p0), .val (.int p1), .val (.int p2), .val (.int p3), .val (.int (1 : Int32)), .val (.int (0 : Int32)), .val (.double (FP.ddiv (FP.i2d p0) (4616189618054758400 : UInt64))), .second, .val (.double (FP.ddiv (FP.i2d p1) (4616189618054758400 : UInt64))), .second, .val (.ref fa18), .val (.int (0 : Int32))]) rfl ?_
          show Steps p.tables e below (T19.setTop (mkF m 69 #[.val (.int p0), .val (.int p1), .val (.int p2), .val (.int p3), .val (.int (1 : Int32)), .val (.int (0 : Int32)), .val (.double (FP.ddiv (FP.i2d p0) (4616189618054758400 : UInt64))), .second, .val (.double (FP.ddiv (FP.i2d p1) (4616189618054758400 : UInt64))), .second, .val (.ref fa18), .val (.int (0 : Int32))] [])) _
          refine XS.goto X19.here hx rfl (pc0 := 69) (pc' := 115) rfl (hb hby at_69) (by decide) (by decide) ?_
          show Steps p.tables e below (T19.setTop (mkF m 115 #[.val (.int p0), .val (.int p1), .val (.int p2), .val (.int p3), .val (.int (1 : Int32)), .val (.int (0 : Int32)), .val (.double (FP.ddiv (FP.i2d p0) (4616189618054758400 : UInt64))), .second, .val (.double (FP.ddiv (FP.i2d p1) (4616189618054758400 : UInt64))), .second, .val (.ref fa18), .val (.int (0 : Int32))] [])) _
          refine XS.aload X19.here hx rfl (hb hby at_115) rfl rfl ?_
          show Steps p.tables e below (T19.setTop (mkF m 117 #[.val (.int p0), .val (.int p1), .val (.int p2), .val (.int p3), .val (.int (1 : Int32)), .val (.int (0 : Int32)), .val (.double (FP.ddiv (FP.i2d p0) (4616189618054758400 : UInt64))), .second, .val (.double (FP.ddiv (FP.i2d p1) (4616189618054758400 : UInt64))), .second, .val (.ref fa18), .val (.int (0 : Int32))] [(.ref fa18)])) _
          refine st22.trans ?_
          show Steps p.tables e below (T22.setTop (mkF m 120 #[.val (.int p0), .val (.int p1), .val (.int p2), .val (.int p3), .val (.int (1 : Int32)), .val (.int (0 : Int32)), .val (.double (FP.ddiv (FP.i2d p0) (4616189618054758400 : UInt64))), .second, .val (.double (FP.ddiv (FP.i2d p1) (4616189618054758400 : UInt64))), .second, .val (.ref fa18), .val (.int (0 : Int32))] [(.int (own_need (FP.ddiv (FP.i2d p0) (4616189618054758400 : UInt64)) (FP.ddiv (FP.i2d p1) (4616189618054758400 : UInt64)) p2 (nar .boolean (1 : Int32)) (nar .boolean (0 : Int32))))])) _
          refine XS.iload X22.here hx rfl (hb hby at_120) rfl ?_
          show Steps p.tables e below (T22.setTop (mkF m 122 #[.val (.int p0), .val (.int p1), .val (.int p2), .val (.int p3), .val (.int (1 : Int32)), .val (.int (0 : Int32)), .val (.double (FP.ddiv (FP.i2d p0) (4616189618054758400 : UInt64))), .second, .val (.double (FP.ddiv (FP.i2d p1) (4616189618054758400 : UInt64))), .second, .val (.ref fa18), .val (.int (0 : Int32))] [(.int (0 : Int32)), (.int (own_need (FP.ddiv (FP.i2d p0) (4616189618054758400 : UInt64)) (FP.ddiv (FP.i2d p1) (4616189618054758400 : UInt64)) p2 (nar .boolean (1 : Int32)) (nar .boolean (0 : Int32))))])) _
          refine XS.icmpNo X22.here hx rfl (hb hby at_122) rfl (teq (by simp [own_need, own_pos, own_nar0, own_nar1, hc1, hc17, hc20] : (own_need (FP.ddiv (FP.i2d p0) (4616189618054758400 : UInt64)) (FP.ddiv (FP.i2d p1) (4616189618054758400 : UInt64)) p2 (nar .boolean (1 : Int32)) (nar .boolean (0 : Int32))) = (0 : Int32))).2 ?_
          show Steps p.tables e below (T22.setTop (mkF m 125 #[.val (.int p0), .val (.int p1), .val (.int p2), .val (.int p3), .val (.int (1 : Int32)), .val (.int (0 : Int32)), .val (.double (FP.ddiv (FP.i2d p0) (4616189618054758400 : UInt64))), .second, .val (.double (FP.ddiv (FP.i2d p1) (4616189618054758400 : UInt64))), .second, .val (.ref fa18), .val (.int (0 : Int32))] [])) _
          refine XS.iconst X22.here hx rfl (hb hby at_125) ?_
          show Steps p.tables e below (T22.setTop (mkF m 126 #[.val (.int p0), .val (.int p1), .val (.int p2), .val (.int p3), .val (.int (1 : Int32)), .val (.int (0 : Int32)), .val (.double (FP.ddiv (FP.i2d p0) (4616189618054758400 : UInt64))), .second, .val (.double (FP.ddiv (FP.i2d p1) (4616189618054758400 : UInt64))), .second, .val (.ref fa18), .val (.int (0 : Int32))] [(.int (1 : Int32))])) _
          refine XS.goto X22.here hx rfl (pc0 := 126) (pc' := 130) rfl (hb hby at_126) (by decide) (by decide) ?_
          show Steps p.tables e below (T22.setTop (mkF m 130 #[.val (.int p0), .val (.int p1), .val (.int p2), .val (.int p3), .val (.int (1 : Int32)), .val (.int (0 : Int32)), .val (.double (FP.ddiv (FP.i2d p0) (4616189618054758400 : UInt64))), .second, .val (.double (FP.ddiv (FP.i2d p1) (4616189618054758400 : UInt64))), .second, .val (.ref fa18), .val (.int (0 : Int32))] [(.int (1 : Int32))])) _
          exact retN X22 hx (t := .boolean) Bd.returns (by simp) (hb hby at_130) hr
        · show Q_rm0 Z p0 p1 p2 p3 h0 n0 _ T22.heap _
          rw [e22]
          exact ⟨rfl, N22, KK19⟩
    · obtain ⟨T23, h23, X23, e23, E23, A23, D23, -, st23⟩ := newO X0 hx hZ hown (hw _ (List.mem_of_getElem? (i := 1) rfl)) (hw _ (List.mem_of_getElem? (i := 2) rfl)) (hw _ (List.mem_of_getElem? (i := 3) rfl)) e0 (g := (mkF m 42 #[.val (.int p0), .val (.int p1), .val (.int p2), .val (.int p3), .val (.int (1 : Int32)), .val (.int (1 : Int32)), .val (.double (FP.ddiv (FP.i2d p0) (4616189618054758400 : UInt64))), .second, .val (.double (FP.ddiv (FP.i2d p1) (4616189618054758400 : UInt64))), .second, .unset, .unset] [])) rfl (hb hby at_42) (by decide) (by decide)
      obtain ⟨fa23, g23⟩ : ∃ z, z = h0.size := ⟨_, rfl⟩
      rw [← g23] at A23 D23 st23
      have gn_fa23 : n0 ≤ fa23 := Nat.le_trans (own_oldsz O0) (Nat.le_of_eq g23.symm)
      have gh_fa23 : h0.size ≤ fa23 := Nat.le_trans (Keep.refl h0 []).1 (Nat.le_of_eq g23.symm)
      have Zn23 : n0 ≤ h23.size := Nat.le_trans (own_oldsz O0) E23.1
      have K23 : Keep h0 h23 [] := (Keep.refl h0 []).ext E23
      have O23 := O0.ext E23
      have F23_civilian : Fld Z h23 fa23 "com/example/musterpoint/musterpoint/world/CivilianSighting" "civilian" "Lcom/example/musterpoint/musterpoint/world/Civilian;" .null := D23 (Or.inr (hw _ (List.mem_of_getElem? (i := 16) rfl))) (ty := (.object "com/example/musterpoint/musterpoint/world/Civilian")) (by decide)
      have F23_area : Fld Z h23 fa23 "com/example/musterpoint/musterpoint/world/CivilianSighting" "area" "Lcom/example/musterpoint/musterpoint/world/Area;" .null := D23 (Or.inr (hw _ (List.mem_of_getElem? (i := 18) rfl))) (ty := (.object "com/example/musterpoint/musterpoint/world/Area")) (by decide)
      have F23_health : Fld Z h23 fa23 "com/example/musterpoint/musterpoint/world/CivilianSighting" "health" "D" (.double (0 : UInt64)) := D23 (Or.inr (hw _ (List.mem_of_getElem? (i := 20) rfl))) (ty := .double) (by decide)
      have F23_damage : Fld Z h23 fa23 "com/example/musterpoint/musterpoint/world/CivilianSighting" "damage" "D" (.double (0 : UInt64)) := D23 (Or.inr (hw _ (List.mem_of_getElem? (i := 22) rfl))) (ty := .double) (by decide)
      have F23_buriedness : Fld Z h23 fa23 "com/example/musterpoint/musterpoint/world/CivilianSighting" "buriedness" "I" (.int (0 : Int32)) := D23 (Or.inr (hw _ (List.mem_of_getElem? (i := 24) rfl))) (ty := .int) (by decide)
      have F23_carried : Fld Z h23 fa23 "com/example/musterpoint/musterpoint/world/CivilianSighting" "carried" "Z" (.int (0 : Int32)) := D23 (Or.inr (hw _ (List.mem_of_getElem? (i := 26) rfl))) (ty := .boolean) (by decide)
      have F23_sheltered : Fld Z h23 fa23 "com/example/musterpoint/musterpoint/world/CivilianSighting" "sheltered" "Z" (.int (0 : Int32)) := D23 (Or.inr (hw _ (List.mem_of_getElem? (i := 28) rfl))) (ty := .boolean) (by decide)
      obtain ⟨_, _, ⟨T24, L24, k24, n24⟩, -, X24, ⟨Lc24, hQ24, l24, y24, z24⟩, st24⟩ := X23.specialBack hx (y := (⟨"com/example/musterpoint/musterpoint/world/CivilianSighting", "<init>", "(Lcom/example/musterpoint/musterpoint/world/Civilian;Lcom/example/musterpoint/musterpoint/world/Area;DDIZZ)V"⟩ : MethodName)) rfl hown (mvT hZ (hw _ (List.mem_of_getElem? (i := 4) rfl))) (mvT hZ (hw _ (List.mem_of_getElem? (i := 5) rfl))) (mvT hZ (hw _ (List.mem_of_getElem? (i := 6) rfl))) (by decide) (backOf (W := 1) (rm1 l Z a0 hw [] fa23 (FP.ddiv (FP.i2d p0) (4616189618054758400 : UInt64)) (FP.ddiv (FP.i2d p1) (4616189618054758400 : UInt64)) p2 (1 : Int32) (1 : Int32) h23 n0 O23 A23 F23_civilian F23_area F23_health F23_damage F23_buriedness F23_carried F23_sheltered gn_fa23) hZ (hw _ (List.mem_of_getElem? (i := 6) rfl)) (hw _ (List.mem_of_getElem? (i := 3) rfl)) (by decide) (by decide)) (g := (mkF m 57 #[.val (.int p0), .val (.int p1), .val (.int p2), .val (.int p3), .val (.int (1 : Int32)), .val (.int (1 : Int32)), .val (.double (FP.ddiv (FP.i2d p0) (4616189618054758400 : UInt64))), .second, .val (.double (FP.ddiv (FP.i2d p1) (4616189618054758400 : UInt64))), .second, .unset, .unset] [(.int (1 : Int32)), (.int (1 : Int32)), (.int p2), (.double (FP.ddiv (FP.i2d p1) (4616189618054758400 : UInt64))), (.double (FP.ddiv (FP.i2d p0) (4616189618054758400 : UInt64))), .null, .null, (.ref fa23), (.ref fa23)])) rfl (by rw [hml]; rfl) (Steps.refl _) (a := fa23) (argsL := [.null, .null, (.double (FP.ddiv (FP.i2d p0) (4616189618054758400 : UInt64))), (.double (FP.ddiv (FP.i2d p1) (4616189618054758400 : UInt64))), (.int p2), (.int (1 : Int32)), (.int (1 : Int32))]) (rest := [(.ref fa23)]) (lenOf pd_1 rfl) rfl (by show 2 * 0 + _ ≤ _; exact Nat.le_of_eq rfl) (hb hby at_57) (fun _ _ => ⟨rfl, e23, (by decide : 1 + 0 ≤ _), (by decide : 7 + 0 ≤ _)⟩)
      dsimp only [Pt.U, Pt.locs, Pt.cells, Pt.slots] at X24 l24 y24 z24 st24 hQ24
      subst l24 y24 z24
      obtain ⟨rfl, N24q, K24, Q24_0, Q24_1, Q24_2, Q24_3, Q24_4, Q24_5⟩ := hQ24
      have O24 := O23.keep K24 (allS gn_fa23 all0)
      have KK24 : Keep h0 T24.heap [] := K23.trans K24 (allS (Or.inr gh_fa23) all0)
      have N24 := Fr.app N0 N24q
      by_cases hc25 : (0 : Int32) < p0
      · obtain ⟨cq26, kq26, q26a, q26b, q26c⟩ := isOf hZ rfl Q24_0
        obtain ⟨_, _, ⟨T26, L26, k26, n26⟩, -, X26, ⟨Lc26, hQ26, l26, y26, z26⟩, st26⟩ := X24.virtualBack hx (y := (⟨"com/example/musterpoint/musterpoint/world/CivilianSighting", "needsHelp", "()Z"⟩ : MethodName)) (z := (⟨"com/example/musterpoint/musterpoint/world/CivilianSighting", "needsHelp", "()Z"⟩ : MethodName)) hown (mvT hZ (hw _ (List.mem_of_getElem? (i := 29) rfl))) (mvT hZ (hw _ (List.mem_of_getElem? (i := 30) rfl))) (notFace_of_selects (args := #[]) (mvT hZ (hw _ (List.mem_of_getElem? (i := 32) rfl)))) (mvT hZ (hw _ (List.mem_of_getElem? (i := 32) rfl))) (mvT hZ (hw _ (List.mem_of_getElem? (i := 31) rfl))) (by decide) (backOf (W := 0) (rm4 l Z a0 hw [] fa23 (FP.ddiv (FP.i2d p0) (4616189618054758400 : UInt64)) (FP.ddiv (FP.i2d p1) (4616189618054758400 : UInt64)) p2 (nar .boolean (1 : Int32)) (nar .boolean (1 : Int32)) T24.heap n0 O24 Q24_1 Q24_2 Q24_3 Q24_4 Q24_5) hZ (hw _ (List.mem_of_getElem? (i := 33) rfl)) (hw _ (List.mem_of_getElem? (i := 3) rfl)) (by decide) (by decide)) q26a q26c (g := (mkF m 117 #[.val (.int p0), .val (.int p1), .val (.int p2), .val (.int p3), .val (.int (1 : Int32)), .val (.int (1 : Int32)), .val (.double (FP.ddiv (FP.i2d p0) (4616189618054758400 : UInt64))), .second, .val (.double (FP.ddiv (FP.i2d p1) (4616189618054758400 : UInt64))), .second, .val (.ref fa23), .val (.int (0 : Int32))] [(.ref fa23)])) rfl (by rw [hml]; rfl) (Steps.refl _) (argsL := []) (rest := []) (lenOf pd_2 rfl) rfl (by show 2 * 0 + _ ≤ _; exact Nat.le_of_eq rfl) (hb hby at_117) (fun _ _ => ⟨rfl, rfl, (by decide : 1 + 0 ≤ _), (by decide : 7 + 0 ≤ _)⟩)
        dsimp only [Pt.U, Pt.locs, Pt.cells, Pt.slots] at X26 l26 y26 z26 st26 hQ26
        subst l26 y26 z26
        obtain ⟨rfl, N26q, e26⟩ := hQ26
        have N26 := Fr.app N24 N26q
        obtain ⟨fs, hr, hrun, hended, hW, hsame⟩ := X26.leave (v := some (.int (1 : Int32))) (fun h => by rw [Bd.returns] at h; cases h)
        refine ⟨_, _, pre0 _ ?_, hrun, hended, _, _, rfl, ?_, ⟨_, rfl⟩, hW, hsame.mono (by decide) (by decide)⟩
        · show Steps p.tables e below (s₁.setTop (mkF m 0 #[.val (.int p0), .val (.int p1), .val (.int p2), .val (.int p3), .unset, .unset, .unset, .unset, .unset, .unset, .unset, .unset] [])) _
          refine XS.iloadN X0.here hx rfl (hb hby at_0) rfl ?_
          show Steps p.tables e below (s₁.setTop (mkF m 1 #[.val (.int p0), .val (.int p1), .val (.int p2), .val (.int p3), .unset, .unset, .unset, .unset, .unset, .unset, .unset, .unset] [(.int p3)])) _
          refine XS.iconst X0.here hx rfl (hb hby at_1) ?_
          show Steps p.tables e below (s₁.setTop (mkF m 2 #[.val (.int p0), .val (.int p1), .val (.int p2), .val (.int p3), .unset, .unset, .unset, .unset, .unset, .unset, .unset, .unset] [(.int (1 : Int32)), (.int p3)])) _
          refine XS.iand X0.here hx rfl (hb hby at_2) rfl ?_
          show Steps p.tables e below (s₁.setTop (mkF m 3 #[.val (.int p0), .val (.int p1), .val (.int p2), .val (.int p3), .unset, .unset, .unset, .unset, .unset, .unset, .unset, .unset] [(.int (p3 &&& (1 : Int32)))])) _
          refine XS.ifNo X0.here hx rfl (hb hby at_3) rfl ((if0 _ _).trans (feq hc1).1) ?_
          show Steps p.tables e below (s₁.setTop (mkF m 6 #[.val (.int p0), .val (.int p1), .val (.int p2), .val (.int p3), .unset, .unset, .unset, .unset, .unset, .unset, .unset, .unset] [])) _
          refine XS.iconst X0.here hx rfl (hb hby at_6) ?_
          show Steps p.tables e below (s₁.setTop (mkF m 7 #[.val (.int p0), .val (.int p1), .val (.int p2), .val (.int p3), .unset, .unset, .unset, .unset, .unset, .unset, .unset, .unset] [(.int (1 : Int32))])) _
          refine XS.goto X0.here hx rfl (pc0 := 7) (pc' := 11) rfl (hb hby at_7) (by decide) (by decide) ?_
          show Steps p.tables e below (s₁.setTop (mkF m 11 #[.val (.int p0), .val (.int p1), .val (.int p2), .val (.int p3), .unset, .unset, .unset, .unset, .unset, .unset, .unset, .unset] [(.int (1 : Int32))])) _
          refine XS.istore X0.here hx rfl (hb hby at_11) rfl (l' := #[.val (.int p0), .val (.int p1), .val (.int p2), .val (.int p3), .val (.int (1 : Int32)), .unset, .unset, .unset, .unset, .unset, .unset, .unset]) rfl ?_
          show Steps p.tables e below (s₁.setTop (mkF m 13 #[.val (.int p0), .val (.int p1), .val (.int p2), .val (.int p3), .val (.int (1 : Int32)), .unset, .unset, .unset, .unset, .unset, .unset, .unset] [])) _
          refine XS.iloadN X0.here hx rfl (hb hby at_13) rfl ?_
          show Steps p.tables e below (s₁.setTop (mkF m 14 #[.val (.int p0), .val (.int p1), .val (.int p2), .val (.int p3), .val (.int (1 : Int32)), .unset, .unset, .unset, .unset, .unset, .unset, .unset] [(.int p3)])) _
          refine XS.iconst X0.here hx rfl (hb hby at_14) ?_
          show Steps p.tables e below (s₁.setTop (mkF m 15 #[.val (.int p0), .val (.int p1), .val (.int p2), .val (.int p3), .val (.int (1 : Int32)), .unset, .unset, .unset, .unset, .unset, .unset, .unset] [(.int (2 : Int32)), (.int p3)])) _
          refine XS.iand X0.here hx rfl (hb hby at_15) rfl ?_
          show Steps p.tables e below (s₁.setTop (mkF m 16 #[.val (.int p0), .val (.int p1), .val (.int p2), .val (.int p3), .val (.int (1 : Int32)), .unset, .unset, .unset, .unset, .unset, .unset, .unset] [(.int (p3 &&& (2 : Int32)))])) _
          refine XS.ifNo X0.here hx rfl (hb hby at_16) rfl ((if0 _ _).trans (feq hc17).1) ?_
          show Steps p.tables e below (s₁.setTop (mkF m 19 #[.val (.int p0), .val (.int p1), .val (.int p2), .val (.int p3), .val (.int (1 : Int32)), .unset, .unset, .unset, .unset, .unset, .unset, .unset] [])) _
          refine XS.iconst X0.here hx rfl (hb hby at_19) ?_
          show Steps p.tables e below (s₁.setTop (mkF m 20 #[.val (.int p0), .val (.int p1), .val (.int p2), .val (.int p3), .val (.int (1 : Int32)), .unset, .unset, .unset, .unset, .unset, .unset, .unset] [(.int (1 : Int32))])) _
          refine XS.goto X0.here hx rfl (pc0 := 20) (pc' := 24) rfl (hb hby at_20) (by decide) (by decide) ?_
          show Steps p.tables e below (s₁.setTop (mkF m 24 #[.val (.int p0), .val (.int p1), .val (.int p2), .val (.int p3), .val (.int (1 : Int32)), .unset, .unset, .unset, .unset, .unset, .unset, .unset] [(.int (1 : Int32))])) _
          refine XS.istore X0.here hx rfl (hb hby at_24) rfl (l' := #[.val (.int p0), .val (.int p1), .val (.int p2), .val (.int p3), .val (.int (1 : Int32)), .val (.int (1 : Int32)), .unset, .unset, .unset, .unset, .unset, .unset]) rfl ?_
          show Steps p.tables e below (s₁.setTop (mkF m 26 #[.val (.int p0), .val (.int p1), .val (.int p2), .val (.int p3), .val (.int (1 : Int32)), .val (.int (1 : Int32)), .unset, .unset, .unset, .unset, .unset, .unset] [])) _
          refine XS.iloadN X0.here hx rfl (hb hby at_26) rfl ?_
          show Steps p.tables e below (s₁.setTop (mkF m 27 #[.val (.int p0), .val (.int p1), .val (.int p2), .val (.int p3), .val (.int (1 : Int32)), .val (.int (1 : Int32)), .unset, .unset, .unset, .unset, .unset, .unset] [(.int p0)])) _
          refine XS.i2dS X0.here hx rfl (hb hby at_27) rfl rfl ?_
          show Steps p.tables e below (s₁.setTop (mkF m 28 #[.val (.int p0), .val (.int p1), .val (.int p2), .val (.int p3), .val (.int (1 : Int32)), .val (.int (1 : Int32)), .unset, .unset, .unset, .unset, .unset, .unset] [(.double (FP.i2d p0))])) _
          refine X0.ldc2DoubleC hx hown (mvT hZ (hw _ (List.mem_of_getElem? (i := 0) rfl))) (g := (mkF m 28 #[.val (.int p0), .val (.int p1), .val (.int p2), .val (.int p3), .val (.int (1 : Int32)), .val (.int (1 : Int32)), .unset, .unset, .unset, .unset, .unset, .unset] [(.double (FP.i2d p0))])) rfl (hb hby at_28) _ ?_
          show Steps p.tables e below (s₁.setTop (mkF m 31 #[.val (.int p0), .val (.int p1), .val (.int p2), .val (.int p3), .val (.int (1 : Int32)), .val (.int (1 : Int32)), .unset, .unset, .unset, .unset, .unset, .unset] [(.double (4616189618054758400 : UInt64)), (.double (FP.i2d p0))])) _
          refine XS.ddivS X0.here hx rfl (hb hby at_31) rfl (own_nn p0) rfl ?_
          show Steps p.tables e below (s₁.setTop (mkF m 32 #[.val (.int p0), .val (.int p1), .val (.int p2), .val (.int p3), .val (.int (1 : Int32)), .val (.int (1 : Int32)), .unset, .unset, .unset, .unset, .unset, .unset] [(.double (FP.ddiv (FP.i2d p0) (4616189618054758400 : UInt64)))])) _
          refine XS.dstore X0.here hx rfl (hb hby at_32) rfl (l' := #[.val (.int p0), .val (.int p1), .val (.int p2), .val (.int p3), .val (.int (1 : Int32)), .val (.int (1 : Int32)), .val (.double (FP.ddiv (FP.i2d p0) (4616189618054758400 : UInt64))), .second, .unset, .unset, .unset, .unset]) rfl ?_
          show Steps p.tables e below (s₁.setTop (mkF m 34 #[.val (.int p0), .val (.int p1), .val (.int p2), .val (.int p3), .val (.int (1 : Int32)), .val (.int (1 : Int32)), .val (.double (FP.ddiv (FP.i2d p0) (4616189618054758400 : UInt64))), .second, .unset, .unset, .unset, .unset] [])) _
          refine XS.iloadN X0.here hx rfl (hb hby at_34) rfl ?_
          show Steps p.tables e below (s₁.setTop (mkF m 35 #[.val (.int p0), .val (.int p1), .val (.int p2), .val (.int p3), .val (.int (1 : Int32)), .val (.int (1 : Int32)), .val (.double (FP.ddiv (FP.i2d p0) (4616189618054758400 : UInt64))), .second, .unset, .unset, .unset, .unset] [(.int p1)])) _
          refine XS.i2dS X0.here hx rfl (hb hby at_35) rfl rfl ?_
          show Steps p.tables e below (s₁.setTop (mkF m 36 #[.val (.int p0), .val (.int p1), .val (.int p2), .val (.int p3), .val (.int (1 : Int32)), .val (.int (1 : Int32)), .val (.double (FP.ddiv (FP.i2d p0) (4616189618054758400 : UInt64))), .second, .unset, .unset, .unset, .unset] [(.double (FP.i2d p1))])) _
          refine X0.ldc2DoubleC hx hown (mvT hZ (hw _ (List.mem_of_getElem? (i := 0) rfl))) (g := (mkF m 36 #[.val (.int p0), .val (.int p1), .val (.int p2), .val (.int p3), .val (.int (1 : Int32)), .val (.int (1 : Int32)), .val (.double (FP.ddiv (FP.i2d p0) (4616189618054758400 : UInt64))), .second, .unset, .unset, .unset, .unset] [(.double (FP.i2d p1))])) rfl (hb hby at_36) _ ?_
          show Steps p.tables e below (s₁.setTop (mkF m 39 #[.val (.int p0), .val (.int p1), .val (.int p2), .val (.int p3), .val (.int (1 : Int32)), .val (.int (1 : Int32)), .val (.double (FP.ddiv (FP.i2d p0) (4616189618054758400 : UInt64))), .second, .unset, .unset, .unset, .unset] [(.double (4616189618054758400 : UInt64)), (.double (FP.i2d p1))])) _
          refine XS.ddivS X0.here hx rfl (hb hby at_39) rfl (own_nn p1) rfl ?_
          show Steps p.tables e below (s₁.setTop (mkF m 40 #[.val (.int p0), .val (.int p1), .val (.int p2), .val (.int p3), .val (.int (1 : Int32)), .val (.int (1 : Int32)), .val (.double (FP.ddiv (FP.i2d p0) (4616189618054758400 : UInt64))), .second, .unset, .unset, .unset, .unset] [(.double (FP.ddiv (FP.i2d p1) (4616189618054758400 : UInt64)))])) _
          refine XS.dstore X0.here hx rfl (hb hby at_40) rfl (l' := #[.val (.int p0), .val (.int p1), .val (.int p2), .val (.int p3), .val (.int (1 : Int32)), .val (.int (1 : Int32)), .val (.double (FP.ddiv (FP.i2d p0) (4616189618054758400 : UInt64))), .second, .val (.double (FP.ddiv (FP.i2d p1) (4616189618054758400 : UInt64))), .second, .unset, .unset]) rfl ?_
          show Steps p.tables e below (s₁.setTop (mkF m 42 #[.val (.int p0), .val (.int p1), .val (.int p2), .val (.int p3), .val (.int (1 : Int32)), .val (.int (1 : Int32)), .val (.double (FP.ddiv (FP.i2d p0) (4616189618054758400 : UInt64))), .second, .val (.double (FP.ddiv (FP.i2d p1) (4616189618054758400 : UInt64))), .second, .unset, .unset] [])) _
          refine st23 _ ?_
          show Steps p.tables e below (T23.setTop (mkF m 45 #[.val (.int p0), .val (.int p1), .val (.int p2), .val (.int p3), .val (.int (1 : Int32)), .val (.int (1 : Int32)), .val (.double (FP.ddiv (FP.i2d p0) (4616189618054758400 : UInt64))), .second, .val (.double (FP.ddiv (FP.i2d p1) (4616189618054758400 : UInt64))), .second, .unset, .unset] [(.ref fa23)])) _
          refine XS.dup X23.here hx rfl (hb hby at_45) rfl rfl ?_
          show Steps p.tables e below (T23.setTop (mkF m 46 #[.val (.int p0), .val (.int p1), .val (.int p2), .val (.int p3), .val (.int (1 : Int32)), .val (.int (1 : Int32)), .val (.double (FP.ddiv (FP.i2d p0) (4616189618054758400 : UInt64))), .second, .val (.double (FP.ddiv (FP.i2d p1) (4616189618054758400 : UInt64))), .second, .unset, .unset] [(.ref fa23), (.ref fa23)])) _
          refine XS.aconstNull X23.here hx rfl (hb hby at_46) ?_
          show Steps p.tables e below (T23.setTop (mkF m 47 #[.val (.int p0), .val (.int p1), .val (.int p2), .val (.int p3), .val (.int (1 : Int32)), .val (.int (1 : Int32)), .val (.double (FP.ddiv (FP.i2d p0) (4616189618054758400 : UInt64))), .second, .val (.double (FP.ddiv (FP.i2d p1) (4616189618054758400 : UInt64))), .second, .unset, .unset] [.null, (.ref fa23), (.ref fa23)])) _
          refine XS.aconstNull X23.here hx rfl (hb hby at_47) ?_
          show Steps p.tables e below (T23.setTop (mkF m 48 #[.val (.int p0), .val (.int p1), .val (.int p2), .val (.int p3), .val (.int (1 : Int32)), .val (.int (1 : Int32)), .val (.double (FP.ddiv (FP.i2d p0) (4616189618054758400 : UInt64))), .second, .val (.double (FP.ddiv (FP.i2d p1) (4616189618054758400 : UInt64))), .second, .unset, .unset] [.null, .null, (.ref fa23), (.ref fa23)])) _
          refine XS.dload X23.here hx rfl (hb hby at_48) rfl ?_
          show Steps p.tables e below (T23.setTop (mkF m 50 #[.val (.int p0), .val (.int p1), .val (.int p2), .val (.int p3), .val (.int (1 : Int32)), .val (.int (1 : Int32)), .val (.double (FP.ddiv (FP.i2d p0) (4616189618054758400 : UInt64))), .second, .val (.double (FP.ddiv (FP.i2d p1) (4616189618054758400 : UInt64))), .second, .unset, .unset] [(.double (FP.ddiv (FP.i2d p0) (4616189618054758400 : UInt64))), .null, .null, (.ref fa23), (.ref fa23)])) _
          refine XS.dload X23.here hx rfl (hb hby at_50) rfl ?_
          show Steps p.tables e below (T23.setTop (mkF m 52 #[.val (.int p0), .val (.int p1), .val (.int p2), .val (.int p3), .val (.int (1 : Int32)), .val (.int (1 : Int32)), .val (.double (FP.ddiv (FP.i2d p0) (4616189618054758400 : UInt64))), .second, .val (.double (FP.ddiv (FP.i2d p1) (4616189618054758400 : UInt64))), .second, .unset, .unset] [(.double (FP.ddiv (FP.i2d p1) (4616189618054758400 : UInt64))), (.double (FP.ddiv (FP.i2d p0) (4616189618054758400 : UInt64))), .null, .null, (.ref fa23), (.ref fa23)])) _
          refine XS.iloadN X23.here hx rfl (hb hby at_52) rfl ?_
          show Steps p.tables e below (T23.setTop (mkF m 53 #[.val (.int p0), .val (.int p1), .val (.int p2), .val (.int p3), .val (.int (1 : Int32)), .val (.int (1 : Int32)), .val (.double (FP.ddiv (FP.i2d p0) (4616189618054758400 : UInt64))), .second, .val (.double (FP.ddiv (FP.i2d p1) (4616189618054758400 : UInt64))), .second, .unset, .unset] [(.int p2), (.double (FP.ddiv (FP.i2d p1) (4616189618054758400 : UInt64))), (.double (FP.ddiv (FP.i2d p0) (4616189618054758400 : UInt64))), .null, .null, (.ref fa23), (.ref fa23)])) _
          refine XS.iload X23.here hx rfl (hb hby at_53) rfl ?_
          show Steps p.tables e below (T23.setTop (mkF m 55 #[.val (.int p0), .val (.int p1), .val (.int p2), .val (.int p3), .val (.int (1 : Int32)), .val (.int (1 : Int32)), .val (.double (FP.ddiv (FP.i2d p0) (4616189618054758400 : UInt64))), .second, .val (.double (FP.ddiv (FP.i2d p1) (4616189618054758400 : UInt64))), .second, .unset, .unset] [(.int (1 : Int32)), (.int p2), (.double (FP.ddiv (FP.i2d p1) (4616189618054758400 : UInt64))), (.double (FP.ddiv (FP.i2d p0) (4616189618054758400 : UInt64))), .null, .null, (.ref fa23), (.ref fa23)])) _
          refine XS.iload X23.here hx rfl (hb hby at_55) rfl ?_
          show Steps p.tables e below (T23.setTop (mkF m 57 #[.val (.int p0), .val (.int p1), .val (.int p2), .val (.int p3), .val (.int (1 : Int32)), .val (.int (1 : Int32)), .val (.double (FP.ddiv (FP.i2d p0) (4616189618054758400 : UInt64))), .second, .val (.double (FP.ddiv (FP.i2d p1) (4616189618054758400 : UInt64))), .second, .unset, .unset] [(.int (1 : Int32)), (.int (1 : Int32)), (.int p2), (.double (FP.ddiv (FP.i2d p1) (4616189618054758400 : UInt64))), (.double (FP.ddiv (FP.i2d p0) (4616189618054758400 : UInt64))), .null, .null, (.ref fa23), (.ref fa23)])) _
          refine st24.trans ?_
          show Steps p.tables e below (T24.setTop (mkF m 60 #[.val (.int p0), .val (.int p1), .val (.int p2), .val (.int p3), .val (.int (1 : Int32)), .val (.int (1 : Int32)), .val (.double (FP.ddiv (FP.i2d p0) (4616189618054758400 : UInt64))), .second, .val (.double (FP.ddiv (FP.i2d p1) (4616189618054758400 : UInt64))), .second, .unset, .unset] [(.ref fa23)])) _
          refine XS.astore X24.here hx rfl (hb hby at_60) rfl rfl (l' := #[.val (.int p0), .val (.int p1), .val (.int p2), .val (.int p3), .val (.int (1 : Int32)), .val (.int (1 : Int32)), .val (.double (FP.ddiv (FP.i2d p0) (4616189618054758400 : UInt64))), .second, .val (.double (FP.ddiv (FP.i2d p1) (4616189618054758400 : UInt64))), .second, .val (.ref fa23), .unset]) rfl ?_
          show Steps p.tables e below (T24.setTop (mkF m 62 #[.val (.int p0), .val (.int p1), .val (.int p2), .val (.int p3), .val (.int (1 : Int32)), .val (.int (1 : Int32)), .val (.double (FP.ddiv (FP.i2d p0) (4616189618054758400 : UInt64))), .second, .val (.double (FP.ddiv (FP.i2d p1) (4616189618054758400 : UInt64))), .second, .val (.ref fa23), .unset] [])) _
          refine XS.iloadN X24.here hx rfl (hb hby at_62) rfl ?_
          show Steps p.tables e below (T24.setTop (mkF m 63 #[.val (.int p0), .val (.int p1), .val (.int p2), .val (.int p3), .val (.int (1 : Int32)), .val (.int (1 : Int32)), .val (.double (FP.ddiv (FP.i2d p0) (4616189618054758400 : UInt64))), .second, .val (.double (FP.ddiv (FP.i2d p1) (4616189618054758400 : UInt64))), .second, .val (.ref fa23), .unset] [(.int p0)])) _
          refine XS.ifYes X24.here hx rfl (pc0 := 63) (pc' := 72) rfl (hb hby at_63) rfl ((if0 _ _).trans (tlt hc25).2.2.1) (by decide) (by decide) ?_
          show Steps p.tables e below (T24.setTop (mkF m 72 #[.val (.int p0), .val (.int p1), .val (.int p2), .val (.int p3), .val (.int (1 : Int32)), .val (.int (1 : Int32)), .val (.double (FP.ddiv (FP.i2d p0) (4616189618054758400 : UInt64))), .second, .val (.double (FP.ddiv (FP.i2d p1) (4616189618054758400 : UInt64))), .second, .val (.ref fa23), .unset] [])) _
          refine XS.iload X24.here hx rfl (hb hby at_72) rfl ?_
          show Steps p.tables e below (T24.setTop (mkF m 74 #[.val (.int p0), .val (.int p1), .val (.int p2), .val (.int p3), .val (.int (1 : Int32)), .val (.int (1 : Int32)), .val (.double (FP.ddiv (FP.i2d p0) (4616189618054758400 : UInt64))), .second, .val (.double (FP.ddiv (FP.i2d p1) (4616189618054758400 : UInt64))), .second, .val (.ref fa23), .unset] [(.int (1 : Int32))])) _
          refine XS.ifNo X24.here hx rfl (hb hby at_74) rfl ((if0 _ _).trans (feq (by decide : ¬ ((1 : Int32) = (0 : Int32)))).1) ?_
          show Steps p.tables e below (T24.setTop (mkF m 77 #[.val (.int p0), .val (.int p1), .val (.int p2), .val (.int p3), .val (.int (1 : Int32)), .val (.int (1 : Int32)), .val (.double (FP.ddiv (FP.i2d p0) (4616189618054758400 : UInt64))), .second, .val (.double (FP.ddiv (FP.i2d p1) (4616189618054758400 : UInt64))), .second, .val (.ref fa23), .unset] [])) _
          refine XS.iconst X24.here hx rfl (hb hby at_77) ?_
          show Steps p.tables e below (T24.setTop (mkF m 78 #[.val (.int p0), .val (.int p1), .val (.int p2), .val (.int p3), .val (.int (1 : Int32)), .val (.int (1 : Int32)), .val (.double (FP.ddiv (FP.i2d p0) (4616189618054758400 : UInt64))), .second, .val (.double (FP.ddiv (FP.i2d p1) (4616189618054758400 : UInt64))), .second, .val (.ref fa23), .unset] [(.int (0 : Int32))])) _
          refine XS.istore X24.here hx rfl (hb hby at_78) rfl (l' := #[.val (.int p0), .val (.int p1), .val (.int p2), .val (.int p3), .val (.int (1 : Int32)), .val (.int (1 : Int32)), .val (.double (FP.ddiv (FP.i2d p0) (4616189618054758400 : UInt64))), .second, .val (.double (FP.ddiv (FP.i2d p1) (4616189618054758400 : UInt64))), .second, .val (.ref fa23), .val (.int (0 : Int32))]) rfl ?_
          show Steps p.tables e below (T24.setTop (mkF m 80 #[.val (.int p0), .val (.int p1), .val (.int p2), .val (.int p3), .val (.int (1 : Int32)), .val (.int (1 : Int32)), .val (.double (FP.ddiv (FP.i2d p0) (4616189618054758400 : UInt64))), .second, .val (.double (FP.ddiv (FP.i2d p1) (4616189618054758400 : UInt64))), .second, .val (.ref fa23), .val (.int (0 : Int32))] [])) _
          refine XS.goto X24.here hx rfl (pc0 := 80) (pc' := 115) rfl (hb hby at_80) (by decide) (by decide) ?_
          show Steps p.tables e below (T24.setTop (mkF m 115 #[.val (.int p0), .val (.int p1), .val (.int p2), .val (.int p3), .val (.int (1 : Int32)), .val (.int (1 : Int32)), .val (.double (FP.ddiv (FP.i2d p0) (4616189618054758400 : UInt64))), .second, .val (.double (FP.ddiv (FP.i2d p1) (4616189618054758400 : UInt64))), .second, .val (.ref fa23), .val (.int (0 : Int32))] [])) _
          refine XS.aload X24.here hx rfl (hb hby at_115) rfl rfl ?_
          show Steps p.tables e below (T24.setTop (mkF m 117 #[.val (.int p0), .val (.int p1), .val (.int p2), .val (.int p3), .val (.int (1 : Int32)), .val (.int (1 : Int32)), .val (.double (FP.ddiv (FP.i2d p0) (4616189618054758400 : UInt64))), .second, .val (.double (FP.ddiv (FP.i2d p1) (4616189618054758400 : UInt64))), .second, .val (.ref fa23), .val (.int (0 : Int32))] [(.ref fa23)])) _
          refine st26.trans ?_
          show Steps p.tables e below (T26.setTop (mkF m 120 #[.val (.int p0), .val (.int p1), .val (.int p2), .val (.int p3), .val (.int (1 : Int32)), .val (.int (1 : Int32)), .val (.double (FP.ddiv (FP.i2d p0) (4616189618054758400 : UInt64))), .second, .val (.double (FP.ddiv (FP.i2d p1) (4616189618054758400 : UInt64))), .second, .val (.ref fa23), .val (.int (0 : Int32))] [(.int (own_need (FP.ddiv (FP.i2d p0) (4616189618054758400 : UInt64)) (FP.ddiv (FP.i2d p1) (4616189618054758400 : UInt64)) p2 (nar .boolean (1 : Int32)) (nar .boolean (1 : Int32))))])) _
          refine XS.iload X26.here hx rfl (hb hby at_120) rfl ?_
          show Steps p.tables e below (T26.setTop (mkF m 122 #[.val (.int p0), .val (.int p1), .val (.int p2), .val (.int p3), .val (.int (1 : Int32)), .val (.int (1 : Int32)), .val (.double (FP.ddiv (FP.i2d p0) (4616189618054758400 : UInt64))), .second, .val (.double (FP.ddiv (FP.i2d p1) (4616189618054758400 : UInt64))), .second, .val (.ref fa23), .val (.int (0 : Int32))] [(.int (0 : Int32)), (.int (own_need (FP.ddiv (FP.i2d p0) (4616189618054758400 : UInt64)) (FP.ddiv (FP.i2d p1) (4616189618054758400 : UInt64)) p2 (nar .boolean (1 : Int32)) (nar .boolean (1 : Int32))))])) _
          refine XS.icmpNo X26.here hx rfl (hb hby at_122) rfl (teq (by simp [own_need, own_pos, own_nar0, own_nar1, hc1, hc17, hc25] : (own_need (FP.ddiv (FP.i2d p0) (4616189618054758400 : UInt64)) (FP.ddiv (FP.i2d p1) (4616189618054758400 : UInt64)) p2 (nar .boolean (1 : Int32)) (nar .boolean (1 : Int32))) = (0 : Int32))).2 ?_
          show Steps p.tables e below (T26.setTop (mkF m 125 #[.val (.int p0), .val (.int p1), .val (.int p2), .val (.int p3), .val (.int (1 : Int32)), .val (.int (1 : Int32)), .val (.double (FP.ddiv (FP.i2d p0) (4616189618054758400 : UInt64))), .second, .val (.double (FP.ddiv (FP.i2d p1) (4616189618054758400 : UInt64))), .second, .val (.ref fa23), .val (.int (0 : Int32))] [])) _
          refine XS.iconst X26.here hx rfl (hb hby at_125) ?_
          show Steps p.tables e below (T26.setTop (mkF m 126 #[.val (.int p0), .val (.int p1), .val (.int p2), .val (.int p3), .val (.int (1 : Int32)), .val (.int (1 : Int32)), .val (.double (FP.ddiv (FP.i2d p0) (4616189618054758400 : UInt64))), .second, .val (.double (FP.ddiv (FP.i2d p1) (4616189618054758400 : UInt64))), .second, .val (.ref fa23), .val (.int (0 : Int32))] [(.int (1 : Int32))])) _
          refine XS.goto X26.here hx rfl (pc0 := 126) (pc' := 130) rfl (hb hby at_126) (by decide) (by decide) ?_
          show Steps p.tables e below (T26.setTop (mkF m 130 #[.val (.int p0), .val (.int p1), .val (.int p2), .val (.int p3), .val (.int (1 : Int32)), .val (.int (1 : Int32)), .val (.double (FP.ddiv (FP.i2d p0) (4616189618054758400 : UInt64))), .second, .val (.double (FP.ddiv (FP.i2d p1) (4616189618054758400 : UInt64))), .second, .val (.ref fa23), .val (.int (0 : Int32))] [(.int (1 : Int32))])) _
          exact retN X26 hx (t := .boolean) Bd.returns (by simp) (hb hby at_130) hr
        · show Q_rm0 Z p0 p1 p2 p3 h0 n0 _ T26.heap _
          rw [e26]
          exact ⟨rfl, N26, KK24⟩
      · obtain ⟨cq27, kq27, q27a, q27b, q27c⟩ := isOf hZ rfl Q24_0
        obtain ⟨_, _, ⟨T27, L27, k27, n27⟩, -, X27, ⟨Lc27, hQ27, l27, y27, z27⟩, st27⟩ := X24.virtualBack hx (y := (⟨"com/example/musterpoint/musterpoint/world/CivilianSighting", "needsHelp", "()Z"⟩ : MethodName)) (z := (⟨"com/example/musterpoint/musterpoint/world/CivilianSighting", "needsHelp", "()Z"⟩ : MethodName)) hown (mvT hZ (hw _ (List.mem_of_getElem? (i := 29) rfl))) (mvT hZ (hw _ (List.mem_of_getElem? (i := 30) rfl))) (notFace_of_selects (args := #[]) (mvT hZ (hw _ (List.mem_of_getElem? (i := 32) rfl)))) (mvT hZ (hw _ (List.mem_of_getElem? (i := 32) rfl))) (mvT hZ (hw _ (List.mem_of_getElem? (i := 31) rfl))) (by decide) (backOf (W := 0) (rm4 l Z a0 hw [] fa23 (FP.ddiv (FP.i2d p0) (4616189618054758400 : UInt64)) (FP.ddiv (FP.i2d p1) (4616189618054758400 : UInt64)) p2 (nar .boolean (1 : Int32)) (nar .boolean (1 : Int32)) T24.heap n0 O24 Q24_1 Q24_2 Q24_3 Q24_4 Q24_5) hZ (hw _ (List.mem_of_getElem? (i := 33) rfl)) (hw _ (List.mem_of_getElem? (i := 3) rfl)) (by decide) (by decide)) q27a q27c (g := (mkF m 117 #[.val (.int p0), .val (.int p1), .val (.int p2), .val (.int p3), .val (.int (1 : Int32)), .val (.int (1 : Int32)), .val (.double (FP.ddiv (FP.i2d p0) (4616189618054758400 : UInt64))), .second, .val (.double (FP.ddiv (FP.i2d p1) (4616189618054758400 : UInt64))), .second, .val (.ref fa23), .val (.int (0 : Int32))] [(.ref fa23)])) rfl (by rw [hml]; rfl) (Steps.refl _) (argsL := []) (rest := []) (lenOf pd_2 rfl) rfl (by show 2 * 0 + _ ≤ _; exact Nat.le_of_eq rfl) (hb hby at_117) (fun _ _ => ⟨rfl, rfl, (by decide : 1 + 0 ≤ _), (by decide : 7 + 0 ≤ _)⟩)
        dsimp only [Pt.U, Pt.locs, Pt.cells, Pt.slots] at X27 l27 y27 z27 st27 hQ27
        subst l27 y27 z27
        obtain ⟨rfl, N27q, e27⟩ := hQ27
        have N27 := Fr.app N24 N27q
        obtain ⟨fs, hr, hrun, hended, hW, hsame⟩ := X27.leave (v := some (.int (1 : Int32))) (fun h => by rw [Bd.returns] at h; cases h)
        refine ⟨_, _, pre0 _ ?_, hrun, hended, _, _, rfl, ?_, ⟨_, rfl⟩, hW, hsame.mono (by decide) (by decide)⟩
        · show Steps p.tables e below (s₁.setTop (mkF m 0 #[.val (.int p0), .val (.int p1), .val (.int p2), .val (.int p3), .unset, .unset, .unset, .unset, .unset, .unset, .unset, .unset] [])) _
          refine XS.iloadN X0.here hx rfl (hb hby at_0) rfl ?_
          show Steps p.tables e below (s₁.setTop (mkF m 1 #[.val (.int p0), .val (.int p1), .val (.int p2), .val (.int p3), .unset, .unset, .unset, .unset, .unset, .unset, .unset, .unset] [(.int p3)])) _
          refine XS.iconst X0.here hx rfl (hb hby at_1) ?_
          show Steps p.tables e below (s₁.setTop (mkF m 2 #[.val (.int p0), .val (.int p1), .val (.int p2), .val (.int p3), .unset, .unset, .unset, .unset, .unset, .unset, .unset, .unset] [(.int (1 : Int32)), (.int p3)])) _
          refine XS.iand X0.here hx rfl (hb hby at_2) rfl ?_
          show Steps p.tables e below (s₁.setTop (mkF m 3 #[.val (.int p0), .val (.int p1), .val (.int p2), .val (.int p3), .unset, .unset, .unset, .unset, .unset, .unset, .unset, .unset] [(.int (p3 &&& (1 : Int32)))])) _
          refine XS.ifNo X0.here hx rfl (hb hby at_3) rfl ((if0 _ _).trans (feq hc1).1) ?_
          show Steps p.tables e below (s₁.setTop (mkF m 6 #[.val (.int p0), .val (.int p1), .val (.int p2), .val (.int p3), .unset, .unset, .unset, .unset, .unset, .unset, .unset, .unset] [])) _
          refine XS.iconst X0.here hx rfl (hb hby at_6) ?_
          show Steps p.tables e below (s₁.setTop (mkF m 7 #[.val (.int p0), .val (.int p1), .val (.int p2), .val (.int p3), .unset, .unset, .unset, .unset, .unset, .unset, .unset, .unset] [(.int (1 : Int32))])) _
          refine XS.goto X0.here hx rfl (pc0 := 7) (pc' := 11) rfl (hb hby at_7) (by decide) (by decide) ?_
          show Steps p.tables e below (s₁.setTop (mkF m 11 #[.val (.int p0), .val (.int p1), .val (.int p2), .val (.int p3), .unset, .unset, .unset, .unset, .unset, .unset, .unset, .unset] [(.int (1 : Int32))])) _
          refine XS.istore X0.here hx rfl (hb hby at_11) rfl (l' := #[.val (.int p0), .val (.int p1), .val (.int p2), .val (.int p3), .val (.int (1 : Int32)), .unset, .unset, .unset, .unset, .unset, .unset, .unset]) rfl ?_
          show Steps p.tables e below (s₁.setTop (mkF m 13 #[.val (.int p0), .val (.int p1), .val (.int p2), .val (.int p3), .val (.int (1 : Int32)), .unset, .unset, .unset, .unset, .unset, .unset, .unset] [])) _
          refine XS.iloadN X0.here hx rfl (hb hby at_13) rfl ?_
          show Steps p.tables e below (s₁.setTop (mkF m 14 #[.val (.int p0), .val (.int p1), .val (.int p2), .val (.int p3), .val (.int (1 : Int32)), .unset, .unset, .unset, .unset, .unset, .unset, .unset] [(.int p3)])) _
          refine XS.iconst X0.here hx rfl (hb hby at_14) ?_
          show Steps p.tables e below (s₁.setTop (mkF m 15 #[.val (.int p0), .val (.int p1), .val (.int p2), .val (.int p3), .val (.int (1 : Int32)), .unset, .unset, .unset, .unset, .unset, .unset, .unset] [(.int (2 : Int32)), (.int p3)])) _
          refine XS.iand X0.here hx rfl (hb hby at_15) rfl ?_
          show Steps p.tables e below (s₁.setTop (mkF m 16 #[.val (.int p0), .val (.int p1), .val (.int p2), .val (.int p3), .val (.int (1 : Int32)), .unset, .unset, .unset, .unset, .unset, .unset, .unset] [(.int (p3 &&& (2 : Int32)))])) _
          refine XS.ifNo X0.here hx rfl (hb hby at_16) rfl ((if0 _ _).trans (feq hc17).1) ?_
          show Steps p.tables e below (s₁.setTop (mkF m 19 #[.val (.int p0), .val (.int p1), .val (.int p2), .val (.int p3), .val (.int (1 : Int32)), .unset, .unset, .unset, .unset, .unset, .unset, .unset] [])) _
          refine XS.iconst X0.here hx rfl (hb hby at_19) ?_
          show Steps p.tables e below (s₁.setTop (mkF m 20 #[.val (.int p0), .val (.int p1), .val (.int p2), .val (.int p3), .val (.int (1 : Int32)), .unset, .unset, .unset, .unset, .unset, .unset, .unset] [(.int (1 : Int32))])) _
          refine XS.goto X0.here hx rfl (pc0 := 20) (pc' := 24) rfl (hb hby at_20) (by decide) (by decide) ?_
          show Steps p.tables e below (s₁.setTop (mkF m 24 #[.val (.int p0), .val (.int p1), .val (.int p2), .val (.int p3), .val (.int (1 : Int32)), .unset, .unset, .unset, .unset, .unset, .unset, .unset] [(.int (1 : Int32))])) _
          refine XS.istore X0.here hx rfl (hb hby at_24) rfl (l' := #[.val (.int p0), .val (.int p1), .val (.int p2), .val (.int p3), .val (.int (1 : Int32)), .val (.int (1 : Int32)), .unset, .unset, .unset, .unset, .unset, .unset]) rfl ?_
          show Steps p.tables e below (s₁.setTop (mkF m 26 #[.val (.int p0), .val (.int p1), .val (.int p2), .val (.int p3), .val (.int (1 : Int32)), .val (.int (1 : Int32)), .unset, .unset, .unset, .unset, .unset, .unset] [])) _
          refine XS.iloadN X0.here hx rfl (hb hby at_26) rfl ?_
          show Steps p.tables e below (s₁.setTop (mkF m 27 #[.val (.int p0), .val (.int p1), .val (.int p2), .val (.int p3), .val (.int (1 : Int32)), .val (.int (1 : Int32)), .unset, .unset, .unset, .unset, .unset, .unset] [(.int p0)])) _
          refine XS.i2dS X0.here hx rfl (hb hby at_27) rfl rfl ?_
          show Steps p.tables e below (s₁.setTop (mkF m 28 #[.val (.int p0), .val (.int p1), .val (.int p2), .val (.int p3), .val (.int (1 : Int32)), .val (.int (1 : Int32)), .unset, .unset, .unset, .unset, .unset, .unset] [(.double (FP.i2d p0))])) _
          refine X0.ldc2DoubleC hx hown (mvT hZ (hw _ (List.mem_of_getElem? (i := 0) rfl))) (g := (mkF m 28 #[.val (.int p0), .val (.int p1), .val (.int p2), .val (.int p3), .val (.int (1 : Int32)), .val (.int (1 : Int32)), .unset, .unset, .unset, .unset, .unset, .unset] [(.double (FP.i2d p0))])) rfl (hb hby at_28) _ ?_
          show Steps p.tables e below (s₁.setTop (mkF m 31 #[.val (.int p0), .val (.int p1), .val (.int p2), .val (.int p3), .val (.int (1 : Int32)), .val (.int (1 : Int32)), .unset, .unset, .unset, .unset, .unset, .unset] [(.double (4616189618054758400 : UInt64)), (.double (FP.i2d p0))])) _
          refine XS.ddivS X0.here hx rfl (hb hby at_31) rfl (own_nn p0) rfl ?_
          show Steps p.tables e below (s₁.setTop (mkF m 32 #[.val (.int p0), .val (.int p1), .val (.int p2), .val (.int p3), .val (.int (1 : Int32)), .val (.int (1 : Int32)), .unset, .unset, .unset, .unset, .unset, .unset] [(.double (FP.ddiv (FP.i2d p0) (4616189618054758400 : UInt64)))])) _
          refine XS.dstore X0.here hx rfl (hb hby at_32) rfl (l' := #[.val (.int p0), .val (.int p1), .val (.int p2), .val (.int p3), .val (.int (1 : Int32)), .val (.int (1 : Int32)), .val (.double (FP.ddiv (FP.i2d p0) (4616189618054758400 : UInt64))), .second, .unset, .unset, .unset, .unset]) rfl ?_
          show Steps p.tables e below (s₁.setTop (mkF m 34 #[.val (.int p0), .val (.int p1), .val (.int p2), .val (.int p3), .val (.int (1 : Int32)), .val (.int (1 : Int32)), .val (.double (FP.ddiv (FP.i2d p0) (4616189618054758400 : UInt64))), .second, .unset, .unset, .unset, .unset] [])) _
          refine XS.iloadN X0.here hx rfl (hb hby at_34) rfl ?_
          show Steps p.tables e below (s₁.setTop (mkF m 35 #[.val (.int p0), .val (.int p1), .val (.int p2), .val (.int p3), .val (.int (1 : Int32)), .val (.int (1 : Int32)), .val (.double (FP.ddiv (FP.i2d p0) (4616189618054758400 : UInt64))), .second, .unset, .unset, .unset, .unset] [(.int p1)])) _
          refine XS.i2dS X0.here hx rfl (hb hby at_35) rfl rfl ?_
          show Steps p.tables e below (s₁.setTop (mkF m 36 #[.val (.int p0), .val (.int p1), .val (.int p2), .val (.int p3), .val (.int (1 : Int32)), .val (.int (1 : Int32)), .val (.double (FP.ddiv (FP.i2d p0) (4616189618054758400 : UInt64))), .second, .unset, .unset, .unset, .unset] [(.double (FP.i2d p1))])) _
          refine X0.ldc2DoubleC hx hown (mvT hZ (hw _ (List.mem_of_getElem? (i := 0) rfl))) (g := (mkF m 36 #[.val (.int p0), .val (.int p1), .val (.int p2), .val (.int p3), .val (.int (1 : Int32)), .val (.int (1 : Int32)), .val (.double (FP.ddiv (FP.i2d p0) (4616189618054758400 : UInt64))), .second, .unset, .unset, .unset, .unset] [(.double (FP.i2d p1))])) rfl (hb hby at_36) _ ?_
          show Steps p.tables e below (s₁.setTop (mkF m 39 #[.val (.int p0), .val (.int p1), .val (.int p2), .val (.int p3), .val (.int (1 : Int32)), .val (.int (1 : Int32)), .val (.double (FP.ddiv (FP.i2d p0) (4616189618054758400 : UInt64))), .second, .unset, .unset, .unset, .unset] [(.double (4616189618054758400 : UInt64)), (.double (FP.i2d p1))])) _
          refine XS.ddivS X0.here hx rfl (hb hby at_39) rfl (own_nn p1) rfl ?_
          show Steps p.tables e below (s₁.setTop (mkF m 40 #[.val (.int p0), .val (.int p1), .val (.int p2), .val (.int p3), .val (.int (1 : Int32)), .val (.int (1 : Int32)), .val (.double (FP.ddiv (FP.i2d p0) (4616189618054758400 : UInt64))), .second, .unset, .unset, .unset, .unset] [(.double (FP.ddiv (FP.i2d p1) (4616189618054758400 : UInt64)))])) _
          refine XS.dstore X0.here hx rfl (hb hby at_40) rfl (l' := #[.val (.int p0), .val (.int p1), .val (.int p2), .val (.int p3), .val (.int (1 : Int32)), .val (.int (1 : Int32)), .val (.double (FP.ddiv (FP.i2d p0) (4616189618054758400 : UInt64))), .second, .val (.double (FP.ddiv (FP.i2d p1) (4616189618054758400 : UInt64))), .second, .unset, .unset]) rfl ?_
          show Steps p.tables e below (s₁.setTop (mkF m 42 #[.val (.int p0), .val (.int p1), .val (.int p2), .val (.int p3), .val (.int (1 : Int32)), .val (.int (1 : Int32)), .val (.double (FP.ddiv (FP.i2d p0) (4616189618054758400 : UInt64))), .second, .val (.double (FP.ddiv (FP.i2d p1) (4616189618054758400 : UInt64))), .second, .unset, .unset] [])) _
          refine st23 _ ?_
          show Steps p.tables e below (T23.setTop (mkF m 45 #[.val (.int p0), .val (.int p1), .val (.int p2), .val (.int p3), .val (.int (1 : Int32)), .val (.int (1 : Int32)), .val (.double (FP.ddiv (FP.i2d p0) (4616189618054758400 : UInt64))), .second, .val (.double (FP.ddiv (FP.i2d p1) (4616189618054758400 : UInt64))), .second, .unset, .unset] [(.ref fa23)])) _
          refine XS.dup X23.here hx rfl (hb hby at_45) rfl rfl ?_
          show Steps p.tables e below (T23.setTop (mkF m 46 #[.val (.int p0), .val (.int p1), .val (.int p2), .val (.int p3), .val (.int (1 : Int32)), .val (.int (1 : Int32)), .val (.double (FP.ddiv (FP.i2d p0) (4616189618054758400 : UInt64))), .second, .val (.double (FP.ddiv (FP.i2d p1) (4616189618054758400 : UInt64))), .second, .unset, .unset] [(.ref fa23), (.ref fa23)])) _
          refine XS.aconstNull X23.here hx rfl (hb hby at_46) ?_
          show Steps p.tables e below (T23.setTop (mkF m 47 #[.val (.int p0), .val (.int p1), .val (.int p2), .val (.int p3), .val (.int (1 : Int32)), .val (.int (1 : Int32)), .val (.double (FP.ddiv (FP.i2d p0) (4616189618054758400 : UInt64))), .second, .val (.double (FP.ddiv (FP.i2d p1) (4616189618054758400 : UInt64))), .second, .unset, .unset] [.null, (.ref fa23), (.ref fa23)])) _
          refine XS.aconstNull X23.here hx rfl (hb hby at_47) ?_
          show Steps p.tables e below (T23.setTop (mkF m 48 #[.val (.int p0), .val (.int p1), .val (.int p2), .val (.int p3), .val (.int (1 : Int32)), .val (.int (1 : Int32)), .val (.double (FP.ddiv (FP.i2d p0) (4616189618054758400 : UInt64))), .second, .val (.double (FP.ddiv (FP.i2d p1) (4616189618054758400 : UInt64))), .second, .unset, .unset] [.null, .null, (.ref fa23), (.ref fa23)])) _
          refine XS.dload X23.here hx rfl (hb hby at_48) rfl ?_
          show Steps p.tables e below (T23.setTop (mkF m 50 #[.val (.int p0), .val (.int p1), .val (.int p2), .val (.int p3), .val (.int (1 : Int32)), .val (.int (1 : Int32)), .val (.double (FP.ddiv (FP.i2d p0) (4616189618054758400 : UInt64))), .second, .val (.double (FP.ddiv (FP.i2d p1) (4616189618054758400 : UInt64))), .second, .unset, .unset] [(.double (FP.ddiv (FP.i2d p0) (4616189618054758400 : UInt64))), .null, .null, (.ref fa23), (.ref fa23)])) _
          refine XS.dload X23.here hx rfl (hb hby at_50) rfl ?_
          show Steps p.tables e below (T23.setTop (mkF m 52 #[.val (.int p0), .val (.int p1), .val (.int p2), .val (.int p3), .val (.int (1 : Int32)), .val (.int (1 : Int32)), .val (.double (FP.ddiv (FP.i2d p0) (4616189618054758400 : UInt64))), .second, .val (.double (FP.ddiv (FP.i2d p1) (4616189618054758400 : UInt64))), .second, .unset, .unset] [(.double (FP.ddiv (FP.i2d p1) (4616189618054758400 : UInt64))), (.double (FP.ddiv (FP.i2d p0) (4616189618054758400 : UInt64))), .null, .null, (.ref fa23), (.ref fa23)])) _
          refine XS.iloadN X23.here hx rfl (hb hby at_52) rfl ?_
          show Steps p.tables e below (T23.setTop (mkF m 53 #[.val (.int p0), .val (.int p1), .val (.int p2), .val (.int p3), .val (.int (1 : Int32)), .val (.int (1 : Int32)), .val (.double (FP.ddiv (FP.i2d p0) (4616189618054758400 : UInt64))), .second, .val (.double (FP.ddiv (FP.i2d p1) (4616189618054758400 : UInt64))), .second, .unset, .unset] [(.int p2), (.double (FP.ddiv (FP.i2d p1) (4616189618054758400 : UInt64))), (.double (FP.ddiv (FP.i2d p0) (4616189618054758400 : UInt64))), .null, .null, (.ref fa23), (.ref fa23)])) _
          refine XS.iload X23.here hx rfl (hb hby at_53) rfl ?_
          show Steps p.tables e below (T23.setTop (mkF m 55 #[.val (.int p0), .val (.int p1), .val (.int p2), .val (.int p3), .val (.int (1 : Int32)), .val (.int (1 : Int32)), .val (.double (FP.ddiv (FP.i2d p0) (4616189618054758400 : UInt64))), .second, .val (.double (FP.ddiv (FP.i2d p1) (4616189618054758400 : UInt64))), .second, .unset, .unset] [(.int (1 : Int32)), (.int p2), (.double (FP.ddiv (FP.i2d p1) (4616189618054758400 : UInt64))), (.double (FP.ddiv (FP.i2d p0) (4616189618054758400 : UInt64))), .null, .null, (.ref fa23), (.ref fa23)])) _
          refine XS.iload X23.here hx rfl (hb hby at_55) rfl ?_
          show Steps p.tables e below (T23.setTop (mkF m 57 #[.val (.int p0), .val (.int p1), .val (.int p2), .val (.int p3), .val (.int (1 : Int32)), .val (.int (1 : Int32)), .val (.double (FP.ddiv (FP.i2d p0) (4616189618054758400 : UInt64))), .second, .val (.double (FP.ddiv (FP.i2d p1) (4616189618054758400 : UInt64))), .second, .unset, .unset] [(.int (1 : Int32)), (.int (1 : Int32)), (.int p2), (.double (FP.ddiv (FP.i2d p1) (4616189618054758400 : UInt64))), (.double (FP.ddiv (FP.i2d p0) (4616189618054758400 : UInt64))), .null, .null, (.ref fa23), (.ref fa23)])) _
          refine st24.trans ?_
          show Steps p.tables e below (T24.setTop (mkF m 60 #[.val (.int p0), .val (.int p1), .val (.int p2), .val (.int p3), .val (.int (1 : Int32)), .val (.int (1 : Int32)), .val (.double (FP.ddiv (FP.i2d p0) (4616189618054758400 : UInt64))), .second, .val (.double (FP.ddiv (FP.i2d p1) (4616189618054758400 : UInt64))), .second, .unset, .unset] [(.ref fa23)])) _
          refine XS.astore X24.here hx rfl (hb hby at_60) rfl rfl (l' := #[.val (.int p0), .val (.int p1), .val (.int p2), .val (.int p3), .val (.int (1 : Int32)), .val (.int (1 : Int32)), .val (.double (FP.ddiv (FP.i2d p0) (4616189618054758400 : UInt64))), .second, .val (.double (FP.ddiv (FP.i2d p1) (4616189618054758400 : UInt64))), .second, .val (.ref fa23), .unset]) rfl ?_
          show Steps p.tables e below (T24.setTop (mkF m 62 #[.val (.int p0), .val (.int p1), .val (.int p2), .val (.int p3), .val (.int (1 : Int32)), .val (.int (1 : Int32)), .val (.double (FP.ddiv (FP.i2d p0) (4616189618054758400 : UInt64))), .second, .val (.double (FP.ddiv (FP.i2d p1) (4616189618054758400 : UInt64))), .second, .val (.ref fa23), .unset] [])) _
          refine XS.iloadN X24.here hx rfl (hb hby at_62) rfl ?_
          show Steps p.tables e below (T24.setTop (mkF m 63 #[.val (.int p0), .val (.int p1), .val (.int p2), .val (.int p3), .val (.int (1 : Int32)), .val (.int (1 : Int32)), .val (.double (FP.ddiv (FP.i2d p0) (4616189618054758400 : UInt64))), .second, .val (.double (FP.ddiv (FP.i2d p1) (4616189618054758400 : UInt64))), .second, .val (.ref fa23), .unset] [(.int p0)])) _
          refine XS.ifNo X24.here hx rfl (hb hby at_63) rfl ((if0 _ _).trans (flt hc25).2.2.1) ?_
          show Steps p.tables e below (T24.setTop (mkF m 66 #[.val (.int p0), .val (.int p1), .val (.int p2), .val (.int p3), .val (.int (1 : Int32)), .val (.int (1 : Int32)), .val (.double (FP.ddiv (FP.i2d p0) (4616189618054758400 : UInt64))), .second, .val (.double (FP.ddiv (FP.i2d p1) (4616189618054758400 : UInt64))), .second, .val (.ref fa23), .unset] [])) _
          refine XS.iconst X24.here hx rfl (hb hby at_66) ?_
          show Steps p.tables e below (T24.setTop (mkF m 67 #[.val (.int p0), .val (.int p1), .val (.int p2), .val (.int p3), .val (.int (1 : Int32)), .val (.int (1 : Int32)), .val (.double (FP.ddiv (FP.i2d p0) (4616189618054758400 : UInt64))), .second, .val (.double (FP.ddiv (FP.i2d p1) (4616189618054758400 : UInt64))), .second, .val (.ref fa23), .unset] [(.int (0 : Int32))])) _
          refine XS.istore X24.here hx rfl (hb hby at_67) rfl (l' := #[.val (.int p0), .val (.int p1), .val (.int p2), .val (.int p3), .val (.int (1 : Int32)), .val (.int (1 : Int32)), .val (.double (FP.ddiv (FP.i2d p0) (4616189618054758400 : UInt64))), .second, .val (.double (FP.ddiv (FP.i2d p1) (4616189618054758400 : UInt64))), .second, .val (.ref fa23), .val (.int (0 : Int32))]) rfl ?_
          show Steps p.tables e below (T24.setTop (mkF m 69 #[.val (.int p0), .val (.int p1), .val (.int p2), .val (.int p3), .val (.int (1 : Int32)), .val (.int (1 : Int32)), .val (.double (FP.ddiv (FP.i2d p0) (4616189618054758400 : UInt64))), .second, .val (.double (FP.ddiv (FP.i2d p1) (4616189618054758400 : UInt64))), .second, .val (.ref fa23), .val (.int (0 : Int32))] [])) _
          refine XS.goto X24.here hx rfl (pc0 := 69) (pc' := 115) rfl (hb hby at_69) (by decide) (by decide) ?_
          show Steps p.tables e below (T24.setTop (mkF m 115 #[.val (.int p0), .val (.int p1), .val (.int p2), .val (.int p3), .val (.int (1 : Int32)), .val (.int (1 : Int32)), .val (.double (FP.ddiv (FP.i2d p0) (4616189618054758400 : UInt64))), .second, .val (.double (FP.ddiv (FP.i2d p1) (4616189618054758400 : UInt64))), .second, .val (.ref fa23), .val (.int (0 : Int32))] [])) _
          refine XS.aload X24.here hx rfl (hb hby at_115) rfl rfl ?_
          show Steps p.tables e below (T24.setTop (mkF m 117 #[.val (.int p0), .val (.int p1), .val (.int p2), .val (.int p3), .val (.int (1 : Int32)), .val (.int (1 : Int32)), .val (.double (FP.ddiv (FP.i2d p0) (4616189618054758400 : UInt64))), .second, .val (.double (FP.ddiv (FP.i2d p1) (4616189618054758400 : UInt64))), .second, .val (.ref fa23), .val (.int (0 : Int32))] [(.ref fa23)])) _
          refine st27.trans ?_
          show Steps p.tables e below (T27.setTop (mkF m 120 #[.val (.int p0), .val (.int p1), .val (.int p2), .val (.int p3), .val (.int (1 : Int32)), .val (.int (1 : Int32)), .val (.double (FP.ddiv (FP.i2d p0) (4616189618054758400 : UInt64))), .second, .val (.double (FP.ddiv (FP.i2d p1) (4616189618054758400 : UInt64))), .second, .val (.ref fa23), .val (.int (0 : Int32))] [(.int (own_need (FP.ddiv (FP.i2d p0) (4616189618054758400 : UInt64)) (FP.ddiv (FP.i2d p1) (4616189618054758400 : UInt64)) p2 (nar .boolean (1 : Int32)) (nar .boolean (1 : Int32))))])) _
          refine XS.iload X27.here hx rfl (hb hby at_120) rfl ?_
          show Steps p.tables e below (T27.setTop (mkF m 122 #[.val (.int p0), .val (.int p1), .val (.int p2), .val (.int p3), .val (.int (1 : Int32)), .val (.int (1 : Int32)), .val (.double (FP.ddiv (FP.i2d p0) (4616189618054758400 : UInt64))), .second, .val (.double (FP.ddiv (FP.i2d p1) (4616189618054758400 : UInt64))), .second, .val (.ref fa23), .val (.int (0 : Int32))] [(.int (0 : Int32)), (.int (own_need (FP.ddiv (FP.i2d p0) (4616189618054758400 : UInt64)) (FP.ddiv (FP.i2d p1) (4616189618054758400 : UInt64)) p2 (nar .boolean (1 : Int32)) (nar .boolean (1 : Int32))))])) _
          refine XS.icmpNo X27.here hx rfl (hb hby at_122) rfl (teq (by simp [own_need, own_pos, own_nar0, own_nar1, hc1, hc17, hc25] : (own_need (FP.ddiv (FP.i2d p0) (4616189618054758400 : UInt64)) (FP.ddiv (FP.i2d p1) (4616189618054758400 : UInt64)) p2 (nar .boolean (1 : Int32)) (nar .boolean (1 : Int32))) = (0 : Int32))).2 ?_
          show Steps p.tables e below (T27.setTop (mkF m 125 #[.val (.int p0), .val (.int p1), .val (.int p2), .val (.int p3), .val (.int (1 : Int32)), .val (.int (1 : Int32)), .val (.double (FP.ddiv (FP.i2d p0) (4616189618054758400 : UInt64))), .second, .val (.double (FP.ddiv (FP.i2d p1) (4616189618054758400 : UInt64))), .second, .val (.ref fa23), .val (.int (0 : Int32))] [])) _
          refine XS.iconst X27.here hx rfl (hb hby at_125) ?_
          show Steps p.tables e below (T27.setTop (mkF m 126 #[.val (.int p0), .val (.int p1), .val (.int p2), .val (.int p3), .val (.int (1 : Int32)), .val (.int (1 : Int32)), .val (.double (FP.ddiv (FP.i2d p0) (4616189618054758400 : UInt64))), .second, .val (.double (FP.ddiv (FP.i2d p1) (4616189618054758400 : UInt64))), .second, .val (.ref fa23), .val (.int (0 : Int32))] [(.int (1 : Int32))])) _
          refine XS.goto X27.here hx rfl (pc0 := 126) (pc' := 130) rfl (hb hby at_126) (by decide) (by decide) ?_
          show Steps p.tables e below (T27.setTop (mkF m 130 #[.val (.int p0), .val (.int p1), .val (.int p2), .val (.int p3), .val (.int (1 : Int32)), .val (.int (1 : Int32)), .val (.double (FP.ddiv (FP.i2d p0) (4616189618054758400 : UInt64))), .second, .val (.double (FP.ddiv (FP.i2d p1) (4616189618054758400 : UInt64))), .second, .val (.ref fa23), .val (.int (0 : Int32))] [(.int (1 : Int32))])) _
          exact retN X27 hx (t := .boolean) Bd.returns (by simp) (hb hby at_130) hr
        · show Q_rm0 Z p0 p1 p2 p3 h0 n0 _ T27.heap _
          rw [e27]
          exact ⟨rfl, N27, KK24⟩
set_option maxRecDepth 65536 in
set_option maxHeartbeats 40000000 in
theorem comes_1 {Post : Tables → Env → Array Value → State → Outcome → State → Prop} (hpost : ∀ tb e args s v u, (limb_1_1.after args s (.returned v) u = true ∧ limb_1_2.after args s (.returned v) u = true ∧ True) → FrameEnd s (.returned v) u (Jvm.fieldLocs frame_1_writes args s ++ Jvm.arrayLocs frame_1_arrays args s ++ Jvm.staticLocs frame_1_statics s) 16 128 → Post tb e args s (.returned v) u) :
    ArmFor flags0 classFile x code maxLocals ret World_1 tables_1 room_1 Calls_1 rest_1 Pre_1 Post := by
  intro l hfl _ _ p e ha hc hk s m args below hf hA hF happ hP
  obtain ⟨hcalls, hrest, hpre⟩ := hP
  obtain ⟨-, -, -, hnamed, -, -, -, hat⟩ := (Spec.applies_iff hf).mp happ
  obtain ⟨hg, hn⟩ := and_e (Cond.before_iff.mp (show (Jvm.Cond.and given_1 narrow_1).before args s = true from hpre))
  obtain ⟨hg1a, hg1b⟩ := and_e hg
  obtain ⟨hg2a, hg2b⟩ := and_e hg1b
  obtain ⟨hg3a, hg3b⟩ := and_e hg2b
  obtain ⟨hg4a, hg4b⟩ := and_e hg3b
  obtain ⟨w0, w1, w2, w3, rfl⟩ : ∃ w0 w1 w2 w3 : Value, args = #[w0, w1, w2, w3] := by
    have hs : args.size = 4 := by simpa [Cond.value, given_1] using hg1a
    obtain ⟨L⟩ := args
    match L, hs with
    | [w0, w1, w2, w3], _ => exact ⟨w0, w1, w2, w3, rfl⟩
  have hw := fun d (hd : d ∈ tables_1) => atoms_spec (ws := Jvm.Cond.code x code maxLocals ret :: tables_1) hat d (List.mem_cons_of_mem _ hd)
  have hfit : Fit s := fun {y c} hc i hi => by
    obtain ⟨ha, rfl⟩ := Array.getElem?_eq_some_iff.mp hc
    have q := List.all_eq_true.mp ((Array.all_eq_true_iff_forall_mem.mp hF) _ (Array.getElem_mem ha)) i (List.mem_range.mpr hi)
    simpa [Array.getElem?_eq_getElem hi] using q
  obtain ⟨i0, ei0⟩ := is_v hg2a
  obtain rfl : w0 = (.int i0) := Option.some.inj ei0
  obtain ⟨i1, ei1⟩ := is_v hg3a
  obtain rfl : w1 = (.int i1) := Option.some.inj ei1
  obtain ⟨i2, ei2⟩ := is_v hg4a
  obtain rfl : w2 = (.int i2) := Option.some.inj ei2
  obtain ⟨i3, ei3⟩ := is_v hg4b
  obtain rfl : w3 = (.int i3) := Option.some.inj ei3
  obtain ⟨n, o, h1, h2, h3, _, L, rfl, ⟨rfl, N, -⟩, hq⟩ := rm0 l s _ hw tables_1 i0 i1 i2 i3 s.heap s.heap.size (Old.start s) p e ha hc hk s m _ below hf ((Spec.applies_iff_loose hf).mp happ).1 ⟨rfl, State.Warmed39.refl s, rfl⟩ trivial
  refine ⟨n, _, h1, h2, h3, hpost _ _ _ _ _ _ ⟨Cond.after_iff.mpr rfl, Cond.after_iff.mpr (eq_i res_at (Term.int_eval (1)) rfl), trivial⟩ ⟨hq.1, hq.2.1, (hq.2.2.sift fun y hy => Or.inr (N y hy)).mono (by decide) (by decide)⟩⟩
theorem main_1_1 : Claimed_1_1 := comes_1 fun _ _ _ _ _ _ h hF => ⟨h.1, hF⟩
theorem main_1_2 : Claimed_1_2 := comes_1 fun _ _ _ _ _ _ h hF => ⟨h.2.1, hF⟩
end Jvm.Pilot.@@N@@
namespace Jvm.Pilot.@@N@@
open Jvm Jvm.ClassFile Sem Op Lib Jvm.Free Jvm.Stand Jvm.Pilot.@@N@@.Jvm.D
/-! MADE BY PROGRAM (witnessworld.py) out of the Statement's table words and the real class files: 11 classes; the members and pool entries that the words name. The judged class is class 1, her method 1. -/
namespace start1
open Jvm.ClassFile
def u (s : String) : CpInfo := .utf8 (stringToUtf16 s)
/-- a pool by its gaps: so many unusable entries, then the entry; so many at the end -/
def gap : Nat → List CpInfo → List CpInfo
  | 0, r => r
  | n + 1, r => .unusable :: gap n r
def poolList (es : List (Nat × CpInfo)) (last : Nat) : List CpInfo := es.foldr (fun e r => gap e.1 (e.2 :: r)) (gap last [])
def pool (es : List (Nat × CpInfo)) (last : Nat) : Array CpInfo := ⟨poolList es last⟩
def fileOf (pool : Array CpInfo) (this : Nat) (attrs : Array Attribute := #[]) (ms : Array MethodInfo := #[]) (fl : Nat := 33) (sup : Nat := 0) (ifs : Array Nat := #[]) (fds : Array FieldInfo := #[]) : ClassFile where
  minorVersion := 0
  majorVersion := 65
  constantPool := pool
  accessFlags := fl
  thisClass := this
  superClass := sup
  interfaces := ifs
  fields := fds
  methods := ms
  attributes := attrs
def plain (name : String) (sup : Option ClassId) : Class where
  name := name
  kind := .ordinary
  loader := none
  accessFlags := 33
  super := sup
  interfaces := #[]
  cf := none
  fields := #[]
  methods := #[]
  instanceTypes := #[]
  staticTypes := #[]
  resolved := #[]
  callSites := []
  init := .initialized
  statics := none
  mirror := none

def pool0 : Array CpInfo := pool [(5, u "<init>"), (0, u "()V"), (1, .class_ 10), (1, u "java/lang/Object")] 113

def k0c0 : Code := { maxStack := 0, maxLocals := 1, code := object_method_1_code, exceptionTable := #[], attributes := #[] }
def k0m0 : Method := { name := "<init>", desc := "()V", sig := { parameters := [], returnType := none }, accessFlags := 1, code := some k0c0 }
/-- java/lang/Object -/
def k0 : Class := { plain "java/lang/Object" none with
  accessFlags := 33
  interfaces := #[]
  cf := some (fileOf pool0 8 #[] #[{ accessFlags := 1, nameIndex := 5, descriptorIndex := 6, attributes := #[] }] 33 0 #[] #[])
  fields := #[]
  methods := #[k0m0]
  instanceTypes := #[]
  staticTypes := #[]
  resolved := Array.replicate 124 none
  statics := none }

def pool1 : Array CpInfo := pool [(2, .class_ 4), (1, u "java/lang/Object"), (0, u "<init>"), (0, u "()V"), (0, .double 4616189618054758400), (1, .class_ 10), (0, u "com/example/musterpoint/musterpoint/world/CivilianSighting"), (0, .methodref 9 12), (0, .nameAndType 5 13), (0, u "(Lcom/example/musterpoint/musterpoint/world/Civilian;Lcom/example/musterpoint/musterpoint/world/Area;DDIZZ)V"), (0, .methodref 9 15), (0, .nameAndType 16 17), (0, u "needsHelp"), (0, u "()Z"), (0, .class_ 19), (0, u "com/example/musterpoint/musterpoint/world/CivilianSightingNeedsHelpPinLaw"), (2, u "law"), (0, u "(IIII)Z")] 3

def k1m0 : Method := { name := "<init>", desc := "()V", sig := { parameters := [], returnType := none }, accessFlags := 2, code := none }
def k1c1 : Code := { maxStack := 11, maxLocals := 12, code := code, exceptionTable := #[], attributes := #[] }
def k1m1 : Method := { name := "law", desc := "(IIII)Z", sig := { parameters := [.int, .int, .int, .int], returnType := some .boolean }, accessFlags := 9, code := some k1c1 }
/-- com/example/musterpoint/musterpoint/world/CivilianSightingNeedsHelpPinLaw -/
def k1 : Class := { plain "com/example/musterpoint/musterpoint/world/CivilianSightingNeedsHelpPinLaw" (some 0) with
  accessFlags := 49
  interfaces := #[]
  cf := some (fileOf pool1 18 #[] #[{ accessFlags := 2, nameIndex := 5, descriptorIndex := 6, attributes := #[] }, { accessFlags := 9, nameIndex := 22, descriptorIndex := 23, attributes := #[] }] 49 2 #[] #[])
  fields := #[]
  methods := #[k1m0, k1m1]
  instanceTypes := #[]
  staticTypes := #[]
  resolved := Array.replicate 27 none
  statics := none }

def pool2 : Array CpInfo := pool [(1, .methodref 2 3), (0, .class_ 4), (0, .nameAndType 5 6), (0, u "java/lang/Object"), (0, u "<init>"), (0, u "()V"), (0, .class_ 8), (0, u "java/lang/Record")] 13

def k2c0 : Code := { maxStack := 1, maxLocals := 1, code := jdk_30_method_1_code, exceptionTable := #[], attributes := #[] }
def k2m0 : Method := { name := "<init>", desc := "()V", sig := { parameters := [], returnType := none }, accessFlags := 4, code := some k2c0 }
/-- java/lang/Record -/
def k2 : Class := { plain "java/lang/Record" (some 0) with
  accessFlags := 1057
  interfaces := #[]
  cf := some (fileOf pool2 7 #[] #[{ accessFlags := 4, nameIndex := 5, descriptorIndex := 6, attributes := #[] }] 1057 2 #[] #[])
  fields := #[]
  methods := #[k2m0]
  instanceTypes := #[]
  staticTypes := #[]
  resolved := Array.replicate 22 none
  statics := none }

def pool3 : Array CpInfo := pool [(1, .class_ 2), (0, u "com/example/musterpoint/musterpoint/world/Report"), (0, .class_ 4), (0, u "java/lang/Object")] 2

/-- com/example/musterpoint/musterpoint/world/Report -/
def k3 : Class := { plain "com/example/musterpoint/musterpoint/world/Report" (some 0) with
  accessFlags := 1537
  interfaces := #[]
  cf := some (fileOf pool3 1 #[] #[] 1537 3 #[] #[])
  fields := #[]
  methods := #[]
  instanceTypes := #[]
  staticTypes := #[]
  resolved := Array.replicate 7 none
  statics := none }

def pool4 : Array CpInfo := pool [(1, .methodref 2 3), (0, .class_ 4), (0, .nameAndType 5 6), (0, u "java/lang/Record"), (0, u "<init>"), (0, u "()V"), (0, .fieldref 8 9), (0, .class_ 10), (0, .nameAndType 11 12), (0, u "com/example/musterpoint/musterpoint/world/CivilianSighting"), (0, u "civilian"), (0, u "Lcom/example/musterpoint/musterpoint/world/Civilian;"), (0, .fieldref 8 14), (0, .nameAndType 15 16), (0, u "area"), (0, u "Lcom/example/musterpoint/musterpoint/world/Area;"), (0, .fieldref 8 18), (0, .nameAndType 19 20), (0, u "health"), (0, u "D"), (0, .fieldref 8 22), (0, .nameAndType 23 20), (0, u "damage"), (0, .fieldref 8 25), (0, .nameAndType 26 27), (0, u "buriedness"), (0, u "I"), (0, .fieldref 8 29), (0, .nameAndType 30 31), (0, u "carried"), (0, u "Z"), (0, .fieldref 8 33), (0, .nameAndType 34 31), (0, u "sheltered"), (12, .class_ 48), (0, u "com/example/musterpoint/musterpoint/world/Report"), (0, u "(Lcom/example/musterpoint/musterpoint/world/Civilian;Lcom/example/musterpoint/musterpoint/world/Area;DDIZZ)V"), (3, u "needsHelp"), (0, u "()Z")] 33

def k4c0 : Code := { maxStack := 3, maxLocals := 10, code := prog_63_method_1_code, exceptionTable := #[], attributes := #[] }
def k4m0 : Method := { name := "<init>", desc := "(Lcom/example/musterpoint/musterpoint/world/Civilian;Lcom/example/musterpoint/musterpoint/world/Area;DDIZZ)V", sig := { parameters := [(.object "com/example/musterpoint/musterpoint/world/Civilian"), (.object "com/example/musterpoint/musterpoint/world/Area"), .double, .double, .int, .boolean, .boolean], returnType := none }, accessFlags := 1, code := some k4c0 }
def k4c1 : Code := { maxStack := 4, maxLocals := 1, code := prog_63_method_2_code, exceptionTable := #[], attributes := #[] }
def k4m1 : Method := { name := "needsHelp", desc := "()Z", sig := { parameters := [], returnType := some .boolean }, accessFlags := 1, code := some k4c1 }
/-- com/example/musterpoint/musterpoint/world/CivilianSighting -/
def k4 : Class := { plain "com/example/musterpoint/musterpoint/world/CivilianSighting" (some 2) with
  accessFlags := 49
  interfaces := #[3]
  cf := some (fileOf pool4 8 #[] #[{ accessFlags := 1, nameIndex := 5, descriptorIndex := 49, attributes := #[] }, { accessFlags := 1, nameIndex := 53, descriptorIndex := 54, attributes := #[] }] 49 2 #[47] #[{ accessFlags := 18, nameIndex := 11, descriptorIndex := 12, attributes := #[] }, { accessFlags := 18, nameIndex := 15, descriptorIndex := 16, attributes := #[] }, { accessFlags := 18, nameIndex := 19, descriptorIndex := 20, attributes := #[] }, { accessFlags := 18, nameIndex := 23, descriptorIndex := 20, attributes := #[] }, { accessFlags := 18, nameIndex := 26, descriptorIndex := 27, attributes := #[] }, { accessFlags := 18, nameIndex := 30, descriptorIndex := 31, attributes := #[] }, { accessFlags := 18, nameIndex := 34, descriptorIndex := 31, attributes := #[] }])
  fields := #[{ name := "civilian", type := (.object "com/example/musterpoint/musterpoint/world/Civilian"), accessFlags := 18, slot := 0, constantValue := 0 }, { name := "area", type := (.object "com/example/musterpoint/musterpoint/world/Area"), accessFlags := 18, slot := 1, constantValue := 0 }, { name := "health", type := .double, accessFlags := 18, slot := 2, constantValue := 0 }, { name := "damage", type := .double, accessFlags := 18, slot := 3, constantValue := 0 }, { name := "buriedness", type := .int, accessFlags := 18, slot := 4, constantValue := 0 }, { name := "carried", type := .boolean, accessFlags := 18, slot := 5, constantValue := 0 }, { name := "sheltered", type := .boolean, accessFlags := 18, slot := 6, constantValue := 0 }]
  methods := #[k4m0, k4m1]
  instanceTypes := #[(.object "com/example/musterpoint/musterpoint/world/Civilian"), (.object "com/example/musterpoint/musterpoint/world/Area"), .double, .double, .int, .boolean, .boolean]
  staticTypes := #[]
  resolved := Array.replicate 88 none
  statics := none }

def pool5 : Array CpInfo := pool [(1, u "java/lang/Cloneable"), (0, .class_ 1), (0, u "java/lang/Object"), (0, .class_ 3)] 3

/-- java/lang/Cloneable -/
def k5 : Class := { plain "java/lang/Cloneable" (some 0) with
  accessFlags := 1537
  interfaces := #[]
  cf := some (fileOf pool5 2 #[] #[] 1537 4 #[] #[])
  fields := #[]
  methods := #[]
  instanceTypes := #[]
  staticTypes := #[]
  resolved := Array.replicate 8 none
  statics := none }

def pool6 : Array CpInfo := pool [(1, u "java/io/Serializable"), (0, .class_ 1), (0, u "java/lang/Object"), (0, .class_ 3)] 3

/-- java/io/Serializable -/
def k6 : Class := { plain "java/io/Serializable" (some 0) with
  accessFlags := 1537
  interfaces := #[]
  cf := some (fileOf pool6 2 #[] #[] 1537 4 #[] #[])
  fields := #[]
  methods := #[]
  instanceTypes := #[]
  staticTypes := #[]
  resolved := Array.replicate 8 none
  statics := none }

/-- the primitive byte -/
def k7 : Class := { plain "byte" none with kind := .primitive 'B', accessFlags := 0x411 }
/-- [B -/
def k8 : Class := { plain "[B" (some 0) with kind := .array 7 .byte, interfaces := #[5, 6], accessFlags := 1041 }

/-- the primitive int -/
def k9 : Class := { plain "int" none with kind := .primitive 'I', accessFlags := 0x411 }
/-- [I -/
def k10 : Class := { plain "[I" (some 0) with kind := .array 9 .int, interfaces := #[5, 6], accessFlags := 1041 }

def heap : Heap := #[]
def classes : Array Class := #[k0, k1, k2, k3, k4, k5, k6, k7, k8, k9, k10]
def interned : List (Array UInt16 × Addr) := []
def slotsUsed : Nat := 0
def theMethod : MethodId := ⟨1, 1⟩
def args0 : Array Value := #[.int 5, .int 6, .int 7, .int 0]
def aboutOver (below : List Frame) : State where
  vm := { classes := classes, interned := interned.toArray }
  heap := heap
  slotsUsed := slotsUsed
  threads := #[{ frames := .invoking theMethod args0 :: below }]
def below0 : List Frame := [.native { method := ⟨0, 0⟩, args := #[] }]
def about1 : State := aboutOver below0
def p0 : Program := .bare "" "" ""
def e0 : Env := launch0.env 0 0 0
theorem w_frames : about1.frames = Frame.invoking theMethod args0 :: below0 := rfl
set_option maxRecDepth 65536 in
theorem w_args : argsFit about1.vm theMethod args0 = true := by decide +kernel
set_option maxRecDepth 65536 in
theorem w_heap : heapFits about1 = true := by decide +kernel
set_option maxRecDepth 65536 in
theorem w_runnable : about1.curStatus? = some .runnable := by decide +kernel
set_option maxRecDepth 65536 in
theorem w_alone : about1.alone = true := by decide +kernel
set_option maxRecDepth 65536 in
theorem w_named : about1.methodNamed? x = some theMethod := by decide +kernel
set_option maxRecDepth 65536 in
theorem w_hears : about1.hears theMethod below0 = true := by decide +kernel
set_option maxRecDepth 65536 in
theorem w_ripe : about1.ripe theMethod args0 below0 = true := by decide +kernel
theorem w_running : about1.status = .running := rfl
set_option maxRecDepth 65536 in
theorem w_room : about1.hasRoom e0.platform room_1 = true :=
  launch0.hasRoom_least _ room_1 (by decide +kernel) (by decide +kernel) (by decide +kernel) (by decide +kernel) (by decide +kernel) (by decide +kernel)
theorem allAtoms_all (ts : List Jvm.Cond) (a : Array Jvm.Value) (st : Jvm.State) : (allAtoms ts).before a st = ts.all (fun c => c.before a st) := by
  induction ts with
  | nil => rfl
  | cons c t ih =>
    show (Jvm.Cond.and c (allAtoms t)).before a st = _
    rw [Jvm.Cond.before_and, ih, List.all_cons]
def words1 : List Jvm.Cond := Jvm.Cond.code x code maxLocals ret :: tables_1
/-- a 'code' word, met by the world's own term for the bytes: nothing is compared byte by byte -/
theorem code_word {y : MethodName} {bytes : ByteArray} {mx : Nat} {rt : Option FieldType} {a : Array Value} {s : State} {m : MethodId} {meth : Method} {c : Code} (h1 : s.methodNamed? y = some m) (h2 : s.vm.method? m = some meth) (h3 : meth.code = some c) (h4 : c.code = bytes)
    (h5 : (c.maxLocals == mx && c.exceptionTable.isEmpty && decide (c.maxStack ≤ mostOperands) && decide (meth.sig.returnType = rt) && !meth.locks && decide (parseMethodDescriptor y.desc = some meth.sig)) = true) : (Jvm.Cond.code y bytes mx rt).before a s = true := by
  simp only [Bool.and_eq_true, beq_iff_eq, Bool.not_eq_true', decide_eq_true_eq] at h5
  obtain ⟨⟨⟨⟨⟨g1, g2⟩, g3⟩, g4⟩, g5⟩, g6⟩ := h5
  simp [Cond.before, Cond.holds, Cond.value, h1, h2, h3, h4, g1, g2, g3, g4, g5, g6]
def isCode : Jvm.Cond → Bool
  | .code _ _ _ _ => true
  | _ => false
theorem all_split {L : List Jvm.Cond} {P : Jvm.Cond → Bool} (h1 : L.all (fun c => isCode c || P c) = true) (h2 : ∀ c ∈ L.filter isCode, P c = true) : L.all P = true := by
  refine List.all_eq_true.mpr fun c hc => ?_
  have h := List.all_eq_true.mp h1 c hc
  rcases Bool.eq_false_or_eq_true (isCode c) with hi | hi
  · exact h2 c (List.mem_filter.mpr ⟨hc, hi⟩)
  · simpa [hi] using h
set_option maxRecDepth 65536 in
theorem w_c0 : (Jvm.Cond.code x code maxLocals ret).before args0 about1 = true := code_word (m := ⟨1, 1⟩) (meth := k1m1) (c := k1c1) (by decide +kernel) rfl rfl rfl (by decide +kernel)
set_option maxRecDepth 65536 in
theorem w_c1 : (Jvm.Cond.code ({ cls := "com/example/musterpoint/musterpoint/world/CivilianSighting", name := "<init>", desc := "(Lcom/example/musterpoint/musterpoint/world/Civilian;Lcom/example/musterpoint/musterpoint/world/Area;DDIZZ)V" } : Jvm.MethodName) prog_63_method_1_code (10 : Nat) (Option.none : Option Jvm.ClassFile.FieldType)).before args0 about1 = true := code_word (m := ⟨4, 0⟩) (meth := k4m0) (c := k4c0) (by decide +kernel) rfl rfl rfl (by decide +kernel)
set_option maxRecDepth 65536 in
theorem w_c2 : (Jvm.Cond.code ({ cls := "java/lang/Record", name := "<init>", desc := "()V" } : Jvm.MethodName) jdk_30_method_1_code (1 : Nat) (Option.none : Option Jvm.ClassFile.FieldType)).before args0 about1 = true := code_word (m := ⟨2, 0⟩) (meth := k2m0) (c := k2c0) (by decide +kernel) rfl rfl rfl (by decide +kernel)
set_option maxRecDepth 65536 in
theorem w_c3 : (Jvm.Cond.code ({ cls := "java/lang/Object", name := "<init>", desc := "()V" } : Jvm.MethodName) object_method_1_code (1 : Nat) (Option.none : Option Jvm.ClassFile.FieldType)).before args0 about1 = true := code_word (m := ⟨0, 0⟩) (meth := k0m0) (c := k0c0) (by decide +kernel) rfl rfl rfl (by decide +kernel)
set_option maxRecDepth 65536 in
theorem w_c4 : (Jvm.Cond.code ({ cls := "com/example/musterpoint/musterpoint/world/CivilianSighting", name := "needsHelp", desc := "()Z" } : Jvm.MethodName) prog_63_method_2_code (1 : Nat) (Option.some Jvm.ClassFile.FieldType.boolean)).before args0 about1 = true := code_word (m := ⟨4, 1⟩) (meth := k4m1) (c := k4c1) (by decide +kernel) rfl rfl rfl (by decide +kernel)
def codes1 : List Jvm.Cond := [Jvm.Cond.code x code maxLocals ret, Jvm.Cond.code ({ cls := "com/example/musterpoint/musterpoint/world/CivilianSighting", name := "<init>", desc := "(Lcom/example/musterpoint/musterpoint/world/Civilian;Lcom/example/musterpoint/musterpoint/world/Area;DDIZZ)V" } : Jvm.MethodName) prog_63_method_1_code (10 : Nat) (Option.none : Option Jvm.ClassFile.FieldType), Jvm.Cond.code ({ cls := "java/lang/Record", name := "<init>", desc := "()V" } : Jvm.MethodName) jdk_30_method_1_code (1 : Nat) (Option.none : Option Jvm.ClassFile.FieldType), Jvm.Cond.code ({ cls := "java/lang/Object", name := "<init>", desc := "()V" } : Jvm.MethodName) object_method_1_code (1 : Nat) (Option.none : Option Jvm.ClassFile.FieldType), Jvm.Cond.code ({ cls := "com/example/musterpoint/musterpoint/world/CivilianSighting", name := "needsHelp", desc := "()Z" } : Jvm.MethodName) prog_63_method_2_code (1 : Nat) (Option.some Jvm.ClassFile.FieldType.boolean)]
set_option maxRecDepth 65536 in
theorem codes_eq : words1.filter isCode = codes1 := rfl
theorem w_codes : ∀ c ∈ words1.filter isCode, c.before args0 about1 = true := by
  rw [codes_eq]
  intro c hc
  simp only [codes1, List.mem_cons, List.not_mem_nil, or_false] at hc
  rcases hc with rfl | rfl | rfl | rfl | rfl
  · exact w_c0
  · exact w_c1
  · exact w_c2
  · exact w_c3
  · exact w_c4
set_option maxRecDepth 65536 in
theorem w_t1 : (words1.take 24).all (fun c => isCode c || c.before args0 about1) = true := by decide +kernel
set_option maxRecDepth 65536 in
theorem w_t2 : (words1.drop 24).all (fun c => isCode c || c.before args0 about1) = true := by decide +kernel
theorem w_tables : (allAtoms (Jvm.Cond.code x code maxLocals ret :: tables_1)).before args0 about1 = true := by
  rw [allAtoms_all]
  show words1.all (fun c => c.before args0 about1) = true
  refine all_split ?_ w_codes
  rw [← List.take_append_drop 24 words1, List.all_append, w_t1, w_t2]
  rfl
set_option maxRecDepth 65536 in
theorem w_case : (Jvm.Cond.and given_1 narrow_1).before args0 about1 = true := by decide +kernel
theorem w_applies : (headSpec (Jvm.Cond.code x code maxLocals ret :: tables_1) room_1).applies x e0.platform about1 = true :=
  (Spec.applies_iff w_frames).mpr ⟨w_running, w_runnable, w_alone, w_named, w_hears, w_ripe, w_room, w_tables⟩
theorem atStart : AtStart classFile x code maxLocals ret World_1 tables_1 room_1 Calls_1 rest_1 Pre_1 launch0 p0 e0 about1 theMethod args0 below0 :=
  ⟨lists_1, trivial, launch0.admits_env _ _ _, launch0.least_env, fairChoices_fair.cas, fairChoices_fair.clock, w_frames, w_args, w_heap, w_applies, trivial, trivial, w_case⟩
end start1
theorem witness_1 : WitnessClaimed_1 := ⟨start1.p0, start1.e0, start1.about1, start1.theMethod, start1.args0, start1.below0, start1.atStart⟩
end Jvm.Pilot.@@N@@
