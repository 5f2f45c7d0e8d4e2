import JvmDerived
import JvmDerived.Pilot.@@N@@Statement
import JvmDerived.Pilot.@@N@@Code
set_option linter.unusedVariables false
set_option linter.unusedSimpArgs false
namespace Jvm.RoadKit
open Sem ClassFile Op Lib Jvm.Stand Jvm.Free Jvm.LawKit
section New
variable {p : Program} {l : Launch} {e : Env} {R : Room} {s : State} {m : MethodId} {args : Array Value} {below : List Frame} {meth : Method} {c : Code} {T : State} {locs : List Loc} {cells slots : Nat}
theorem retI (X : Stand p l e R s m args below meth c T locs cells slots) (hx : p.tables.exec = Jvm.exec) {pc : Nat} {Ls : Array Slot} {z : Int32} {rest : List Value} (hret : meth.sig.returnType = some .int) (hd : decode c.code pc = .ok (.ireturn, 1)) {fs : List Frame}
    (hl : ∀ (f : JFrame) (acts : List Action), f.method = m → f.locked = none → f.entered = [] → (doReturn e (T.setTop f) acts (some (.int z))).1 = T.setFrames fs) : Steps p.tables e below (T.setTop (mkF m pc Ls (.int z :: rest))) (T.setFrames fs) := by
  have hm' : T.vm.method? m = some meth := X.method'
  have hn : narrow .int (.int z) = .int z := rfl
  show Steps p.tables e below (T.setTop { method := m, pc := pc, locals := Ls, stack := _ :: rest, locked := none }) _
  jvm_step X.here [X.here.top, hx, hd, hm', hret, hn]
  first | (intro acts; rw [hl _ acts rfl rfl rfl]) | rw [hl _ _ rfl rfl rfl]
  exact Steps.refl _
end New
end Jvm.RoadKit
namespace Jvm.Pilot.@@N@@
open Jvm Jvm.ClassFile Sem Op Lib Jvm.Free Jvm.Stand Jvm.LawKit Jvm.RoadKit Bundle Jvm.Pilot.@@N@@.Jvm.D
theorem own_fldI {t : Term} {C n d : String} {args : Array Value} {s : State} {a : Addr} {z : Int32} (ev : t.eval args s none [] s = some (.ref a)) (h : (Jvm.Cond.eq (Term.field t C n d) (Term.int z)).value args s none s [] = some true) : Fld s s.heap a C n d (.int z) := by
  obtain ⟨x, y, hx, hy, k1, k2⟩ := cmp_v (Or.inl h)
  cases (Term.int_eval z).symm.trans hy
  obtain ⟨q, rfl⟩ := k2
  have hq : q = z := by
    have h' := h
    simp only [Cond.value, hx, Term.int_eval] at h'
    simpa using h'
  subst hq
  exact Fld.start ((fld_at ev).symm.trans hx)
theorem own_fldR {t u : Term} {C n d : String} {args : Array Value} {s : State} {a b : Addr} (ev : t.eval args s none [] s = some (.ref a)) (eu : u.eval args s none [] s = some (.ref b)) (h : (Jvm.Cond.eq (Term.field t C n d) u).value args s none s [] = some true) : Fld s s.heap a C n d (.ref b) := by
  obtain ⟨x, y, hx, hy, k1, k2⟩ := cmp_v (Or.inl h)
  cases eu.symm.trans hy
  have hxr : x.isRef = true := k2.2
  have hq : x = .ref b := gotT (eq_R hx eu hxr rfl) h
  subst hq
  exact Fld.start ((fld_at ev).symm.trans hx)
theorem own_fldN {t : Term} {C n d : String} {args : Array Value} {s : State} {a : Addr} (ev : t.eval args s none [] s = some (.ref a)) (h : (Jvm.Cond.eq (Term.field t C n d) .null).value args s none s [] = some true) : Fld s s.heap a C n d .null :=
  Fld.start ((fld_at ev).symm.trans (null_v h))
theorem own_inj {Z : State} {h : Heap} {a : Addr} {C n d : String} {v w : Value} (F : Fld Z h a C n d v) (G : Fld Z h a C n d w) : v = w := by
  obtain ⟨c1, cf, k, i, f, h1, h2, -, -, -, -, h7⟩ := F
  obtain ⟨c2, cf', k', i', f', g1, g2, -, -, -, -, g7⟩ := G
  cases h1.symm.trans g1
  cases h2.symm.trans g2
  exact Option.some.inj (h7.symm.trans g7)
theorem own_ne {Z : State} {h : Heap} {a b : Addr} {C n d : String} {x y : Int32} (F : Fld Z h a C n d (.int x)) (G : Fld Z h b C n d (.int y)) (hn : x ≠ y) : ¬ (a = b) := fun e => by
  subst e
  exact hn (Value.int.inj (own_inj F G))
theorem own_elem {t : Term} {args : Array Value} {s : State} {a : Addr} {cl : Cell} {j z : Int32} (ev : t.eval args s none [] s = some (.ref a)) (A : Arr s s.heap a cl .int) (hj : ¬ j < 0) (h : (Jvm.Cond.eq (Term.elem t (Term.int j)) (Term.int z)).value args s none s [] = some true) : cl.slots[j.toNatClampNeg]? = some (.int z) := by
  obtain ⟨x, y, hx, hy, k1, k2⟩ := cmp_v (Or.inl h)
  cases (Term.int_eval z).symm.trans hy
  obtain ⟨q, rfl⟩ := k2
  have hq : q = z := by
    have h' := h
    simp only [Cond.value, hx, Term.int_eval] at h'
    simpa using h'
  subst hq
  exact (elem_f ev (Term.int_eval j) (Arr.fin (State.Warmed39.refl s).alike A) hj).symm.trans hx
theorem own_in {cl : Cell} {j : Int32} {v : Value} (hj : ¬ j < 0) (h : cl.slots[j.toNatClampNeg]? = some v) : ¬ (j < 0 ∨ cl.slots.size ≤ j.toNatClampNeg) := by
  rintro (q | q)
  · exact hj q
  · exact absurd (Array.getElem?_eq_some_iff.mp h).1 (Nat.not_lt.mpr q)
def World (Z : State) (h : Heap) (cl : Cell) (w_DENY w_sw w_Outcome_DENY w_ERROR w_ALLOW w_Outcome_ALLOW : Addr) : Prop := Sta Z h "com/example/label_gate/labelgate/Decision" "DENY" "Lcom/example/label_gate/labelgate/Decision;" (.ref w_DENY) ∧ Exa Z h w_DENY "com/example/label_gate/labelgate/Decision" ∧ Sta Z h "com/example/label_gate/labelgate/Outcome$1" "$SwitchMap$com$example$label_gate$labelgate$Decision" "[I" (.ref w_sw) ∧ Arr Z h w_sw cl .int ∧ Fld Z h w_DENY "java/lang/Enum" "ordinal" "I" (.int (1 : Int32)) ∧ cl.slots[(1 : Int32).toNatClampNeg]? = some (.int (2 : Int32)) ∧ Sta Z h "com/example/label_gate/labelgate/Outcome" "DENY" "Lcom/example/label_gate/labelgate/Outcome;" (.ref w_Outcome_DENY) ∧ Exa Z h w_Outcome_DENY "com/example/label_gate/labelgate/Outcome" ∧ Sta Z h "com/example/label_gate/labelgate/Outcome" "ERROR" "Lcom/example/label_gate/labelgate/Outcome;" (.ref w_ERROR) ∧ Exa Z h w_ERROR "com/example/label_gate/labelgate/Outcome" ∧ Fld Z h w_Outcome_DENY "java/lang/Enum" "ordinal" "I" (.int (1 : Int32)) ∧ Fld Z h w_ERROR "java/lang/Enum" "ordinal" "I" (.int (2 : Int32)) ∧ Sta Z h "com/example/label_gate/labelgate/Decision" "ALLOW" "Lcom/example/label_gate/labelgate/Decision;" (.ref w_ALLOW) ∧ Exa Z h w_ALLOW "com/example/label_gate/labelgate/Decision" ∧ Fld Z h w_ALLOW "java/lang/Enum" "ordinal" "I" (.int (0 : Int32)) ∧ cl.slots[(0 : Int32).toNatClampNeg]? = some (.int (1 : Int32)) ∧ Sta Z h "com/example/label_gate/labelgate/Outcome" "ALLOW" "Lcom/example/label_gate/labelgate/Outcome;" (.ref w_Outcome_ALLOW) ∧ Exa Z h w_Outcome_ALLOW "com/example/label_gate/labelgate/Outcome" ∧ Fld Z h w_Outcome_ALLOW "java/lang/Enum" "ordinal" "I" (.int (0 : Int32))
theorem d2_0 : decode jdk_37_method_2_code 0 = .ok (.aload_n 0, 1) := by decide +kernel
theorem d2_1 : decode jdk_37_method_2_code 1 = .ok (.getfield 7, 3) := by decide +kernel
theorem d2_4 : decode jdk_37_method_2_code 4 = .ok (.ireturn, 1) := by decide +kernel
theorem pn_0 : plainName "java/lang/Enum" = true := by first | (simp [plainName, overriddenIn]; done) | decide +kernel
theorem ef_rm2 (m : MethodId) (x0 : Addr) : entryFrame m #[(.ref x0)] 1 = mkF m 0 #[.val (.ref x0)] [] := by first | (simp [entryFrame, mkF, argsToLocals, Value.category]; done) | rfl
def Q_rm2 (Z : State) (a1 : Addr) (o1 : Int32) (h0 : Heap) (n0 : Nat) (v : Option Value) (h : Heap) (L : List Loc) : Prop := v = some (.int o1) ∧ Fr n0 L ∧ h = h0
set_option maxRecDepth 65536 in
set_option maxHeartbeats 40000000 in
theorem rm2 (l : Launch) (Z : State) (a0 : Array Value) (hw : ∀ d ∈ tables_1, d.before a0 Z = true) (ws : List Jvm.Cond) (a1 : Addr) (o1 : Int32) (h0 : Heap) (n0 : Nat) (Z0 : n0 ≤ h0.size) (FO : Fld Z h0 a1 "java/lang/Enum" "ordinal" "I" (.int o1)) :
    MetFree l (⟨"java/lang/Enum", "ordinal", "()I"⟩ : MethodName) (head1 (Jvm.Cond.code (⟨"java/lang/Enum", "ordinal", "()I"⟩ : MethodName) jdk_37_method_2_code 1 (some .int) :: ws) ({ frames := 0, cells := 0, slots := 0, locals := 0 } : Room)) (fun a U => a = #[(.ref a1)] ∧ Z.Warmed39 U.vm ∧ U.heap = h0) (fun _ _ _ _ _ => True) (fun _ U o U' => ∃ v L, o = .returned v ∧ Q_rm2 Z a1 o1 h0 n0 v U'.heap L ∧ FrameEnd U o U' L ({ frames := 0, cells := 0, slots := 0, locals := 0 } : Room).cells ({ frames := 0, cells := 0, slots := 0, locals := 0 } : Room).slots) := by
  refine MetFree.of_bodySF (plainFor_of_name pn_0) hisR ?_
  intro p e s m args below meth c s₁ Bd hml0 hP hK
  obtain ⟨rfl, hZ, hh⟩ := hP
  have hx := Bd.exec
  have hby := Bd.bytes
  have hml : c.maxLocals = 1 := hml0
  have hown : s.vm.findClass "java/lang/Enum" = some m.cls := findClass_of_methodNamed Bd.named
  have hnm := (name_of_methodNamed Bd.named Bd.method).1
  have X0 : Stand p l e ({ frames := 0, cells := 0, slots := 0, locals := 0 } : Room) s m #[(.ref a1)] below meth c s₁ [] 0 0 := Stand.of_body Bd
  have e0 : s₁.heap = h0 := by rw [← hh, Bd.state]; rfl
  have N0 := Fr.nil n0
  have pre0 : ∀ t, Steps p.tables e below (s₁.setTop (mkF m 0 #[.val (.ref a1)] [])) t → Steps p.tables e below (s₁.setTop (entryFrame m #[(.ref a1)] 1)) t := fun t k => castTop (ef_rm2 m (a1)) k
  obtain ⟨T1, X1, e1, st1⟩ := getF X0 hx hZ hown (host := "") (Or.inl (hw _ (List.mem_of_getElem? (i := 17) rfl))) Via.refl e0 FO (g := (mkF m 1 #[.val (.ref a1)] [(.ref a1)])) rfl rfl (hb hby d2_1)
  obtain ⟨fs, hr, hrun, hended, hW, hsame⟩ := X1.leave (v := some (.int o1)) (fun h => by rw [Bd.returns] at h; cases h)
  refine ⟨_, _, pre0 _ ?_, hrun, hended, _, _, rfl, ?_, ⟨_, rfl⟩, hW, hsame.mono (by decide) (by decide)⟩
  · show Steps p.tables e below (s₁.setTop (mkF m 0 #[.val (.ref a1)] [])) _
    refine XS.aloadN X0.here hx rfl (hb hby d2_0) rfl rfl ?_
    show Steps p.tables e below (s₁.setTop (mkF m 1 #[.val (.ref a1)] [(.ref a1)])) _
    refine st1 _ ?_
    show Steps p.tables e below (T1.setTop (mkF m 4 #[.val (.ref a1)] [(.int o1)])) _
    exact retI X1 hx Bd.returns (hb hby d2_4) hr
  · show Q_rm2 Z a1 o1 h0 n0 _ T1.heap _
    rw [e1]
    exact ⟨rfl, N0, rfl⟩
theorem d1_0 : decode prog_26_method_4_code 0 = .ok (.getstatic 32, 3) := by decide +kernel
theorem d1_3 : decode prog_26_method_4_code 3 = .ok (.aload_n 0, 1) := by decide +kernel
theorem d1_4 : decode prog_26_method_4_code 4 = .ok (.invokevirtual 38, 3) := by decide +kernel
theorem d1_7 : decode prog_26_method_4_code 7 = .ok (.iaload, 1) := by decide +kernel
theorem d1_8 : decode prog_26_method_4_code 8 = .ok (.lookupswitch 28 #[(1, 38), (2, 44)], 28) := by decide +kernel
theorem d1_36 : decode prog_26_method_4_code 36 = .ok (.new 44, 3) := by decide +kernel
theorem d1_39 : decode prog_26_method_4_code 39 = .ok (.dup, 1) := by decide +kernel
theorem d1_40 : decode prog_26_method_4_code 40 = .ok (.aconst_null, 1) := by decide +kernel
theorem d1_41 : decode prog_26_method_4_code 41 = .ok (.aconst_null, 1) := by decide +kernel
theorem d1_42 : decode prog_26_method_4_code 42 = .ok (.invokespecial 46, 3) := by decide +kernel
theorem d1_45 : decode prog_26_method_4_code 45 = .ok (.athrow, 1) := by decide +kernel
theorem d1_46 : decode prog_26_method_4_code 46 = .ok (.getstatic 3, 3) := by decide +kernel
theorem d1_49 : decode prog_26_method_4_code 49 = .ok (.goto 6, 3) := by decide +kernel
theorem d1_52 : decode prog_26_method_4_code 52 = .ok (.getstatic 7, 3) := by decide +kernel
theorem d1_55 : decode prog_26_method_4_code 55 = .ok (.areturn, 1) := by decide +kernel
theorem pd_0 : parseMethodDescriptor "()I" = some ⟨[], some .int⟩ := by decide +kernel
theorem pn_1 : plainName "com/example/label_gate/labelgate/Outcome" = true := by first | (simp [plainName, overriddenIn]; done) | decide +kernel
theorem ef_rm1_0 (m : MethodId) (x0 : Addr) : entryFrame m #[(.ref x0)] 1 = mkF m 0 #[.val (.ref x0)] [] := by first | (simp [entryFrame, mkF, argsToLocals, Value.category]; done) | rfl
def Q_rm1_0 (Z : State) (a1 : Addr) (cl : Cell) (w_DENY : Addr) (w_sw : Addr) (w_Outcome_DENY : Addr) (w_ERROR : Addr) (w_ALLOW : Addr) (w_Outcome_ALLOW : Addr) (h0 : Heap) (n0 : Nat) (v : Option Value) (h : Heap) (L : List Loc) : Prop := v = some (.ref w_Outcome_ALLOW) ∧ Fr n0 L ∧ h = h0
set_option maxRecDepth 65536 in
set_option maxHeartbeats 40000000 in
theorem rm1_0 (l : Launch) (Z : State) (a0 : Array Value) (hw : ∀ d ∈ tables_1, d.before a0 Z = true) (ws : List Jvm.Cond) (a1 : Addr) (cl : Cell) (w_DENY : Addr) (w_sw : Addr) (w_Outcome_DENY : Addr) (w_ERROR : Addr) (w_ALLOW : Addr) (w_Outcome_ALLOW : Addr) (h0 : Heap) (n0 : Nat) (Z0 : n0 ≤ h0.size) (WD : World Z h0 cl w_DENY w_sw w_Outcome_DENY w_ERROR w_ALLOW w_Outcome_ALLOW) (FO : Fld Z h0 a1 "java/lang/Enum" "ordinal" "I" (.int (0 : Int32))) (EX : Exa Z h0 a1 "com/example/label_gate/labelgate/Decision") :
    MetFree l (⟨"com/example/label_gate/labelgate/Outcome", "of", "(Lcom/example/label_gate/labelgate/Decision;)Lcom/example/label_gate/labelgate/Outcome;"⟩ : MethodName) (head1 (Jvm.Cond.code (⟨"com/example/label_gate/labelgate/Outcome", "of", "(Lcom/example/label_gate/labelgate/Decision;)Lcom/example/label_gate/labelgate/Outcome;"⟩ : MethodName) prog_26_method_4_code 1 (some (.object "com/example/label_gate/labelgate/Outcome")) :: ws) ({ frames := 1, cells := 0, slots := 0, locals := 13 } : Room)) (fun a U => a = #[(.ref a1)] ∧ Z.Warmed39 U.vm ∧ U.heap = h0) (fun _ _ _ _ _ => True) (fun _ U o U' => ∃ v L, o = .returned v ∧ Q_rm1_0 Z a1 cl w_DENY w_sw w_Outcome_DENY w_ERROR w_ALLOW w_Outcome_ALLOW h0 n0 v U'.heap L ∧ FrameEnd U o U' L ({ frames := 1, cells := 0, slots := 0, locals := 13 } : Room).cells ({ frames := 1, cells := 0, slots := 0, locals := 13 } : Room).slots) := by
  refine MetFree.of_bodySF (plainFor_of_name pn_1) hisR ?_
  intro p e s m args below meth c s₁ Bd hml0 hP hK
  obtain ⟨rfl, hZ, hh⟩ := hP
  have hx := Bd.exec
  have hby := Bd.bytes
  have hml : c.maxLocals = 1 := hml0
  have hown : s.vm.findClass "com/example/label_gate/labelgate/Outcome" = some m.cls := findClass_of_methodNamed Bd.named
  have hnm := (name_of_methodNamed Bd.named Bd.method).1
  have X0 : Stand p l e ({ frames := 1, cells := 0, slots := 0, locals := 13 } : Room) s m #[(.ref a1)] below meth c s₁ [] 0 0 := Stand.of_body Bd
  have e0 : s₁.heap = h0 := by rw [← hh, Bd.state]; rfl
  have N0 := Fr.nil n0
  have pre0 : ∀ t, Steps p.tables e below (s₁.setTop (mkF m 0 #[.val (.ref a1)] [])) t → Steps p.tables e below (s₁.setTop (entryFrame m #[(.ref a1)] 1)) t := fun t k => castTop (ef_rm1_0 m (a1)) k
  obtain ⟨S_DENY, E_DENY, S_sw, A_sw, F_DENY_ordinal, L_1, S_Outcome_DENY, E_Outcome_DENY, S_ERROR, E_ERROR, F_Outcome_DENY_ordinal, F_ERROR_ordinal, S_ALLOW, E_ALLOW, F_ALLOW_ordinal, L_0, S_Outcome_ALLOW, E_Outcome_ALLOW, F_Outcome_ALLOW_ordinal⟩ := WD
  obtain ⟨T1, X1, e1, st1⟩ := getS2 X0 hx hZ hown (host := "") (Or.inl (hw _ (List.mem_of_getElem? (i := 7) rfl))) Via.refl e0 S_sw (g := (mkF m 0 #[.val (.ref a1)] [])) rfl (hb hby d1_0)
  obtain ⟨cq2, kq2, q2a, q2b, q2c⟩ := isOf hZ e1 EX
  obtain ⟨_, _, ⟨T2, L2, k2, n2⟩, -, X2, ⟨Lc2, hQ2, l2, y2, z2⟩, st2⟩ := X1.virtualBackUp hx (owner := "java/lang/Enum") (x := (⟨"com/example/label_gate/labelgate/Decision", "ordinal", "()I"⟩ : MethodName)) (y := (⟨"java/lang/Enum", "ordinal", "()I"⟩ : MethodName)) hown (mvT hZ (hw _ (List.mem_of_getElem? (i := 10) rfl))) (mvT hZ (hw _ (List.mem_of_getElem? (i := 11) rfl))) (mvT hZ (hw _ (List.mem_of_getElem? (i := 12) rfl))) (by decide) (mvT hZ (hw _ (List.mem_of_getElem? (i := 14) rfl))) (mvT hZ (hw _ (List.mem_of_getElem? (i := 13) rfl))) (backOf (W := 1) (rm2 l Z a0 hw [] a1 (0 : Int32) h0 n0 Z0 FO) hZ (hw _ (List.mem_of_getElem? (i := 16) rfl)) (hw _ (List.mem_of_getElem? (i := 15) rfl)) (by decide) (by decide)) q2a q2c (g := (mkF m 4 #[.val (.ref a1)] [(.ref a1), (.ref w_sw)])) rfl (by rw [hml]; rfl) (Steps.refl _) (argsL := []) (rest := [(.ref w_sw)]) (lenOf pd_0 rfl) rfl (by show 2 * 0 + _ ≤ _; exact Nat.le_of_eq rfl) (hb hby d1_4) (fun _ _ => ⟨rfl, e1, (by decide : 0 + 0 ≤ _), (by decide : 0 + 0 ≤ _)⟩)
  dsimp only [Pt.U, Pt.locs, Pt.cells, Pt.slots] at X2 l2 y2 z2 st2 hQ2
  subst l2 y2 z2
  obtain ⟨rfl, N2q, e2⟩ := hQ2
  have N2 := Fr.app N0 N2q
  obtain ⟨T3, X3, e3, st3⟩ := getS2 X2 hx hZ hown (host := "") (Or.inl (hw _ (List.mem_of_getElem? (i := 26) rfl))) Via.refl e2 S_Outcome_ALLOW (g := (mkF m 46 #[.val (.ref a1)] [])) rfl (hb hby d1_46)
  obtain ⟨fs, hr, hrun, hended, hW, hsame⟩ := X3.leave (v := some (.ref w_Outcome_ALLOW)) (fun h => by rw [Bd.returns] at h; cases h)
  refine ⟨_, _, pre0 _ ?_, hrun, hended, _, _, rfl, ?_, ⟨_, rfl⟩, hW, hsame.mono (by decide) (by decide)⟩
  · show Steps p.tables e below (s₁.setTop (mkF m 0 #[.val (.ref a1)] [])) _
    refine st1 _ ?_
    show Steps p.tables e below (T1.setTop (mkF m 3 #[.val (.ref a1)] [(.ref w_sw)])) _
    refine XS.aloadN X1.here hx rfl (hb hby d1_3) rfl rfl ?_
    show Steps p.tables e below (T1.setTop (mkF m 4 #[.val (.ref a1)] [(.ref a1), (.ref w_sw)])) _
    refine st2.trans ?_
    show Steps p.tables e below (T2.setTop (mkF m 7 #[.val (.ref a1)] [(.int (0 : Int32)), (.ref w_sw)])) _
    refine X2.iaload hx (j := (0 : Int32)) (v := (.int (1 : Int32))) (by rw [e2]; exact (A_sw).1) (State.isArrayOf_alike hZ.alike (A_sw).2.1) (A_sw).2.2 (own_in (by decide) L_0) L_0 (g := (mkF m 7 #[.val (.ref a1)] [(.int (0 : Int32)), (.ref w_sw)])) rfl rfl (hb hby d1_7) _ ?_
    show Steps p.tables e below (T2.setTop (mkF m 8 #[.val (.ref a1)] [(.int (1 : Int32))])) _
    refine X2.lookupswitchHit hx (g := (mkF m 8 #[.val (.ref a1)] [(.int (1 : Int32))])) rfl (k := (1 : Int32)) rfl (hb hby d1_8) (by first | decide +kernel | rfl | simp) (a := 1) (off := 38) (by first | decide +kernel | rfl | simp) (by show (0 : Int) ≤ 8 + 38; decide) _ ?_
    show Steps p.tables e below (T2.setTop (mkF m 46 #[.val (.ref a1)] [])) _
    refine st3 _ ?_
    show Steps p.tables e below (T3.setTop (mkF m 49 #[.val (.ref a1)] [(.ref w_Outcome_ALLOW)])) _
    refine XS.goto X3.here hx rfl (pc0 := 49) (pc' := 55) rfl (hb hby d1_49) (by decide) (by decide) ?_
    show Steps p.tables e below (T3.setTop (mkF m 55 #[.val (.ref a1)] [(.ref w_Outcome_ALLOW)])) _
    jvm_step X3.here [X3.here.top, hx, (hb hby d1_55), X3.method', Bd.returns, Value.isRef, FieldType.isReference]
    first | (intro acts; rw [hr _ acts rfl rfl rfl]) | rw [hr _ _ rfl rfl rfl]
    exact Steps.refl _
  · show Q_rm1_0 Z a1 cl w_DENY w_sw w_Outcome_DENY w_ERROR w_ALLOW w_Outcome_ALLOW h0 n0 _ T3.heap _
    rw [e3]
    exact ⟨rfl, N2, rfl⟩
theorem ef_rm1_1 (m : MethodId) (x0 : Addr) : entryFrame m #[(.ref x0)] 1 = mkF m 0 #[.val (.ref x0)] [] := by first | (simp [entryFrame, mkF, argsToLocals, Value.category]; done) | rfl
def Q_rm1_1 (Z : State) (a1 : Addr) (cl : Cell) (w_DENY : Addr) (w_sw : Addr) (w_Outcome_DENY : Addr) (w_ERROR : Addr) (w_ALLOW : Addr) (w_Outcome_ALLOW : Addr) (h0 : Heap) (n0 : Nat) (v : Option Value) (h : Heap) (L : List Loc) : Prop := v = some (.ref w_Outcome_DENY) ∧ Fr n0 L ∧ h = h0
set_option maxRecDepth 65536 in
set_option maxHeartbeats 40000000 in
theorem rm1_1 (l : Launch) (Z : State) (a0 : Array Value) (hw : ∀ d ∈ tables_1, d.before a0 Z = true) (ws : List Jvm.Cond) (a1 : Addr) (cl : Cell) (w_DENY : Addr) (w_sw : Addr) (w_Outcome_DENY : Addr) (w_ERROR : Addr) (w_ALLOW : Addr) (w_Outcome_ALLOW : Addr) (h0 : Heap) (n0 : Nat) (Z0 : n0 ≤ h0.size) (WD : World Z h0 cl w_DENY w_sw w_Outcome_DENY w_ERROR w_ALLOW w_Outcome_ALLOW) (FO : Fld Z h0 a1 "java/lang/Enum" "ordinal" "I" (.int (1 : Int32))) (EX : Exa Z h0 a1 "com/example/label_gate/labelgate/Decision") :
    MetFree l (⟨"com/example/label_gate/labelgate/Outcome", "of", "(Lcom/example/label_gate/labelgate/Decision;)Lcom/example/label_gate/labelgate/Outcome;"⟩ : MethodName) (head1 (Jvm.Cond.code (⟨"com/example/label_gate/labelgate/Outcome", "of", "(Lcom/example/label_gate/labelgate/Decision;)Lcom/example/label_gate/labelgate/Outcome;"⟩ : MethodName) prog_26_method_4_code 1 (some (.object "com/example/label_gate/labelgate/Outcome")) :: ws) ({ frames := 1, cells := 0, slots := 0, locals := 13 } : Room)) (fun a U => a = #[(.ref a1)] ∧ Z.Warmed39 U.vm ∧ U.heap = h0) (fun _ _ _ _ _ => True) (fun _ U o U' => ∃ v L, o = .returned v ∧ Q_rm1_1 Z a1 cl w_DENY w_sw w_Outcome_DENY w_ERROR w_ALLOW w_Outcome_ALLOW h0 n0 v U'.heap L ∧ FrameEnd U o U' L ({ frames := 1, cells := 0, slots := 0, locals := 13 } : Room).cells ({ frames := 1, cells := 0, slots := 0, locals := 13 } : Room).slots) := by
  refine MetFree.of_bodySF (plainFor_of_name pn_1) hisR ?_
  intro p e s m args below meth c s₁ Bd hml0 hP hK
  obtain ⟨rfl, hZ, hh⟩ := hP
  have hx := Bd.exec
  have hby := Bd.bytes
  have hml : c.maxLocals = 1 := hml0
  have hown : s.vm.findClass "com/example/label_gate/labelgate/Outcome" = some m.cls := findClass_of_methodNamed Bd.named
  have hnm := (name_of_methodNamed Bd.named Bd.method).1
  have X0 : Stand p l e ({ frames := 1, cells := 0, slots := 0, locals := 13 } : Room) s m #[(.ref a1)] below meth c s₁ [] 0 0 := Stand.of_body Bd
  have e0 : s₁.heap = h0 := by rw [← hh, Bd.state]; rfl
  have N0 := Fr.nil n0
  have pre0 : ∀ t, Steps p.tables e below (s₁.setTop (mkF m 0 #[.val (.ref a1)] [])) t → Steps p.tables e below (s₁.setTop (entryFrame m #[(.ref a1)] 1)) t := fun t k => castTop (ef_rm1_1 m (a1)) k
  obtain ⟨S_DENY, E_DENY, S_sw, A_sw, F_DENY_ordinal, L_1, S_Outcome_DENY, E_Outcome_DENY, S_ERROR, E_ERROR, F_Outcome_DENY_ordinal, F_ERROR_ordinal, S_ALLOW, E_ALLOW, F_ALLOW_ordinal, L_0, S_Outcome_ALLOW, E_Outcome_ALLOW, F_Outcome_ALLOW_ordinal⟩ := WD
  obtain ⟨T1, X1, e1, st1⟩ := getS2 X0 hx hZ hown (host := "") (Or.inl (hw _ (List.mem_of_getElem? (i := 7) rfl))) Via.refl e0 S_sw (g := (mkF m 0 #[.val (.ref a1)] [])) rfl (hb hby d1_0)
  obtain ⟨cq2, kq2, q2a, q2b, q2c⟩ := isOf hZ e1 EX
  obtain ⟨_, _, ⟨T2, L2, k2, n2⟩, -, X2, ⟨Lc2, hQ2, l2, y2, z2⟩, st2⟩ := X1.virtualBackUp hx (owner := "java/lang/Enum") (x := (⟨"com/example/label_gate/labelgate/Decision", "ordinal", "()I"⟩ : MethodName)) (y := (⟨"java/lang/Enum", "ordinal", "()I"⟩ : MethodName)) hown (mvT hZ (hw _ (List.mem_of_getElem? (i := 10) rfl))) (mvT hZ (hw _ (List.mem_of_getElem? (i := 11) rfl))) (mvT hZ (hw _ (List.mem_of_getElem? (i := 12) rfl))) (by decide) (mvT hZ (hw _ (List.mem_of_getElem? (i := 14) rfl))) (mvT hZ (hw _ (List.mem_of_getElem? (i := 13) rfl))) (backOf (W := 1) (rm2 l Z a0 hw [] a1 (1 : Int32) h0 n0 Z0 FO) hZ (hw _ (List.mem_of_getElem? (i := 16) rfl)) (hw _ (List.mem_of_getElem? (i := 15) rfl)) (by decide) (by decide)) q2a q2c (g := (mkF m 4 #[.val (.ref a1)] [(.ref a1), (.ref w_sw)])) rfl (by rw [hml]; rfl) (Steps.refl _) (argsL := []) (rest := [(.ref w_sw)]) (lenOf pd_0 rfl) rfl (by show 2 * 0 + _ ≤ _; exact Nat.le_of_eq rfl) (hb hby d1_4) (fun _ _ => ⟨rfl, e1, (by decide : 0 + 0 ≤ _), (by decide : 0 + 0 ≤ _)⟩)
  dsimp only [Pt.U, Pt.locs, Pt.cells, Pt.slots] at X2 l2 y2 z2 st2 hQ2
  subst l2 y2 z2
  obtain ⟨rfl, N2q, e2⟩ := hQ2
  have N2 := Fr.app N0 N2q
  obtain ⟨T3, X3, e3, st3⟩ := getS2 X2 hx hZ hown (host := "") (Or.inl (hw _ (List.mem_of_getElem? (i := 19) rfl))) Via.refl e2 S_Outcome_DENY (g := (mkF m 52 #[.val (.ref a1)] [])) rfl (hb hby d1_52)
  obtain ⟨fs, hr, hrun, hended, hW, hsame⟩ := X3.leave (v := some (.ref w_Outcome_DENY)) (fun h => by rw [Bd.returns] at h; cases h)
  refine ⟨_, _, pre0 _ ?_, hrun, hended, _, _, rfl, ?_, ⟨_, rfl⟩, hW, hsame.mono (by decide) (by decide)⟩
  · show Steps p.tables e below (s₁.setTop (mkF m 0 #[.val (.ref a1)] [])) _
    refine st1 _ ?_
    show Steps p.tables e below (T1.setTop (mkF m 3 #[.val (.ref a1)] [(.ref w_sw)])) _
    refine XS.aloadN X1.here hx rfl (hb hby d1_3) rfl rfl ?_
    show Steps p.tables e below (T1.setTop (mkF m 4 #[.val (.ref a1)] [(.ref a1), (.ref w_sw)])) _
    refine st2.trans ?_
    show Steps p.tables e below (T2.setTop (mkF m 7 #[.val (.ref a1)] [(.int (1 : Int32)), (.ref w_sw)])) _
    refine X2.iaload hx (j := (1 : Int32)) (v := (.int (2 : Int32))) (by rw [e2]; exact (A_sw).1) (State.isArrayOf_alike hZ.alike (A_sw).2.1) (A_sw).2.2 (own_in (by decide) L_1) L_1 (g := (mkF m 7 #[.val (.ref a1)] [(.int (1 : Int32)), (.ref w_sw)])) rfl rfl (hb hby d1_7) _ ?_
    show Steps p.tables e below (T2.setTop (mkF m 8 #[.val (.ref a1)] [(.int (2 : Int32))])) _
    refine X2.lookupswitchHit hx (g := (mkF m 8 #[.val (.ref a1)] [(.int (2 : Int32))])) rfl (k := (2 : Int32)) rfl (hb hby d1_8) (by first | decide +kernel | rfl | simp) (a := 2) (off := 44) (by first | decide +kernel | rfl | simp) (by show (0 : Int) ≤ 8 + 44; decide) _ ?_
    show Steps p.tables e below (T2.setTop (mkF m 52 #[.val (.ref a1)] [])) _
    refine st3 _ ?_
    show Steps p.tables e below (T3.setTop (mkF m 55 #[.val (.ref a1)] [(.ref w_Outcome_DENY)])) _
    jvm_step X3.here [X3.here.top, hx, (hb hby d1_55), X3.method', Bd.returns, Value.isRef, FieldType.isReference]
    first | (intro acts; rw [hr _ acts rfl rfl rfl]) | rw [hr _ _ rfl rfl rfl]
    exact Steps.refl _
  · show Q_rm1_1 Z a1 cl w_DENY w_sw w_Outcome_DENY w_ERROR w_ALLOW w_Outcome_ALLOW h0 n0 _ T3.heap _
    rw [e3]
    exact ⟨rfl, N2, rfl⟩
theorem pd_1 : parseMethodDescriptor "(Lcom/example/label_gate/labelgate/Decision;)Lcom/example/label_gate/labelgate/Outcome;" = some ⟨[(.object "com/example/label_gate/labelgate/Decision")], some (.object "com/example/label_gate/labelgate/Outcome")⟩ := by decide +kernel
theorem pn_2 : plainName "com/example/label_gate/labelgate/OutcomeOfPinLaw" = true := by first | (simp [plainName, overriddenIn]; done) | decide +kernel
theorem ef_rm0 (m : MethodId) (x0 : Int32) : entryFrame m #[(.int x0)] maxLocals = mkF m 0 #[.val (.int x0), .unset, .unset, .unset] [] := by first | (simp [entryFrame, mkF, argsToLocals, Value.category, maxLocals]; done) | rfl
def Q_rm0 (Z : State) (p0 : Int32) (cl : Cell) (w_DENY : Addr) (w_sw : Addr) (w_Outcome_DENY : Addr) (w_ERROR : Addr) (w_ALLOW : Addr) (w_Outcome_ALLOW : Addr) (h0 : Heap) (n0 : Nat) (v : Option Value) (h : Heap) (L : List Loc) : Prop := v = some (.int (1 : Int32)) ∧ Fr n0 L ∧ h = h0
set_option maxRecDepth 65536 in
set_option maxHeartbeats 40000000 in
theorem rm0 (l : Launch) (Z : State) (a0 : Array Value) (hw : ∀ d ∈ tables_1, d.before a0 Z = true) (ws : List Jvm.Cond) (p0 : Int32) (cl : Cell) (w_DENY : Addr) (w_sw : Addr) (w_Outcome_DENY : Addr) (w_ERROR : Addr) (w_ALLOW : Addr) (w_Outcome_ALLOW : Addr) (h0 : Heap) (n0 : Nat) (Z0 : n0 ≤ h0.size) (WD : World Z h0 cl w_DENY w_sw w_Outcome_DENY w_ERROR w_ALLOW w_Outcome_ALLOW) :
    MetFree l x (head1 (Jvm.Cond.code x code maxLocals ret :: ws) room_1) (fun a U => a = #[(.int p0)] ∧ Z.Warmed39 U.vm ∧ U.heap = h0) (fun _ _ _ _ _ => True) (fun _ U o U' => ∃ v L, o = .returned v ∧ Q_rm0 Z p0 cl w_DENY w_sw w_Outcome_DENY w_ERROR w_ALLOW w_Outcome_ALLOW h0 n0 v U'.heap L ∧ FrameEnd U o U' L room_1.cells room_1.slots) := by
  refine MetFree.of_bodySF (plainFor_of_name pn_2) hisR ?_
  intro p e s m args below meth c s₁ Bd hml0 hP hK
  obtain ⟨rfl, hZ, hh⟩ := hP
  have hx := Bd.exec
  have hby := Bd.bytes
  have hml : c.maxLocals = 4 := hml0
  have hown : s.vm.findClass "com/example/label_gate/labelgate/OutcomeOfPinLaw" = some m.cls := findClass_of_methodNamed Bd.named
  have hnm := (name_of_methodNamed Bd.named Bd.method).1
  have X0 : Stand p l e room_1 s m #[(.int p0)] below meth c s₁ [] 0 0 := Stand.of_body Bd
  have e0 : s₁.heap = h0 := by rw [← hh, Bd.state]; rfl
  have N0 := Fr.nil n0
  have pre0 : ∀ t, Steps p.tables e below (s₁.setTop (mkF m 0 #[.val (.int p0), .unset, .unset, .unset] [])) t → Steps p.tables e below (s₁.setTop (entryFrame m #[(.int p0)] maxLocals)) t := fun t k => castTop (ef_rm0 m (p0)) k
  obtain ⟨S_DENY, E_DENY, S_sw, A_sw, F_DENY_ordinal, L_1, S_Outcome_DENY, E_Outcome_DENY, S_ERROR, E_ERROR, F_Outcome_DENY_ordinal, F_ERROR_ordinal, S_ALLOW, E_ALLOW, F_ALLOW_ordinal, L_0, S_Outcome_ALLOW, E_Outcome_ALLOW, F_Outcome_ALLOW_ordinal⟩ := id WD
  have ne_DENY_ALLOW : ¬ (w_DENY = w_ALLOW) := own_ne F_DENY_ordinal F_ALLOW_ordinal (by decide)
  have ne_Outcome_DENY_ERROR : ¬ (w_Outcome_DENY = w_ERROR) := own_ne F_Outcome_DENY_ordinal F_ERROR_ordinal (by decide)
  have ne_Outcome_DENY_Outcome_ALLOW : ¬ (w_Outcome_DENY = w_Outcome_ALLOW) := own_ne F_Outcome_DENY_ordinal F_Outcome_ALLOW_ordinal (by decide)
  have ne_ERROR_Outcome_DENY : ¬ (w_ERROR = w_Outcome_DENY) := own_ne F_ERROR_ordinal F_Outcome_DENY_ordinal (by decide)
  have ne_ERROR_Outcome_ALLOW : ¬ (w_ERROR = w_Outcome_ALLOW) := own_ne F_ERROR_ordinal F_Outcome_ALLOW_ordinal (by decide)
  have ne_ALLOW_DENY : ¬ (w_ALLOW = w_DENY) := own_ne F_ALLOW_ordinal F_DENY_ordinal (by decide)
  have ne_Outcome_ALLOW_Outcome_DENY : ¬ (w_Outcome_ALLOW = w_Outcome_DENY) := own_ne F_Outcome_ALLOW_ordinal F_Outcome_DENY_ordinal (by decide)
  have ne_Outcome_ALLOW_ERROR : ¬ (w_Outcome_ALLOW = w_ERROR) := own_ne F_Outcome_ALLOW_ordinal F_ERROR_ordinal (by decide)
  by_cases hc1 : (p0 &&& (1 : Int32)) = (0 : Int32)
  · obtain ⟨T2, X2, e2, st2⟩ := getS2 X0 hx hZ hown (host := "") (Or.inl (hw _ (List.mem_of_getElem? (i := 0) rfl))) Via.refl e0 S_DENY (g := (mkF m 22 #[.val (.int p0), .val (.int (0 : Int32)), .unset, .unset] [])) rfl (hb hby at_22)
    obtain ⟨_, _, ⟨T3, L3, k3, n3⟩, -, X3, ⟨Lc3, hQ3, l3, y3, z3⟩, st3⟩ := Jvm.LawKit.callS X2 hx (y := (⟨"com/example/label_gate/labelgate/Outcome", "of", "(Lcom/example/label_gate/labelgate/Decision;)Lcom/example/label_gate/labelgate/Outcome;"⟩ : MethodName)) hown (mvT hZ (hw _ (List.mem_of_getElem? (i := 3) rfl))) (mvT hZ (hw _ (List.mem_of_getElem? (i := 4) rfl))) (mvT hZ (hw _ (List.mem_of_getElem? (i := 5) rfl))) (mvT hZ (hw _ (List.mem_of_getElem? (i := 6) rfl))) (by decide) (backOf (W := 0) (rm1_1 l Z a0 hw [] w_DENY cl w_DENY w_sw w_Outcome_DENY w_ERROR w_ALLOW w_Outcome_ALLOW h0 n0 Z0 WD F_DENY_ordinal E_DENY) hZ (hw _ (List.mem_of_getElem? (i := 6) rfl)) (hw _ (List.mem_of_getElem? (i := 5) rfl)) (by decide) (by decide)) (g := (mkF m 27 #[.val (.int p0), .val (.int (0 : Int32)), .val (.ref w_DENY), .unset] [(.ref w_DENY)])) rfl (by rw [hml]; rfl) (argsL := [(.ref w_DENY)]) (rest := []) (lenOf pd_1 rfl) rfl (by show 2 * 0 + _ ≤ _; exact Nat.le_of_eq rfl) (hb hby at_27) (fun _ _ => ⟨rfl, e2, (by decide : 0 + 0 ≤ _), (by decide : 0 + 0 ≤ _)⟩)
    dsimp only [Pt.U, Pt.locs, Pt.cells, Pt.slots] at X3 l3 y3 z3 st3 hQ3
    subst l3 y3 z3
    obtain ⟨rfl, N3q, e3⟩ := hQ3
    have N3 := Fr.app N0 N3q
    obtain ⟨T4, X4, e4, st4⟩ := getS2 X3 hx hZ hown (host := "") (Or.inl (hw _ (List.mem_of_getElem? (i := 21) rfl))) Via.refl e3 S_ERROR (g := (mkF m 32 #[.val (.int p0), .val (.int (0 : Int32)), .val (.ref w_DENY), .val (.ref w_Outcome_DENY)] [(.ref w_Outcome_DENY)])) rfl (hb hby at_32)
    obtain ⟨T5, X5, e5, st5⟩ := getS2 X4 hx hZ hown (host := "") (Or.inl (hw _ (List.mem_of_getElem? (i := 23) rfl))) Via.refl e4 S_Outcome_DENY (g := (mkF m 58 #[.val (.int p0), .val (.int (0 : Int32)), .val (.ref w_DENY), .val (.ref w_Outcome_DENY)] [(.ref w_Outcome_DENY)])) rfl (hb hby at_58)
    obtain ⟨fs, hr, hrun, hended, hW, hsame⟩ := X5.leave (v := some (.int (1 : Int32))) (fun h => by rw [Bd.returns] at h; cases h)
    refine ⟨_, _, pre0 _ ?_, hrun, hended, _, _, rfl, ?_, ⟨_, rfl⟩, hW, hsame.mono (by decide) (by decide)⟩
    · show Steps p.tables e below (s₁.setTop (mkF m 0 #[.val (.int p0), .unset, .unset, .unset] [])) _
      refine XS.iloadN X0.here hx rfl (hb hby at_0) rfl ?_
      show Steps p.tables e below (s₁.setTop (mkF m 1 #[.val (.int p0), .unset, .unset, .unset] [(.int p0)])) _
      refine XS.iconst X0.here hx rfl (hb hby at_1) ?_
      show Steps p.tables e below (s₁.setTop (mkF m 2 #[.val (.int p0), .unset, .unset, .unset] [(.int (1 : Int32)), (.int p0)])) _
      refine XS.iand X0.here hx rfl (hb hby at_2) rfl ?_
      show Steps p.tables e below (s₁.setTop (mkF m 3 #[.val (.int p0), .unset, .unset, .unset] [(.int (p0 &&& (1 : Int32)))])) _
      refine XS.ifYes X0.here hx rfl (pc0 := 3) (pc' := 10) rfl (hb hby at_3) rfl ((if0 _ _).trans (teq hc1).1) (by decide) (by decide) ?_
      show Steps p.tables e below (s₁.setTop (mkF m 10 #[.val (.int p0), .unset, .unset, .unset] [])) _
      refine XS.iconst X0.here hx rfl (hb hby at_10) ?_
      show Steps p.tables e below (s₁.setTop (mkF m 11 #[.val (.int p0), .unset, .unset, .unset] [(.int (0 : Int32))])) _
      refine XS.istoreN X0.here hx rfl (hb hby at_11) rfl (l' := #[.val (.int p0), .val (.int (0 : Int32)), .unset, .unset]) rfl ?_
      show Steps p.tables e below (s₁.setTop (mkF m 12 #[.val (.int p0), .val (.int (0 : Int32)), .unset, .unset] [])) _
      refine XS.iloadN X0.here hx rfl (hb hby at_12) rfl ?_
      show Steps p.tables e below (s₁.setTop (mkF m 13 #[.val (.int p0), .val (.int (0 : Int32)), .unset, .unset] [(.int (0 : Int32))])) _
      refine XS.ifYes X0.here hx rfl (pc0 := 13) (pc' := 22) rfl (hb hby at_13) rfl ((if0 _ _).trans (teq (by decide : (0 : Int32) = (0 : Int32))).1) (by decide) (by decide) ?_
      show Steps p.tables e below (s₁.setTop (mkF m 22 #[.val (.int p0), .val (.int (0 : Int32)), .unset, .unset] [])) _
      refine st2 _ ?_
      show Steps p.tables e below (T2.setTop (mkF m 25 #[.val (.int p0), .val (.int (0 : Int32)), .unset, .unset] [(.ref w_DENY)])) _
      refine XS.astoreN X2.here hx rfl (hb hby at_25) rfl rfl (l' := #[.val (.int p0), .val (.int (0 : Int32)), .val (.ref w_DENY), .unset]) rfl ?_
      show Steps p.tables e below (T2.setTop (mkF m 26 #[.val (.int p0), .val (.int (0 : Int32)), .val (.ref w_DENY), .unset] [])) _
      refine XS.aloadN X2.here hx rfl (hb hby at_26) rfl rfl ?_
      show Steps p.tables e below (T2.setTop (mkF m 27 #[.val (.int p0), .val (.int (0 : Int32)), .val (.ref w_DENY), .unset] [(.ref w_DENY)])) _
      refine st3 _ ?_
      show Steps p.tables e below (T3.setTop (mkF m 30 #[.val (.int p0), .val (.int (0 : Int32)), .val (.ref w_DENY), .unset] [(.ref w_Outcome_DENY)])) _
      refine XS.astoreN X3.here hx rfl (hb hby at_30) rfl rfl (l' := #[.val (.int p0), .val (.int (0 : Int32)), .val (.ref w_DENY), .val (.ref w_Outcome_DENY)]) rfl ?_
      show Steps p.tables e below (T3.setTop (mkF m 31 #[.val (.int p0), .val (.int (0 : Int32)), .val (.ref w_DENY), .val (.ref w_Outcome_DENY)] [])) _
      refine XS.aloadN X3.here hx rfl (hb hby at_31) rfl rfl ?_
      show Steps p.tables e below (T3.setTop (mkF m 32 #[.val (.int p0), .val (.int (0 : Int32)), .val (.ref w_DENY), .val (.ref w_Outcome_DENY)] [(.ref w_Outcome_DENY)])) _
      refine st4 _ ?_
      show Steps p.tables e below (T4.setTop (mkF m 35 #[.val (.int p0), .val (.int (0 : Int32)), .val (.ref w_DENY), .val (.ref w_Outcome_DENY)] [(.ref w_ERROR), (.ref w_Outcome_DENY)])) _
      refine Jvm.RoadKit.acmp (g := (mkF m 35 #[.val (.int p0), .val (.int (0 : Int32)), .val (.ref w_DENY), .val (.ref w_Outcome_DENY)] [(.ref w_ERROR), (.ref w_Outcome_DENY)])) X4 hx rfl rfl rfl (pc0 := 35) (pc' := 40) (same := false) rfl (hb hby at_35) rfl (decide_eq_false fun q => ne_Outcome_DENY_ERROR (Value.ref.inj q)) (by decide) (by decide) ?_
      show Steps p.tables e below (T4.setTop (mkF m 40 #[.val (.int p0), .val (.int (0 : Int32)), .val (.ref w_DENY), .val (.ref w_Outcome_DENY)] [])) _
      refine XS.iloadN X4.here hx rfl (hb hby at_40) rfl ?_
      show Steps p.tables e below (T4.setTop (mkF m 41 #[.val (.int p0), .val (.int (0 : Int32)), .val (.ref w_DENY), .val (.ref w_Outcome_DENY)] [(.int (0 : Int32))])) _
      refine XS.ifYes X4.here hx rfl (pc0 := 41) (pc' := 57) rfl (hb hby at_41) rfl ((if0 _ _).trans (teq (by decide : (0 : Int32) = (0 : Int32))).1) (by decide) (by decide) ?_
      show Steps p.tables e below (T4.setTop (mkF m 57 #[.val (.int p0), .val (.int (0 : Int32)), .val (.ref w_DENY), .val (.ref w_Outcome_DENY)] [])) _
      refine XS.aloadN X4.here hx rfl (hb hby at_57) rfl rfl ?_
      show Steps p.tables e below (T4.setTop (mkF m 58 #[.val (.int p0), .val (.int (0 : Int32)), .val (.ref w_DENY), .val (.ref w_Outcome_DENY)] [(.ref w_Outcome_DENY)])) _
      refine st5 _ ?_
      show Steps p.tables e below (T5.setTop (mkF m 61 #[.val (.int p0), .val (.int (0 : Int32)), .val (.ref w_DENY), .val (.ref w_Outcome_DENY)] [(.ref w_Outcome_DENY), (.ref w_Outcome_DENY)])) _
      refine Jvm.RoadKit.acmp (g := (mkF m 61 #[.val (.int p0), .val (.int (0 : Int32)), .val (.ref w_DENY), .val (.ref w_Outcome_DENY)] [(.ref w_Outcome_DENY), (.ref w_Outcome_DENY)])) X5 hx rfl rfl rfl (pc0 := 61) (pc' := 64) (same := true) rfl (hb hby at_61) rfl (decide_eq_true rfl) (by decide) (by decide) ?_
      show Steps p.tables e below (T5.setTop (mkF m 64 #[.val (.int p0), .val (.int (0 : Int32)), .val (.ref w_DENY), .val (.ref w_Outcome_DENY)] [])) _
      refine XS.iconst X5.here hx rfl (hb hby at_64) ?_
      show Steps p.tables e below (T5.setTop (mkF m 65 #[.val (.int p0), .val (.int (0 : Int32)), .val (.ref w_DENY), .val (.ref w_Outcome_DENY)] [(.int (1 : Int32))])) _
      refine XS.goto X5.here hx rfl (pc0 := 65) (pc' := 69) rfl (hb hby at_65) (by decide) (by decide) ?_
      show Steps p.tables e below (T5.setTop (mkF m 69 #[.val (.int p0), .val (.int (0 : Int32)), .val (.ref w_DENY), .val (.ref w_Outcome_DENY)] [(.int (1 : Int32))])) _
      exact retN X5 hx (t := .boolean) Bd.returns (by simp) (hb hby at_69) hr
    · show Q_rm0 Z p0 cl w_DENY w_sw w_Outcome_DENY w_ERROR w_ALLOW w_Outcome_ALLOW h0 n0 _ T5.heap _
      rw [e5]
      exact ⟨rfl, N3, rfl⟩
  · obtain ⟨T6, X6, e6, st6⟩ := getS2 X0 hx hZ hown (host := "") (Or.inl (hw _ (List.mem_of_getElem? (i := 24) rfl))) Via.refl e0 S_ALLOW (g := (mkF m 16 #[.val (.int p0), .val (.int (1 : Int32)), .unset, .unset] [])) rfl (hb hby at_16)
    obtain ⟨_, _, ⟨T7, L7, k7, n7⟩, -, X7, ⟨Lc7, hQ7, l7, y7, z7⟩, st7⟩ := Jvm.LawKit.callS X6 hx (y := (⟨"com/example/label_gate/labelgate/Outcome", "of", "(Lcom/example/label_gate/labelgate/Decision;)Lcom/example/label_gate/labelgate/Outcome;"⟩ : MethodName)) hown (mvT hZ (hw _ (List.mem_of_getElem? (i := 3) rfl))) (mvT hZ (hw _ (List.mem_of_getElem? (i := 4) rfl))) (mvT hZ (hw _ (List.mem_of_getElem? (i := 5) rfl))) (mvT hZ (hw _ (List.mem_of_getElem? (i := 6) rfl))) (by decide) (backOf (W := 0) (rm1_0 l Z a0 hw [] w_ALLOW cl w_DENY w_sw w_Outcome_DENY w_ERROR w_ALLOW w_Outcome_ALLOW h0 n0 Z0 WD F_ALLOW_ordinal E_ALLOW) hZ (hw _ (List.mem_of_getElem? (i := 6) rfl)) (hw _ (List.mem_of_getElem? (i := 5) rfl)) (by decide) (by decide)) (g := (mkF m 27 #[.val (.int p0), .val (.int (1 : Int32)), .val (.ref w_ALLOW), .unset] [(.ref w_ALLOW)])) rfl (by rw [hml]; rfl) (argsL := [(.ref w_ALLOW)]) (rest := []) (lenOf pd_1 rfl) rfl (by show 2 * 0 + _ ≤ _; exact Nat.le_of_eq rfl) (hb hby at_27) (fun _ _ => ⟨rfl, e6, (by decide : 0 + 0 ≤ _), (by decide : 0 + 0 ≤ _)⟩)
    dsimp only [Pt.U, Pt.locs, Pt.cells, Pt.slots] at X7 l7 y7 z7 st7 hQ7
    subst l7 y7 z7
    obtain ⟨rfl, N7q, e7⟩ := hQ7
    have N7 := Fr.app N0 N7q
    obtain ⟨T8, X8, e8, st8⟩ := getS2 X7 hx hZ hown (host := "") (Or.inl (hw _ (List.mem_of_getElem? (i := 21) rfl))) Via.refl e7 S_ERROR (g := (mkF m 32 #[.val (.int p0), .val (.int (1 : Int32)), .val (.ref w_ALLOW), .val (.ref w_Outcome_ALLOW)] [(.ref w_Outcome_ALLOW)])) rfl (hb hby at_32)
    obtain ⟨T9, X9, e9, st9⟩ := getS2 X8 hx hZ hown (host := "") (Or.inl (hw _ (List.mem_of_getElem? (i := 28) rfl))) Via.refl e8 S_Outcome_ALLOW (g := (mkF m 45 #[.val (.int p0), .val (.int (1 : Int32)), .val (.ref w_ALLOW), .val (.ref w_Outcome_ALLOW)] [(.ref w_Outcome_ALLOW)])) rfl (hb hby at_45)
    obtain ⟨fs, hr, hrun, hended, hW, hsame⟩ := X9.leave (v := some (.int (1 : Int32))) (fun h => by rw [Bd.returns] at h; cases h)
    refine ⟨_, _, pre0 _ ?_, hrun, hended, _, _, rfl, ?_, ⟨_, rfl⟩, hW, hsame.mono (by decide) (by decide)⟩
    · show Steps p.tables e below (s₁.setTop (mkF m 0 #[.val (.int p0), .unset, .unset, .unset] [])) _
      refine XS.iloadN X0.here hx rfl (hb hby at_0) rfl ?_
      show Steps p.tables e below (s₁.setTop (mkF m 1 #[.val (.int p0), .unset, .unset, .unset] [(.int p0)])) _
      refine XS.iconst X0.here hx rfl (hb hby at_1) ?_
      show Steps p.tables e below (s₁.setTop (mkF m 2 #[.val (.int p0), .unset, .unset, .unset] [(.int (1 : Int32)), (.int p0)])) _
      refine XS.iand X0.here hx rfl (hb hby at_2) rfl ?_
      show Steps p.tables e below (s₁.setTop (mkF m 3 #[.val (.int p0), .unset, .unset, .unset] [(.int (p0 &&& (1 : Int32)))])) _
      refine XS.ifNo X0.here hx rfl (hb hby at_3) rfl ((if0 _ _).trans (feq hc1).1) ?_
      show Steps p.tables e below (s₁.setTop (mkF m 6 #[.val (.int p0), .unset, .unset, .unset] [])) _
      refine XS.iconst X0.here hx rfl (hb hby at_6) ?_
      show Steps p.tables e below (s₁.setTop (mkF m 7 #[.val (.int p0), .unset, .unset, .unset] [(.int (1 : Int32))])) _
      refine XS.goto X0.here hx rfl (pc0 := 7) (pc' := 11) rfl (hb hby at_7) (by decide) (by decide) ?_
      show Steps p.tables e below (s₁.setTop (mkF m 11 #[.val (.int p0), .unset, .unset, .unset] [(.int (1 : Int32))])) _
      refine XS.istoreN X0.here hx rfl (hb hby at_11) rfl (l' := #[.val (.int p0), .val (.int (1 : Int32)), .unset, .unset]) rfl ?_
      show Steps p.tables e below (s₁.setTop (mkF m 12 #[.val (.int p0), .val (.int (1 : Int32)), .unset, .unset] [])) _
      refine XS.iloadN X0.here hx rfl (hb hby at_12) rfl ?_
      show Steps p.tables e below (s₁.setTop (mkF m 13 #[.val (.int p0), .val (.int (1 : Int32)), .unset, .unset] [(.int (1 : Int32))])) _
      refine XS.ifNo X0.here hx rfl (hb hby at_13) rfl ((if0 _ _).trans (feq (by decide : ¬ ((1 : Int32) = (0 : Int32)))).1) ?_
      show Steps p.tables e below (s₁.setTop (mkF m 16 #[.val (.int p0), .val (.int (1 : Int32)), .unset, .unset] [])) _
      refine st6 _ ?_
      show Steps p.tables e below (T6.setTop (mkF m 19 #[.val (.int p0), .val (.int (1 : Int32)), .unset, .unset] [(.ref w_ALLOW)])) _
      refine XS.goto X6.here hx rfl (pc0 := 19) (pc' := 25) rfl (hb hby at_19) (by decide) (by decide) ?_
      show Steps p.tables e below (T6.setTop (mkF m 25 #[.val (.int p0), .val (.int (1 : Int32)), .unset, .unset] [(.ref w_ALLOW)])) _
      refine XS.astoreN X6.here hx rfl (hb hby at_25) rfl rfl (l' := #[.val (.int p0), .val (.int (1 : Int32)), .val (.ref w_ALLOW), .unset]) rfl ?_
      show Steps p.tables e below (T6.setTop (mkF m 26 #[.val (.int p0), .val (.int (1 : Int32)), .val (.ref w_ALLOW), .unset] [])) _
      refine XS.aloadN X6.here hx rfl (hb hby at_26) rfl rfl ?_
      show Steps p.tables e below (T6.setTop (mkF m 27 #[.val (.int p0), .val (.int (1 : Int32)), .val (.ref w_ALLOW), .unset] [(.ref w_ALLOW)])) _
      refine st7 _ ?_
      show Steps p.tables e below (T7.setTop (mkF m 30 #[.val (.int p0), .val (.int (1 : Int32)), .val (.ref w_ALLOW), .unset] [(.ref w_Outcome_ALLOW)])) _
      refine XS.astoreN X7.here hx rfl (hb hby at_30) rfl rfl (l' := #[.val (.int p0), .val (.int (1 : Int32)), .val (.ref w_ALLOW), .val (.ref w_Outcome_ALLOW)]) rfl ?_
      show Steps p.tables e below (T7.setTop (mkF m 31 #[.val (.int p0), .val (.int (1 : Int32)), .val (.ref w_ALLOW), .val (.ref w_Outcome_ALLOW)] [])) _
      refine XS.aloadN X7.here hx rfl (hb hby at_31) rfl rfl ?_
      show Steps p.tables e below (T7.setTop (mkF m 32 #[.val (.int p0), .val (.int (1 : Int32)), .val (.ref w_ALLOW), .val (.ref w_Outcome_ALLOW)] [(.ref w_Outcome_ALLOW)])) _
      refine st8 _ ?_
      show Steps p.tables e below (T8.setTop (mkF m 35 #[.val (.int p0), .val (.int (1 : Int32)), .val (.ref w_ALLOW), .val (.ref w_Outcome_ALLOW)] [(.ref w_ERROR), (.ref w_Outcome_ALLOW)])) _
      refine Jvm.RoadKit.acmp (g := (mkF m 35 #[.val (.int p0), .val (.int (1 : Int32)), .val (.ref w_ALLOW), .val (.ref w_Outcome_ALLOW)] [(.ref w_ERROR), (.ref w_Outcome_ALLOW)])) X8 hx rfl rfl rfl (pc0 := 35) (pc' := 40) (same := false) rfl (hb hby at_35) rfl (decide_eq_false fun q => ne_Outcome_ALLOW_ERROR (Value.ref.inj q)) (by decide) (by decide) ?_
      show Steps p.tables e below (T8.setTop (mkF m 40 #[.val (.int p0), .val (.int (1 : Int32)), .val (.ref w_ALLOW), .val (.ref w_Outcome_ALLOW)] [])) _
      refine XS.iloadN X8.here hx rfl (hb hby at_40) rfl ?_
      show Steps p.tables e below (T8.setTop (mkF m 41 #[.val (.int p0), .val (.int (1 : Int32)), .val (.ref w_ALLOW), .val (.ref w_Outcome_ALLOW)] [(.int (1 : Int32))])) _
      refine XS.ifNo X8.here hx rfl (hb hby at_41) rfl ((if0 _ _).trans (feq (by decide : ¬ ((1 : Int32) = (0 : Int32)))).1) ?_
      show Steps p.tables e below (T8.setTop (mkF m 44 #[.val (.int p0), .val (.int (1 : Int32)), .val (.ref w_ALLOW), .val (.ref w_Outcome_ALLOW)] [])) _
      refine XS.aloadN X8.here hx rfl (hb hby at_44) rfl rfl ?_
      show Steps p.tables e below (T8.setTop (mkF m 45 #[.val (.int p0), .val (.int (1 : Int32)), .val (.ref w_ALLOW), .val (.ref w_Outcome_ALLOW)] [(.ref w_Outcome_ALLOW)])) _
      refine st9 _ ?_
      show Steps p.tables e below (T9.setTop (mkF m 48 #[.val (.int p0), .val (.int (1 : Int32)), .val (.ref w_ALLOW), .val (.ref w_Outcome_ALLOW)] [(.ref w_Outcome_ALLOW), (.ref w_Outcome_ALLOW)])) _
      refine Jvm.RoadKit.acmp (g := (mkF m 48 #[.val (.int p0), .val (.int (1 : Int32)), .val (.ref w_ALLOW), .val (.ref w_Outcome_ALLOW)] [(.ref w_Outcome_ALLOW), (.ref w_Outcome_ALLOW)])) X9 hx rfl rfl rfl (pc0 := 48) (pc' := 51) (same := true) rfl (hb hby at_48) rfl (decide_eq_true rfl) (by decide) (by decide) ?_
      show Steps p.tables e below (T9.setTop (mkF m 51 #[.val (.int p0), .val (.int (1 : Int32)), .val (.ref w_ALLOW), .val (.ref w_Outcome_ALLOW)] [])) _
      refine XS.iconst X9.here hx rfl (hb hby at_51) ?_
      show Steps p.tables e below (T9.setTop (mkF m 52 #[.val (.int p0), .val (.int (1 : Int32)), .val (.ref w_ALLOW), .val (.ref w_Outcome_ALLOW)] [(.int (1 : Int32))])) _
      refine XS.goto X9.here hx rfl (pc0 := 52) (pc' := 56) rfl (hb hby at_52) (by decide) (by decide) ?_
      show Steps p.tables e below (T9.setTop (mkF m 56 #[.val (.int p0), .val (.int (1 : Int32)), .val (.ref w_ALLOW), .val (.ref w_Outcome_ALLOW)] [(.int (1 : Int32))])) _
      exact retN X9 hx (t := .boolean) Bd.returns (by simp) (hb hby at_56) hr
    · show Q_rm0 Z p0 cl w_DENY w_sw w_Outcome_DENY w_ERROR w_ALLOW w_Outcome_ALLOW h0 n0 _ T9.heap _
      rw [e9]
      exact ⟨rfl, N7, rfl⟩
set_option maxRecDepth 65536 in
set_option maxHeartbeats 40000000 in
theorem comes_1 {Post : Tables → Env → Array Value → State → Outcome → State → Prop} (hpost : ∀ tb e args s v u, (limb_1_1.after args s (.returned v) u = true ∧ limb_1_2.after args s (.returned v) u = true ∧ True) → FrameEnd s (.returned v) u (Jvm.fieldLocs frame_1_writes args s ++ Jvm.arrayLocs frame_1_arrays args s ++ Jvm.staticLocs frame_1_statics s) 0 0 → Post tb e args s (.returned v) u) :
    ArmFor flags0 classFile x code maxLocals ret World_1 tables_1 room_1 Calls_1 rest_1 Pre_1 Post := by
  intro l hfl _ _ p e ha hc hk s m args below hf hA hF happ hP
  obtain ⟨hcalls, hrest, hpre⟩ := hP
  obtain ⟨-, -, -, hnamed, -, -, -, hat⟩ := (Spec.applies_iff hf).mp happ
  obtain ⟨hg, hn⟩ := and_e (Cond.before_iff.mp (show (Jvm.Cond.and given_1 narrow_1).before args s = true from hpre))
  obtain ⟨hg1a, hg1b⟩ := and_e hg
  obtain ⟨w0, rfl⟩ : ∃ w0 : Value, args = #[w0] := by
    have hs : args.size = 1 := by simpa [Cond.value, given_1] using hg1a
    obtain ⟨L⟩ := args
    match L, hs with
    | [w0], _ => exact ⟨w0, rfl⟩
  have hw := fun d (hd : d ∈ tables_1) => atoms_spec (ws := Jvm.Cond.code x code maxLocals ret :: tables_1) hat d (List.mem_cons_of_mem _ hd)
  have hfit : Fit s := fun {y c} hc i hi => by
    obtain ⟨ha, rfl⟩ := Array.getElem?_eq_some_iff.mp hc
    have q := List.all_eq_true.mp ((Array.all_eq_true_iff_forall_mem.mp hF) _ (Array.getElem_mem ha)) i (List.mem_range.mpr hi)
    simpa [Array.getElem?_eq_getElem hi] using q
  obtain ⟨i0, ei0⟩ := is_v hg1b
  obtain rfl : w0 = (.int i0) := Option.some.inj ei0
  obtain ⟨hn1a, hn1b⟩ := and_e hn
  obtain ⟨hn2a, hn2b⟩ := and_e hn1b
  obtain ⟨hn3a, hn3b⟩ := and_e hn2b
  obtain ⟨hn4a, hn4b⟩ := and_e hn3b
  obtain ⟨hn5a, hn5b⟩ := and_e hn4b
  obtain ⟨hn6a, hn6b⟩ := and_e hn5b
  obtain ⟨hn7a, hn7b⟩ := and_e hn6b
  obtain ⟨hn8a, hn8b⟩ := and_e hn7b
  obtain ⟨hn9a, hn9b⟩ := and_e hn8b
  obtain ⟨hn10a, hn10b⟩ := and_e hn9b
  obtain ⟨hn11a, hn11b⟩ := and_e hn10b
  obtain ⟨hn12a, hn12b⟩ := and_e hn11b
  obtain ⟨hn13a, hn13b⟩ := and_e hn12b
  obtain ⟨w_DENY, evw_DENY⟩ := exa_v hn1a
  have E_DENY := Exa.start evw_DENY hn1a
  have S_DENY := Sta.start evw_DENY (Or.inr ⟨(hw _ (List.mem_of_getElem? (i := 1) rfl)), (hw _ (List.mem_of_getElem? (i := 2) rfl))⟩)
  obtain ⟨w_Outcome_DENY, evw_Outcome_DENY⟩ := exa_v hn6a
  have E_Outcome_DENY := Exa.start evw_Outcome_DENY hn6a
  have S_Outcome_DENY := Sta.start evw_Outcome_DENY (Or.inr ⟨(hw _ (List.mem_of_getElem? (i := 5) rfl)), (hw _ (List.mem_of_getElem? (i := 20) rfl))⟩)
  obtain ⟨w_ERROR, evw_ERROR⟩ := exa_v hn7a
  have E_ERROR := Exa.start evw_ERROR hn7a
  have S_ERROR := Sta.start evw_ERROR (Or.inr ⟨(hw _ (List.mem_of_getElem? (i := 5) rfl)), (hw _ (List.mem_of_getElem? (i := 22) rfl))⟩)
  obtain ⟨w_ALLOW, evw_ALLOW⟩ := exa_v hn10a
  have E_ALLOW := Exa.start evw_ALLOW hn10a
  have S_ALLOW := Sta.start evw_ALLOW (Or.inr ⟨(hw _ (List.mem_of_getElem? (i := 1) rfl)), (hw _ (List.mem_of_getElem? (i := 25) rfl))⟩)
  obtain ⟨w_Outcome_ALLOW, evw_Outcome_ALLOW⟩ := exa_v hn13a
  have E_Outcome_ALLOW := Exa.start evw_Outcome_ALLOW hn13a
  have S_Outcome_ALLOW := Sta.start evw_Outcome_ALLOW (Or.inr ⟨(hw _ (List.mem_of_getElem? (i := 5) rfl)), (hw _ (List.mem_of_getElem? (i := 27) rfl))⟩)
  have F_DENY_ordinal := own_fldI evw_DENY hn4a
  have F_Outcome_DENY_ordinal := own_fldI evw_Outcome_DENY hn8a
  have F_ERROR_ordinal := own_fldI evw_ERROR hn9a
  have F_ALLOW_ordinal := own_fldI evw_ALLOW hn11a
  have F_Outcome_ALLOW_ordinal := own_fldI evw_Outcome_ALLOW hn13b
  obtain ⟨w_sw, evsw⟩ := arr_v hn2a
  obtain ⟨cl, A_sw⟩ := Arr.start evsw hn2a
  have S_sw := Sta.start evsw (Or.inr ⟨(hw _ (List.mem_of_getElem? (i := 8) rfl)), (hw _ (List.mem_of_getElem? (i := 9) rfl))⟩)
  have L_1 := own_elem evsw A_sw (by decide) hn5a
  have L_0 := own_elem evsw A_sw (by decide) hn12a
  have WD : World s s.heap cl w_DENY w_sw w_Outcome_DENY w_ERROR w_ALLOW w_Outcome_ALLOW := ⟨S_DENY, E_DENY, S_sw, A_sw, F_DENY_ordinal, L_1, S_Outcome_DENY, E_Outcome_DENY, S_ERROR, E_ERROR, F_Outcome_DENY_ordinal, F_ERROR_ordinal, S_ALLOW, E_ALLOW, F_ALLOW_ordinal, L_0, S_Outcome_ALLOW, E_Outcome_ALLOW, F_Outcome_ALLOW_ordinal⟩
  obtain ⟨n, o, h1, h2, h3, _, L, rfl, ⟨rfl, N, -⟩, hq⟩ := rm0 l s _ hw tables_1 i0 cl w_DENY w_sw w_Outcome_DENY w_ERROR w_ALLOW w_Outcome_ALLOW s.heap s.heap.size (Nat.le_refl _) WD p e ha hc hk s m _ below hf ((Spec.applies_iff_loose hf).mp happ).1 ⟨rfl, State.Warmed39.refl s, rfl⟩ trivial
  refine ⟨n, _, h1, h2, h3, hpost _ _ _ _ _ _ ⟨Cond.after_iff.mpr rfl, Cond.after_iff.mpr (eq_i res_at (Term.int_eval (1)) rfl), trivial⟩ ⟨hq.1, hq.2.1, (hq.2.2.sift fun y hy => Or.inr (N y hy)).mono (by decide) (by decide)⟩⟩
theorem main_1_1 : Claimed_1_1 := comes_1 fun _ _ _ _ _ _ h hF => ⟨h.1, hF⟩
theorem main_1_2 : Claimed_1_2 := comes_1 fun _ _ _ _ _ _ h hF => ⟨h.2.1, hF⟩
end Jvm.Pilot.@@N@@
namespace Jvm.Pilot.@@N@@
open Jvm Jvm.ClassFile Sem Op Lib Jvm.Free Jvm.Stand Jvm.Pilot.@@N@@.Jvm.D
/-! MADE BY PROGRAM (witnessworld.py) out of the Statement's table words and the real class files: 14 classes; the members and pool entries that the words name. The judged class is class 1, her method 1. -/
namespace start1
open Jvm.ClassFile
def u (s : String) : CpInfo := .utf8 (stringToUtf16 s)
/-- a pool by its gaps: so many unusable entries, then the entry; so many at the end -/
def gap : Nat → List CpInfo → List CpInfo
  | 0, r => r
  | n + 1, r => .unusable :: gap n r
def poolList (es : List (Nat × CpInfo)) (last : Nat) : List CpInfo := es.foldr (fun e r => gap e.1 (e.2 :: r)) (gap last [])
def pool (es : List (Nat × CpInfo)) (last : Nat) : Array CpInfo := ⟨poolList es last⟩
def fileOf (pool : Array CpInfo) (this : Nat) (attrs : Array Attribute := #[]) (ms : Array MethodInfo := #[]) (fl : Nat := 33) (sup : Nat := 0) (ifs : Array Nat := #[]) (fds : Array FieldInfo := #[]) : ClassFile where
  minorVersion := 0
  majorVersion := 65
  constantPool := pool
  accessFlags := fl
  thisClass := this
  superClass := sup
  interfaces := ifs
  fields := fds
  methods := ms
  attributes := attrs
def plain (name : String) (sup : Option ClassId) : Class where
  name := name
  kind := .ordinary
  loader := none
  accessFlags := 33
  super := sup
  interfaces := #[]
  cf := none
  fields := #[]
  methods := #[]
  instanceTypes := #[]
  staticTypes := #[]
  resolved := #[]
  callSites := []
  init := .initialized
  statics := none
  mirror := none

def pool0 : Array CpInfo := pool [(5, u "<init>"), (0, u "()V"), (1, .class_ 10), (1, u "java/lang/Object")] 113

def k0m0 : Method := { name := "<init>", desc := "()V", sig := { parameters := [], returnType := none }, accessFlags := 1, code := none }
/-- java/lang/Object -/
def k0 : Class := { plain "java/lang/Object" none with
  accessFlags := 33
  interfaces := #[]
  cf := some (fileOf pool0 8 #[] #[{ accessFlags := 1, nameIndex := 5, descriptorIndex := 6, attributes := #[] }] 33 0 #[] #[])
  fields := #[]
  methods := #[k0m0]
  instanceTypes := #[]
  staticTypes := #[]
  resolved := Array.replicate 124 none
  statics := none }

def pool1 : Array CpInfo := pool [(2, .class_ 4), (1, u "java/lang/Object"), (0, u "<init>"), (0, u "()V"), (0, .fieldref 8 9), (0, .class_ 10), (0, .nameAndType 11 12), (0, u "com/example/label_gate/labelgate/Decision"), (0, u "ALLOW"), (0, u "Lcom/example/label_gate/labelgate/Decision;"), (0, .fieldref 8 14), (0, .nameAndType 15 12), (0, u "DENY"), (0, .methodref 17 18), (0, .class_ 19), (0, .nameAndType 20 21), (0, u "com/example/label_gate/labelgate/Outcome"), (0, u "of"), (0, u "(Lcom/example/label_gate/labelgate/Decision;)Lcom/example/label_gate/labelgate/Outcome;"), (0, .fieldref 17 23), (0, .nameAndType 24 25), (0, u "ERROR"), (0, u "Lcom/example/label_gate/labelgate/Outcome;"), (0, .fieldref 17 27), (0, .nameAndType 11 25), (0, .fieldref 17 29), (0, .nameAndType 15 25), (0, .class_ 31), (0, u "com/example/label_gate/labelgate/OutcomeOfPinLaw"), (2, u "law"), (0, u "(I)Z")] 3

def k1m0 : Method := { name := "<init>", desc := "()V", sig := { parameters := [], returnType := none }, accessFlags := 2, code := none }
def k1c1 : Code := { maxStack := 2, maxLocals := 4, code := code, exceptionTable := #[], attributes := #[] }
def k1m1 : Method := { name := "law", desc := "(I)Z", sig := { parameters := [.int], returnType := some .boolean }, accessFlags := 9, code := some k1c1 }
/-- com/example/label_gate/labelgate/OutcomeOfPinLaw -/
def k1 : Class := { plain "com/example/label_gate/labelgate/OutcomeOfPinLaw" (some 0) with
  accessFlags := 49
  interfaces := #[]
  cf := some (fileOf pool1 30 #[] #[{ accessFlags := 2, nameIndex := 5, descriptorIndex := 6, attributes := #[] }, { accessFlags := 9, nameIndex := 34, descriptorIndex := 35, attributes := #[] }] 49 2 #[] #[])
  fields := #[]
  methods := #[k1m0, k1m1]
  instanceTypes := #[]
  staticTypes := #[]
  resolved := Array.replicate 39 none
  statics := none }

def pool2 : Array CpInfo := pool [(1, .class_ 2), (0, u "java/lang/constant/Constable"), (0, .class_ 4), (0, u "java/lang/Object")] 6

/-- java/lang/constant/Constable -/
def k2 : Class := { plain "java/lang/constant/Constable" (some 0) with
  accessFlags := 1537
  interfaces := #[]
  cf := some (fileOf pool2 1 #[] #[] 1537 3 #[] #[])
  fields := #[]
  methods := #[]
  instanceTypes := #[]
  staticTypes := #[]
  resolved := Array.replicate 11 none
  statics := none }

def pool3 : Array CpInfo := pool [(1, .class_ 2), (0, u "java/lang/Comparable"), (0, .class_ 4), (0, u "java/lang/Object")] 7

/-- java/lang/Comparable -/
def k3 : Class := { plain "java/lang/Comparable" (some 0) with
  accessFlags := 1537
  interfaces := #[]
  cf := some (fileOf pool3 1 #[] #[] 1537 3 #[] #[])
  fields := #[]
  methods := #[]
  instanceTypes := #[]
  staticTypes := #[]
  resolved := Array.replicate 12 none
  statics := none }

def pool4 : Array CpInfo := pool [(1, .class_ 2), (0, u "java/io/Serializable"), (0, .class_ 4), (0, u "java/lang/Object")] 2

/-- java/io/Serializable -/
def k4 : Class := { plain "java/io/Serializable" (some 0) with
  accessFlags := 1537
  interfaces := #[]
  cf := some (fileOf pool4 1 #[] #[] 1537 3 #[] #[])
  fields := #[]
  methods := #[]
  instanceTypes := #[]
  staticTypes := #[]
  resolved := Array.replicate 7 none
  statics := none }

def pool5 : Array CpInfo := pool [(2, .class_ 4), (1, u "java/lang/Enum"), (0, u "name"), (0, u "Ljava/lang/String;"), (0, .fieldref 2 8), (0, .nameAndType 9 10), (0, u "ordinal"), (0, u "I"), (1, .class_ 14), (1, u "java/lang/Object"), (4, u "hash"), (86, .class_ 108), (1, u "java/lang/Enum$EnumDesc"), (2, .class_ 112), (0, u "java/lang/constant/Constable"), (0, .class_ 114), (0, u "java/lang/Comparable"), (0, .class_ 116), (0, u "java/io/Serializable"), (9, u "()I")] 77

def k5c0 : Code := { maxStack := 1, maxLocals := 1, code := jdk_37_method_2_code, exceptionTable := #[], attributes := #[] }
def k5m0 : Method := { name := "ordinal", desc := "()I", sig := { parameters := [], returnType := some .int }, accessFlags := 17, code := some k5c0 }
/-- java/lang/Enum -/
def k5 : Class := { plain "java/lang/Enum" (some 0) with
  accessFlags := 1057
  interfaces := #[2, 3, 4]
  cf := some (fileOf pool5 2 #[.nestMembers #[106]] #[{ accessFlags := 17, nameIndex := 9, descriptorIndex := 126, attributes := #[] }] 1057 12 #[111, 113, 115] #[{ accessFlags := 18, nameIndex := 5, descriptorIndex := 6, attributes := #[] }, { accessFlags := 18, nameIndex := 9, descriptorIndex := 10, attributes := #[] }, { accessFlags := 2, nameIndex := 19, descriptorIndex := 10, attributes := #[] }])
  fields := #[{ name := "name", type := (.object "java/lang/String"), accessFlags := 18, slot := 0, constantValue := 0 }, { name := "ordinal", type := .int, accessFlags := 18, slot := 1, constantValue := 0 }, { name := "hash", type := .int, accessFlags := 2, slot := 2, constantValue := 0 }]
  methods := #[k5m0]
  instanceTypes := #[(.object "java/lang/String"), .int, .int]
  staticTypes := #[]
  resolved := Array.replicate 204 none
  statics := none }

def pool6 : Array CpInfo := pool [(1, .class_ 2), (0, u "com/example/label_gate/labelgate/Decision"), (2, u "ALLOW"), (0, u "Lcom/example/label_gate/labelgate/Decision;"), (2, u "DENY"), (2, u "$VALUES"), (0, u "[Lcom/example/label_gate/labelgate/Decision;"), (6, .class_ 22), (1, u "java/lang/Enum")] 24

/-- com/example/label_gate/labelgate/Decision -/
def k6 : Class := { plain "com/example/label_gate/labelgate/Decision" (some 5) with
  accessFlags := 16433
  interfaces := #[]
  cf := some (fileOf pool6 1 #[] #[] 16433 20 #[] #[{ accessFlags := 16409, nameIndex := 5, descriptorIndex := 6, attributes := #[] }, { accessFlags := 16409, nameIndex := 9, descriptorIndex := 6, attributes := #[] }, { accessFlags := 4122, nameIndex := 12, descriptorIndex := 13, attributes := #[] }])
  fields := #[{ name := "ALLOW", type := (.object "com/example/label_gate/labelgate/Decision"), accessFlags := 16409, slot := 0, constantValue := 0 }, { name := "DENY", type := (.object "com/example/label_gate/labelgate/Decision"), accessFlags := 16409, slot := 1, constantValue := 0 }, { name := "$VALUES", type := (.array (.object "com/example/label_gate/labelgate/Decision")), accessFlags := 4122, slot := 2, constantValue := 0 }]
  methods := #[]
  instanceTypes := #[(.object "java/lang/String"), .int, .int]
  staticTypes := #[(.object "com/example/label_gate/labelgate/Decision"), (.object "com/example/label_gate/labelgate/Decision"), (.array (.object "com/example/label_gate/labelgate/Decision"))]
  resolved := Array.replicate 47 none
  statics := some 0 }

def pool7 : Array CpInfo := pool [(1, .class_ 2), (0, u "com/example/label_gate/labelgate/Outcome"), (0, .fieldref 1 4), (0, .nameAndType 5 6), (0, u "ALLOW"), (0, u "Lcom/example/label_gate/labelgate/Outcome;"), (0, .fieldref 1 8), (0, .nameAndType 9 6), (0, u "DENY"), (2, u "ERROR"), (2, u "$VALUES"), (0, u "[Lcom/example/label_gate/labelgate/Outcome;"), (6, .class_ 25), (1, u "java/lang/Enum"), (6, .fieldref 33 34), (0, .class_ 35), (0, .nameAndType 36 37), (0, u "com/example/label_gate/labelgate/Outcome$1"), (0, u "$SwitchMap$com$example$label_gate$labelgate$Decision"), (0, u "[I"), (0, .methodref 39 40), (0, .class_ 41), (0, .nameAndType 42 43), (0, u "com/example/label_gate/labelgate/Decision"), (0, u "ordinal"), (0, u "()I"), (20, u "of"), (0, u "(Lcom/example/label_gate/labelgate/Decision;)Lcom/example/label_gate/labelgate/Outcome;")] 7

def k7c0 : Code := { maxStack := 4, maxLocals := 1, code := prog_26_method_4_code, exceptionTable := #[], attributes := #[] }
def k7m0 : Method := { name := "of", desc := "(Lcom/example/label_gate/labelgate/Decision;)Lcom/example/label_gate/labelgate/Outcome;", sig := { parameters := [(.object "com/example/label_gate/labelgate/Decision")], returnType := some (.object "com/example/label_gate/labelgate/Outcome") }, accessFlags := 8, code := some k7c0 }
/-- com/example/label_gate/labelgate/Outcome -/
def k7 : Class := { plain "com/example/label_gate/labelgate/Outcome" (some 5) with
  accessFlags := 16432
  interfaces := #[]
  cf := some (fileOf pool7 1 #[.nestMembers #[33]] #[{ accessFlags := 8, nameIndex := 64, descriptorIndex := 65, attributes := #[] }] 16432 23 #[] #[{ accessFlags := 16409, nameIndex := 5, descriptorIndex := 6, attributes := #[] }, { accessFlags := 16409, nameIndex := 9, descriptorIndex := 6, attributes := #[] }, { accessFlags := 16409, nameIndex := 12, descriptorIndex := 6, attributes := #[] }, { accessFlags := 4122, nameIndex := 15, descriptorIndex := 16, attributes := #[] }])
  fields := #[{ name := "ALLOW", type := (.object "com/example/label_gate/labelgate/Outcome"), accessFlags := 16409, slot := 0, constantValue := 0 }, { name := "DENY", type := (.object "com/example/label_gate/labelgate/Outcome"), accessFlags := 16409, slot := 1, constantValue := 0 }, { name := "ERROR", type := (.object "com/example/label_gate/labelgate/Outcome"), accessFlags := 16409, slot := 2, constantValue := 0 }, { name := "$VALUES", type := (.array (.object "com/example/label_gate/labelgate/Outcome")), accessFlags := 4122, slot := 3, constantValue := 0 }]
  methods := #[k7m0]
  instanceTypes := #[(.object "java/lang/String"), .int, .int]
  staticTypes := #[(.object "com/example/label_gate/labelgate/Outcome"), (.object "com/example/label_gate/labelgate/Outcome"), (.object "com/example/label_gate/labelgate/Outcome"), (.array (.object "com/example/label_gate/labelgate/Outcome"))]
  resolved := Array.replicate 73 none
  statics := some 1 }

def pool8 : Array CpInfo := pool [(8, .class_ 10), (1, u "com/example/label_gate/labelgate/Outcome$1"), (0, u "$SwitchMap$com$example$label_gate$labelgate$Decision"), (0, u "[I"), (13, .class_ 27), (0, u "java/lang/Object"), (8, .class_ 37), (0, u "com/example/label_gate/labelgate/Outcome")] 2

/-- com/example/label_gate/labelgate/Outcome$1 -/
def k8 : Class := { plain "com/example/label_gate/labelgate/Outcome$1" (some 0) with
  accessFlags := 4128
  interfaces := #[]
  cf := some (fileOf pool8 8 #[.nestHost 36] #[] 4128 26 #[] #[{ accessFlags := 4120, nameIndex := 11, descriptorIndex := 12, attributes := #[] }])
  fields := #[{ name := "$SwitchMap$com$example$label_gate$labelgate$Decision", type := (.array .int), accessFlags := 4120, slot := 0, constantValue := 0 }]
  methods := #[]
  instanceTypes := #[]
  staticTypes := #[(.array .int)]
  resolved := Array.replicate 40 none
  statics := some 2 }

def pool9 : Array CpInfo := pool [(1, u "java/lang/Cloneable"), (0, .class_ 1), (0, u "java/lang/Object"), (0, .class_ 3)] 3

/-- java/lang/Cloneable -/
def k9 : Class := { plain "java/lang/Cloneable" (some 0) with
  accessFlags := 1537
  interfaces := #[]
  cf := some (fileOf pool9 2 #[] #[] 1537 4 #[] #[])
  fields := #[]
  methods := #[]
  instanceTypes := #[]
  staticTypes := #[]
  resolved := Array.replicate 8 none
  statics := none }

/-- the primitive byte -/
def k10 : Class := { plain "byte" none with kind := .primitive 'B', accessFlags := 0x411 }
/-- [B -/
def k11 : Class := { plain "[B" (some 0) with kind := .array 10 .byte, interfaces := #[9, 4], accessFlags := 1041 }

/-- the primitive int -/
def k12 : Class := { plain "int" none with kind := .primitive 'I', accessFlags := 0x411 }
/-- [I -/
def k13 : Class := { plain "[I" (some 0) with kind := .array 12 .int, interfaces := #[9, 4], accessFlags := 1041 }

def heap : Heap := #[{ cls := 6, slots := #[.ref 3, .ref 4, .null], vm := .statics 6 },
  { cls := 7, slots := #[.ref 5, .ref 6, .ref 7, .null], vm := .statics 7 },
  { cls := 8, slots := #[.ref 8], vm := .statics 8 },
  { cls := 6, slots := #[.null, .int 0, .int 0], vm := .none },
  { cls := 6, slots := #[.null, .int 1, .int 0], vm := .none },
  { cls := 7, slots := #[.null, .int 0, .int 0], vm := .none },
  { cls := 7, slots := #[.null, .int 1, .int 0], vm := .none },
  { cls := 7, slots := #[.null, .int 2, .int 0], vm := .none },
  { cls := 13, slots := #[.int 1, .int 2], vm := .none }]
def classes : Array Class := #[k0, k1, k2, k3, k4, k5, k6, k7, k8, k9, k10, k11, k12, k13]
def interned : List (Array UInt16 × Addr) := []
def slotsUsed : Nat := 25
def theMethod : MethodId := ⟨1, 1⟩
def args0 : Array Value := #[.int 5]
def aboutOver (below : List Frame) : State where
  vm := { classes := classes, interned := interned.toArray }
  heap := heap
  slotsUsed := slotsUsed
  threads := #[{ frames := .invoking theMethod args0 :: below }]
def below0 : List Frame := [.native { method := ⟨0, 0⟩, args := #[] }]
def about1 : State := aboutOver below0
def p0 : Program := .bare "" "" ""
def e0 : Env := launch0.env 0 0 0
theorem w_frames : about1.frames = Frame.invoking theMethod args0 :: below0 := rfl
set_option maxRecDepth 65536 in
theorem w_args : argsFit about1.vm theMethod args0 = true := by decide +kernel
set_option maxRecDepth 65536 in
theorem w_heap : heapFits about1 = true := by decide +kernel
set_option maxRecDepth 65536 in
theorem w_runnable : about1.curStatus? = some .runnable := by decide +kernel
set_option maxRecDepth 65536 in
theorem w_alone : about1.alone = true := by decide +kernel
set_option maxRecDepth 65536 in
theorem w_named : about1.methodNamed? x = some theMethod := by decide +kernel
set_option maxRecDepth 65536 in
theorem w_hears : about1.hears theMethod below0 = true := by decide +kernel
set_option maxRecDepth 65536 in
theorem w_ripe : about1.ripe theMethod args0 below0 = true := by decide +kernel
theorem w_running : about1.status = .running := rfl
set_option maxRecDepth 65536 in
theorem w_room : about1.hasRoom e0.platform room_1 = true :=
  launch0.hasRoom_least _ room_1 (by decide +kernel) (by decide +kernel) (by decide +kernel) (by decide +kernel) (by decide +kernel) (by decide +kernel)
theorem allAtoms_all (ts : List Jvm.Cond) (a : Array Jvm.Value) (st : Jvm.State) : (allAtoms ts).before a st = ts.all (fun c => c.before a st) := by
  induction ts with
  | nil => rfl
  | cons c t ih =>
    show (Jvm.Cond.and c (allAtoms t)).before a st = _
    rw [Jvm.Cond.before_and, ih, List.all_cons]
def words1 : List Jvm.Cond := Jvm.Cond.code x code maxLocals ret :: tables_1
/-- a 'code' word, met by the world's own term for the bytes: nothing is compared byte by byte -/
theorem code_word {y : MethodName} {bytes : ByteArray} {mx : Nat} {rt : Option FieldType} {a : Array Value} {s : State} {m : MethodId} {meth : Method} {c : Code} (h1 : s.methodNamed? y = some m) (h2 : s.vm.method? m = some meth) (h3 : meth.code = some c) (h4 : c.code = bytes)
    (h5 : (c.maxLocals == mx && c.exceptionTable.isEmpty && decide (c.maxStack ≤ mostOperands) && decide (meth.sig.returnType = rt) && !meth.locks && decide (parseMethodDescriptor y.desc = some meth.sig)) = true) : (Jvm.Cond.code y bytes mx rt).before a s = true := by
  simp only [Bool.and_eq_true, beq_iff_eq, Bool.not_eq_true', decide_eq_true_eq] at h5
  obtain ⟨⟨⟨⟨⟨g1, g2⟩, g3⟩, g4⟩, g5⟩, g6⟩ := h5
  simp [Cond.before, Cond.holds, Cond.value, h1, h2, h3, h4, g1, g2, g3, g4, g5, g6]
def isCode : Jvm.Cond → Bool
  | .code _ _ _ _ => true
  | _ => false
theorem all_split {L : List Jvm.Cond} {P : Jvm.Cond → Bool} (h1 : L.all (fun c => isCode c || P c) = true) (h2 : ∀ c ∈ L.filter isCode, P c = true) : L.all P = true := by
  refine List.all_eq_true.mpr fun c hc => ?_
  have h := List.all_eq_true.mp h1 c hc
  rcases Bool.eq_false_or_eq_true (isCode c) with hi | hi
  · exact h2 c (List.mem_filter.mpr ⟨hc, hi⟩)
  · simpa [hi] using h
set_option maxRecDepth 65536 in
theorem w_c0 : (Jvm.Cond.code x code maxLocals ret).before args0 about1 = true := code_word (m := ⟨1, 1⟩) (meth := k1m1) (c := k1c1) (by decide +kernel) rfl rfl rfl (by decide +kernel)
set_option maxRecDepth 65536 in
theorem w_c1 : (Jvm.Cond.code ({ cls := "com/example/label_gate/labelgate/Outcome", name := "of", desc := "(Lcom/example/label_gate/labelgate/Decision;)Lcom/example/label_gate/labelgate/Outcome;" } : Jvm.MethodName) prog_26_method_4_code (1 : Nat) (Option.some (Jvm.ClassFile.FieldType.object "com/example/label_gate/labelgate/Outcome"))).before args0 about1 = true := code_word (m := ⟨7, 0⟩) (meth := k7m0) (c := k7c0) (by decide +kernel) rfl rfl rfl (by decide +kernel)
set_option maxRecDepth 65536 in
theorem w_c2 : (Jvm.Cond.code ({ cls := "java/lang/Enum", name := "ordinal", desc := "()I" } : Jvm.MethodName) jdk_37_method_2_code (1 : Nat) (Option.some Jvm.ClassFile.FieldType.int)).before args0 about1 = true := code_word (m := ⟨5, 0⟩) (meth := k5m0) (c := k5c0) (by decide +kernel) rfl rfl rfl (by decide +kernel)
def codes1 : List Jvm.Cond := [Jvm.Cond.code x code maxLocals ret, Jvm.Cond.code ({ cls := "com/example/label_gate/labelgate/Outcome", name := "of", desc := "(Lcom/example/label_gate/labelgate/Decision;)Lcom/example/label_gate/labelgate/Outcome;" } : Jvm.MethodName) prog_26_method_4_code (1 : Nat) (Option.some (Jvm.ClassFile.FieldType.object "com/example/label_gate/labelgate/Outcome")), Jvm.Cond.code ({ cls := "java/lang/Enum", name := "ordinal", desc := "()I" } : Jvm.MethodName) jdk_37_method_2_code (1 : Nat) (Option.some Jvm.ClassFile.FieldType.int)]
set_option maxRecDepth 65536 in
theorem codes_eq : words1.filter isCode = codes1 := rfl
theorem w_codes : ∀ c ∈ words1.filter isCode, c.before args0 about1 = true := by
  rw [codes_eq]
  intro c hc
  simp only [codes1, List.mem_cons, List.not_mem_nil, or_false] at hc
  rcases hc with rfl | rfl | rfl
  · exact w_c0
  · exact w_c1
  · exact w_c2
set_option maxRecDepth 65536 in
theorem w_t1 : (words1.take 24).all (fun c => isCode c || c.before args0 about1) = true := by decide +kernel
set_option maxRecDepth 65536 in
theorem w_t2 : (words1.drop 24).all (fun c => isCode c || c.before args0 about1) = true := by decide +kernel
theorem w_tables : (allAtoms (Jvm.Cond.code x code maxLocals ret :: tables_1)).before args0 about1 = true := by
  rw [allAtoms_all]
  show words1.all (fun c => c.before args0 about1) = true
  refine all_split ?_ w_codes
  rw [← List.take_append_drop 24 words1, List.all_append, w_t1, w_t2]
  rfl
set_option maxRecDepth 65536 in
theorem w_case : (Jvm.Cond.and given_1 narrow_1).before args0 about1 = true := by decide +kernel
theorem w_applies : (headSpec (Jvm.Cond.code x code maxLocals ret :: tables_1) room_1).applies x e0.platform about1 = true :=
  (Spec.applies_iff w_frames).mpr ⟨w_running, w_runnable, w_alone, w_named, w_hears, w_ripe, w_room, w_tables⟩
theorem atStart : AtStart classFile x code maxLocals ret World_1 tables_1 room_1 Calls_1 rest_1 Pre_1 launch0 p0 e0 about1 theMethod args0 below0 :=
  ⟨lists_1, trivial, launch0.admits_env _ _ _, launch0.least_env, fairChoices_fair.cas, fairChoices_fair.clock, w_frames, w_args, w_heap, w_applies, trivial, trivial, w_case⟩
end start1
theorem witness_1 : WitnessClaimed_1 := ⟨start1.p0, start1.e0, start1.about1, start1.theMethod, start1.args0, start1.below0, start1.atStart⟩
end Jvm.Pilot.@@N@@
