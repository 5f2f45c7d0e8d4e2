import JvmDerived
import JvmDerived.Pilot.@@N@@Statement
import JvmDerived.Pilot.@@N@@Code
set_option linter.unusedVariables false
set_option linter.unusedSimpArgs false
namespace Jvm.Pilot.@@N@@
open Jvm Jvm.ClassFile Sem Op Lib Jvm.Free Jvm.Stand Jvm.LawKit Jvm.RoadKit Bundle Jvm.Pilot.@@N@@.Jvm.D
theorem own_fldI {t : Term} {C n d : String} {args : Array Value} {s : State} {a : Addr} {z : Int32} (ev : t.eval args s none [] s = some (.ref a)) (h : (Jvm.Cond.eq (Term.field t C n d) (Term.int z)).value args s none s [] = some true) : Fld s s.heap a C n d (.int z) := by
  obtain ⟨x, y, hx, hy, k1, k2⟩ := cmp_v (Or.inl h)
  cases (Term.int_eval z).symm.trans hy
  obtain ⟨q, rfl⟩ := k2
  have hq : q = z := by
    have h' := h
    simp only [Cond.value, hx, Term.int_eval] at h'
    simpa using h'
  subst hq
  exact Fld.start ((fld_at ev).symm.trans hx)
theorem own_fldR {t u : Term} {C n d : String} {args : Array Value} {s : State} {a b : Addr} (ev : t.eval args s none [] s = some (.ref a)) (eu : u.eval args s none [] s = some (.ref b)) (h : (Jvm.Cond.eq (Term.field t C n d) u).value args s none s [] = some true) : Fld s s.heap a C n d (.ref b) := by
  obtain ⟨x, y, hx, hy, k1, k2⟩ := cmp_v (Or.inl h)
  cases eu.symm.trans hy
  have hxr : x.isRef = true := k2.2
  have hq : x = .ref b := gotT (eq_R hx eu hxr rfl) h
  subst hq
  exact Fld.start ((fld_at ev).symm.trans hx)
theorem own_fldN {t : Term} {C n d : String} {args : Array Value} {s : State} {a : Addr} (ev : t.eval args s none [] s = some (.ref a)) (h : (Jvm.Cond.eq (Term.field t C n d) .null).value args s none s [] = some true) : Fld s s.heap a C n d .null :=
  Fld.start ((fld_at ev).symm.trans (null_v h))
theorem own_inj {Z : State} {h : Heap} {a : Addr} {C n d : String} {v w : Value} (F : Fld Z h a C n d v) (G : Fld Z h a C n d w) : v = w := by
  obtain ⟨c1, cf, k, i, f, h1, h2, -, -, -, -, h7⟩ := F
  obtain ⟨c2, cf', k', i', f', g1, g2, -, -, -, -, g7⟩ := G
  cases h1.symm.trans g1
  cases h2.symm.trans g2
  exact Option.some.inj (h7.symm.trans g7)
theorem own_ne {Z : State} {h : Heap} {a b : Addr} {C n d : String} {x y : Int32} (F : Fld Z h a C n d (.int x)) (G : Fld Z h b C n d (.int y)) (hn : x ≠ y) : ¬ (a = b) := fun e => by
  subst e
  exact hn (Value.int.inj (own_inj F G))
def World (Z : State) (h : Heap) (w_ALL w_ALLOW w_DENY w_ERROR w_Selection_DENY : Addr) : Prop := Sta Z h "com/example/label_gate/labelgate/AuditTrail$Selection" "ALL" "Lcom/example/label_gate/labelgate/AuditTrail$Selection;" (.ref w_ALL) ∧ Exa Z h w_ALL "com/example/label_gate/labelgate/AuditTrail$Selection" ∧ Sta Z h "com/example/label_gate/labelgate/Outcome" "ALLOW" "Lcom/example/label_gate/labelgate/Outcome;" (.ref w_ALLOW) ∧ Exa Z h w_ALLOW "com/example/label_gate/labelgate/Outcome" ∧ Sta Z h "com/example/label_gate/labelgate/Outcome" "DENY" "Lcom/example/label_gate/labelgate/Outcome;" (.ref w_DENY) ∧ Exa Z h w_DENY "com/example/label_gate/labelgate/Outcome" ∧ Sta Z h "com/example/label_gate/labelgate/Outcome" "ERROR" "Lcom/example/label_gate/labelgate/Outcome;" (.ref w_ERROR) ∧ Exa Z h w_ERROR "com/example/label_gate/labelgate/Outcome" ∧ Sta Z h "com/example/label_gate/labelgate/AuditTrail$Selection" "DENY" "Lcom/example/label_gate/labelgate/AuditTrail$Selection;" (.ref w_Selection_DENY) ∧ Exa Z h w_Selection_DENY "com/example/label_gate/labelgate/AuditTrail$Selection" ∧ Fld Z h w_Selection_DENY "java/lang/Enum" "ordinal" "I" (.int (1 : Int32)) ∧ Fld Z h w_ALL "java/lang/Enum" "ordinal" "I" (.int (0 : Int32)) ∧ Fld Z h w_DENY "java/lang/Enum" "ordinal" "I" (.int (1 : Int32)) ∧ Fld Z h w_ALLOW "java/lang/Enum" "ordinal" "I" (.int (0 : Int32)) ∧ Fld Z h w_ERROR "java/lang/Enum" "ordinal" "I" (.int (2 : Int32))
theorem d1_0 : decode prog_7_method_4_code 0 = .ok (.aload_n 0, 1) := by decide +kernel
theorem d1_1 : decode prog_7_method_4_code 1 = .ok (.getstatic 3, 3) := by decide +kernel
theorem d1_4 : decode prog_7_method_4_code 4 = .ok (.if_acmp .eq 10, 3) := by decide +kernel
theorem d1_7 : decode prog_7_method_4_code 7 = .ok (.aload_n 1, 1) := by decide +kernel
theorem d1_8 : decode prog_7_method_4_code 8 = .ok (.getstatic 29, 3) := by decide +kernel
theorem d1_11 : decode prog_7_method_4_code 11 = .ok (.if_acmp .eq 7, 3) := by decide +kernel
theorem d1_14 : decode prog_7_method_4_code 14 = .ok (.iconst 1, 1) := by decide +kernel
theorem d1_15 : decode prog_7_method_4_code 15 = .ok (.goto 4, 3) := by decide +kernel
theorem d1_18 : decode prog_7_method_4_code 18 = .ok (.iconst 0, 1) := by decide +kernel
theorem d1_19 : decode prog_7_method_4_code 19 = .ok (.ireturn, 1) := by decide +kernel
theorem pn_0 : plainName "com/example/label_gate/labelgate/AuditTrail$Selection" = true := by first | (simp [plainName, overriddenIn]; done) | decide +kernel
theorem ef_rm1 (m : MethodId) (x0 : Addr) (x1 : Addr) : entryFrame m #[(.ref x0), (.ref x1)] 2 = mkF m 0 #[.val (.ref x0), .val (.ref x1)] [] := by first | (simp [entryFrame, mkF, argsToLocals, Value.category]; done) | rfl
def Q_rm1 (Z : State) (a1 : Addr) (a2 : Addr) (w_ALL : Addr) (w_ALLOW : Addr) (w_DENY : Addr) (w_ERROR : Addr) (w_Selection_DENY : Addr) (h0 : Heap) (n0 : Nat) (v : Option Value) (h : Heap) (L : List Loc) : Prop := v = some (.int (if a1 = w_ALL then (1 : Int32) else if a2 = w_ALLOW then 0 else 1)) ∧ Fr n0 L ∧ h = h0
set_option maxRecDepth 65536 in
set_option maxHeartbeats 40000000 in
theorem rm1 (l : Launch) (Z : State) (a0 : Array Value) (hw : ∀ d ∈ tables_1, d.before a0 Z = true) (ws : List Jvm.Cond) (a1 : Addr) (a2 : Addr) (w_ALL : Addr) (w_ALLOW : Addr) (w_DENY : Addr) (w_ERROR : Addr) (w_Selection_DENY : Addr) (h0 : Heap) (n0 : Nat) (Z0 : n0 ≤ h0.size) (WD : World Z h0 w_ALL w_ALLOW w_DENY w_ERROR w_Selection_DENY) :
    MetFree l (⟨"com/example/label_gate/labelgate/AuditTrail$Selection", "takes", "(Lcom/example/label_gate/labelgate/Outcome;)Z"⟩ : MethodName) (head1 (Jvm.Cond.code (⟨"com/example/label_gate/labelgate/AuditTrail$Selection", "takes", "(Lcom/example/label_gate/labelgate/Outcome;)Z"⟩ : MethodName) prog_7_method_4_code 2 (some .boolean) :: ws) ({ frames := 0, cells := 0, slots := 0, locals := 0 } : Room)) (fun a U => a = #[(.ref a1), (.ref a2)] ∧ Z.Warmed39 U.vm ∧ U.heap = h0) (fun _ _ _ _ _ => True) (fun _ U o U' => ∃ v L, o = .returned v ∧ Q_rm1 Z a1 a2 w_ALL w_ALLOW w_DENY w_ERROR w_Selection_DENY h0 n0 v U'.heap L ∧ FrameEnd U o U' L ({ frames := 0, cells := 0, slots := 0, locals := 0 } : Room).cells ({ frames := 0, cells := 0, slots := 0, locals := 0 } : Room).slots) := by
  refine MetFree.of_bodySF (plainFor_of_name pn_0) hisR ?_
  intro p e s m args below meth c s₁ Bd hml0 hP hK
  obtain ⟨rfl, hZ, hh⟩ := hP
  have hx := Bd.exec
  have hby := Bd.bytes
  have hml : c.maxLocals = 2 := hml0
  have hown : s.vm.findClass "com/example/label_gate/labelgate/AuditTrail$Selection" = some m.cls := findClass_of_methodNamed Bd.named
  have hnm := (name_of_methodNamed Bd.named Bd.method).1
  have X0 : Stand p l e ({ frames := 0, cells := 0, slots := 0, locals := 0 } : Room) s m #[(.ref a1), (.ref a2)] below meth c s₁ [] 0 0 := Stand.of_body Bd
  have e0 : s₁.heap = h0 := by rw [← hh, Bd.state]; rfl
  have N0 := Fr.nil n0
  have pre0 : ∀ t, Steps p.tables e below (s₁.setTop (mkF m 0 #[.val (.ref a1), .val (.ref a2)] [])) t → Steps p.tables e below (s₁.setTop (entryFrame m #[(.ref a1), (.ref a2)] 2)) t := fun t k => castTop (ef_rm1 m (a1) (a2)) k
  obtain ⟨S_ALL, E_ALL, S_ALLOW, E_ALLOW, S_DENY, E_DENY, S_ERROR, E_ERROR, S_Selection_DENY, E_Selection_DENY, F_Selection_DENY_ordinal, F_ALL_ordinal, F_DENY_ordinal, F_ALLOW_ordinal, F_ERROR_ordinal⟩ := WD
  obtain ⟨T1, X1, e1, st1⟩ := getS2 X0 hx hZ hown (host := "") (Or.inl (hw _ (List.mem_of_getElem? (i := 12) rfl))) Via.refl e0 S_ALL (g := (mkF m 1 #[.val (.ref a1), .val (.ref a2)] [(.ref a1)])) rfl (hb hby d1_1)
  by_cases hc2 : a1 = w_ALL
  · obtain ⟨fs, hr, hrun, hended, hW, hsame⟩ := X1.leave (v := some (.int (1 : Int32))) (fun h => by rw [Bd.returns] at h; cases h)
    refine ⟨_, _, pre0 _ ?_, hrun, hended, _, _, rfl, ?_, ⟨_, rfl⟩, hW, hsame.mono (by decide) (by decide)⟩
    · show Steps p.tables e below (s₁.setTop (mkF m 0 #[.val (.ref a1), .val (.ref a2)] [])) _
      refine XS.aloadN X0.here hx rfl (hb hby d1_0) rfl rfl ?_
      show Steps p.tables e below (s₁.setTop (mkF m 1 #[.val (.ref a1), .val (.ref a2)] [(.ref a1)])) _
      refine st1 _ ?_
      show Steps p.tables e below (T1.setTop (mkF m 4 #[.val (.ref a1), .val (.ref a2)] [(.ref w_ALL), (.ref a1)])) _
      refine Jvm.RoadKit.acmp (g := (mkF m 4 #[.val (.ref a1), .val (.ref a2)] [(.ref w_ALL), (.ref a1)])) X1 hx rfl rfl rfl (pc0 := 4) (pc' := 14) (same := true) rfl (hb hby d1_4) rfl (decide_eq_true (congrArg Value.ref hc2)) (by decide) (by decide) ?_
      show Steps p.tables e below (T1.setTop (mkF m 14 #[.val (.ref a1), .val (.ref a2)] [])) _
      refine XS.iconst X1.here hx rfl (hb hby d1_14) ?_
      show Steps p.tables e below (T1.setTop (mkF m 15 #[.val (.ref a1), .val (.ref a2)] [(.int (1 : Int32))])) _
      refine XS.goto X1.here hx rfl (pc0 := 15) (pc' := 19) rfl (hb hby d1_15) (by decide) (by decide) ?_
      show Steps p.tables e below (T1.setTop (mkF m 19 #[.val (.ref a1), .val (.ref a2)] [(.int (1 : Int32))])) _
      exact retN X1 hx (t := .boolean) Bd.returns (by simp) (hb hby d1_19) hr
    · show Q_rm1 Z a1 a2 w_ALL w_ALLOW w_DENY w_ERROR w_Selection_DENY h0 n0 _ T1.heap _
      rw [e1]
      exact ⟨(by simp [hc2]), N0, rfl⟩
  · obtain ⟨T3, X3, e3, st3⟩ := getS2 X1 hx hZ hown (host := "") (Or.inl (hw _ (List.mem_of_getElem? (i := 19) rfl))) Via.refl e1 S_ALLOW (g := (mkF m 8 #[.val (.ref a1), .val (.ref a2)] [(.ref a2)])) rfl (hb hby d1_8)
    by_cases hc4 : a2 = w_ALLOW
    · obtain ⟨fs, hr, hrun, hended, hW, hsame⟩ := X3.leave (v := some (.int (0 : Int32))) (fun h => by rw [Bd.returns] at h; cases h)
      refine ⟨_, _, pre0 _ ?_, hrun, hended, _, _, rfl, ?_, ⟨_, rfl⟩, hW, hsame.mono (by decide) (by decide)⟩
      · show Steps p.tables e below (s₁.setTop (mkF m 0 #[.val (.ref a1), .val (.ref a2)] [])) _
        refine XS.aloadN X0.here hx rfl (hb hby d1_0) rfl rfl ?_
        show Steps p.tables e below (s₁.setTop (mkF m 1 #[.val (.ref a1), .val (.ref a2)] [(.ref a1)])) _
        refine st1 _ ?_
        show Steps p.tables e below (T1.setTop (mkF m 4 #[.val (.ref a1), .val (.ref a2)] [(.ref w_ALL), (.ref a1)])) _
        refine Jvm.RoadKit.acmp (g := (mkF m 4 #[.val (.ref a1), .val (.ref a2)] [(.ref w_ALL), (.ref a1)])) X1 hx rfl rfl rfl (pc0 := 4) (pc' := 7) (same := false) rfl (hb hby d1_4) rfl (decide_eq_false fun q => hc2 (Value.ref.inj q)) (by decide) (by decide) ?_
        show Steps p.tables e below (T1.setTop (mkF m 7 #[.val (.ref a1), .val (.ref a2)] [])) _
        refine XS.aloadN X1.here hx rfl (hb hby d1_7) rfl rfl ?_
        show Steps p.tables e below (T1.setTop (mkF m 8 #[.val (.ref a1), .val (.ref a2)] [(.ref a2)])) _
        refine st3 _ ?_
        show Steps p.tables e below (T3.setTop (mkF m 11 #[.val (.ref a1), .val (.ref a2)] [(.ref w_ALLOW), (.ref a2)])) _
        refine Jvm.RoadKit.acmp (g := (mkF m 11 #[.val (.ref a1), .val (.ref a2)] [(.ref w_ALLOW), (.ref a2)])) X3 hx rfl rfl rfl (pc0 := 11) (pc' := 18) (same := true) rfl (hb hby d1_11) rfl (decide_eq_true (congrArg Value.ref hc4)) (by decide) (by decide) ?_
        show Steps p.tables e below (T3.setTop (mkF m 18 #[.val (.ref a1), .val (.ref a2)] [])) _
        refine XS.iconst X3.here hx rfl (hb hby d1_18) ?_
        show Steps p.tables e below (T3.setTop (mkF m 19 #[.val (.ref a1), .val (.ref a2)] [(.int (0 : Int32))])) _
        exact retN X3 hx (t := .boolean) Bd.returns (by simp) (hb hby d1_19) hr
      · show Q_rm1 Z a1 a2 w_ALL w_ALLOW w_DENY w_ERROR w_Selection_DENY h0 n0 _ T3.heap _
        rw [e3]
        exact ⟨(by simp [hc2, hc4]), N0, rfl⟩
    · obtain ⟨fs, hr, hrun, hended, hW, hsame⟩ := X3.leave (v := some (.int (1 : Int32))) (fun h => by rw [Bd.returns] at h; cases h)
      refine ⟨_, _, pre0 _ ?_, hrun, hended, _, _, rfl, ?_, ⟨_, rfl⟩, hW, hsame.mono (by decide) (by decide)⟩
      · show Steps p.tables e below (s₁.setTop (mkF m 0 #[.val (.ref a1), .val (.ref a2)] [])) _
        refine XS.aloadN X0.here hx rfl (hb hby d1_0) rfl rfl ?_
        show Steps p.tables e below (s₁.setTop (mkF m 1 #[.val (.ref a1), .val (.ref a2)] [(.ref a1)])) _
        refine st1 _ ?_
        show Steps p.tables e below (T1.setTop (mkF m 4 #[.val (.ref a1), .val (.ref a2)] [(.ref w_ALL), (.ref a1)])) _
        refine Jvm.RoadKit.acmp (g := (mkF m 4 #[.val (.ref a1), .val (.ref a2)] [(.ref w_ALL), (.ref a1)])) X1 hx rfl rfl rfl (pc0 := 4) (pc' := 7) (same := false) rfl (hb hby d1_4) rfl (decide_eq_false fun q => hc2 (Value.ref.inj q)) (by decide) (by decide) ?_
        show Steps p.tables e below (T1.setTop (mkF m 7 #[.val (.ref a1), .val (.ref a2)] [])) _
        refine XS.aloadN X1.here hx rfl (hb hby d1_7) rfl rfl ?_
        show Steps p.tables e below (T1.setTop (mkF m 8 #[.val (.ref a1), .val (.ref a2)] [(.ref a2)])) _
        refine st3 _ ?_
        show Steps p.tables e below (T3.setTop (mkF m 11 #[.val (.ref a1), .val (.ref a2)] [(.ref w_ALLOW), (.ref a2)])) _
        refine Jvm.RoadKit.acmp (g := (mkF m 11 #[.val (.ref a1), .val (.ref a2)] [(.ref w_ALLOW), (.ref a2)])) X3 hx rfl rfl rfl (pc0 := 11) (pc' := 14) (same := false) rfl (hb hby d1_11) rfl (decide_eq_false fun q => hc4 (Value.ref.inj q)) (by decide) (by decide) ?_
        show Steps p.tables e below (T3.setTop (mkF m 14 #[.val (.ref a1), .val (.ref a2)] [])) _
        refine XS.iconst X3.here hx rfl (hb hby d1_14) ?_
        show Steps p.tables e below (T3.setTop (mkF m 15 #[.val (.ref a1), .val (.ref a2)] [(.int (1 : Int32))])) _
        refine XS.goto X3.here hx rfl (pc0 := 15) (pc' := 19) rfl (hb hby d1_15) (by decide) (by decide) ?_
        show Steps p.tables e below (T3.setTop (mkF m 19 #[.val (.ref a1), .val (.ref a2)] [(.int (1 : Int32))])) _
        exact retN X3 hx (t := .boolean) Bd.returns (by simp) (hb hby d1_19) hr
      · show Q_rm1 Z a1 a2 w_ALL w_ALLOW w_DENY w_ERROR w_Selection_DENY h0 n0 _ T3.heap _
        rw [e3]
        exact ⟨(by simp [hc2, hc4]), N0, rfl⟩
theorem pd_0 : parseMethodDescriptor "(Lcom/example/label_gate/labelgate/Outcome;)Z" = some ⟨[(.object "com/example/label_gate/labelgate/Outcome")], some .boolean⟩ := by decide +kernel
theorem pn_1 : plainName "com/example/label_gate/labelgate/SelectionTakesPinLaw" = true := by first | (simp [plainName, overriddenIn]; done) | decide +kernel
theorem ef_rm0 (m : MethodId) (x0 : Int32) (x1 : Int32) : entryFrame m #[(.int x0), (.int x1)] maxLocals = mkF m 0 #[.val (.int x0), .val (.int x1), .unset, .unset, .unset, .unset, .unset] [] := by first | (simp [entryFrame, mkF, argsToLocals, Value.category, maxLocals]; done) | rfl
def Q_rm0 (Z : State) (p0 : Int32) (p1 : Int32) (w_ALL : Addr) (w_ALLOW : Addr) (w_DENY : Addr) (w_ERROR : Addr) (w_Selection_DENY : Addr) (h0 : Heap) (n0 : Nat) (v : Option Value) (h : Heap) (L : List Loc) : Prop := v = some (.int (1 : Int32)) ∧ Fr n0 L ∧ h = h0
set_option maxRecDepth 65536 in
set_option maxHeartbeats 40000000 in
theorem rm0 (l : Launch) (Z : State) (a0 : Array Value) (hw : ∀ d ∈ tables_1, d.before a0 Z = true) (ws : List Jvm.Cond) (p0 : Int32) (p1 : Int32) (w_ALL : Addr) (w_ALLOW : Addr) (w_DENY : Addr) (w_ERROR : Addr) (w_Selection_DENY : Addr) (h0 : Heap) (n0 : Nat) (Z0 : n0 ≤ h0.size) (WD : World Z h0 w_ALL w_ALLOW w_DENY w_ERROR w_Selection_DENY) :
    MetFree l x (head1 (Jvm.Cond.code x code maxLocals ret :: ws) room_1) (fun a U => a = #[(.int p0), (.int p1)] ∧ Z.Warmed39 U.vm ∧ U.heap = h0) (fun _ _ _ _ _ => True) (fun _ U o U' => ∃ v L, o = .returned v ∧ Q_rm0 Z p0 p1 w_ALL w_ALLOW w_DENY w_ERROR w_Selection_DENY h0 n0 v U'.heap L ∧ FrameEnd U o U' L room_1.cells room_1.slots) := by
  refine MetFree.of_bodySF (plainFor_of_name pn_1) hisR ?_
  intro p e s m args below meth c s₁ Bd hml0 hP hK
  obtain ⟨rfl, hZ, hh⟩ := hP
  have hx := Bd.exec
  have hby := Bd.bytes
  have hml : c.maxLocals = 7 := hml0
  have hown : s.vm.findClass "com/example/label_gate/labelgate/SelectionTakesPinLaw" = some m.cls := findClass_of_methodNamed Bd.named
  have hnm := (name_of_methodNamed Bd.named Bd.method).1
  have X0 : Stand p l e room_1 s m #[(.int p0), (.int p1)] below meth c s₁ [] 0 0 := Stand.of_body Bd
  have e0 : s₁.heap = h0 := by rw [← hh, Bd.state]; rfl
  have N0 := Fr.nil n0
  have pre0 : ∀ t, Steps p.tables e below (s₁.setTop (mkF m 0 #[.val (.int p0), .val (.int p1), .unset, .unset, .unset, .unset, .unset] [])) t → Steps p.tables e below (s₁.setTop (entryFrame m #[(.int p0), (.int p1)] maxLocals)) t := fun t k => castTop (ef_rm0 m (p0) (p1)) k
  obtain ⟨S_ALL, E_ALL, S_ALLOW, E_ALLOW, S_DENY, E_DENY, S_ERROR, E_ERROR, S_Selection_DENY, E_Selection_DENY, F_Selection_DENY_ordinal, F_ALL_ordinal, F_DENY_ordinal, F_ALLOW_ordinal, F_ERROR_ordinal⟩ := id WD
  have ne_Selection_DENY_ALL : ¬ (w_Selection_DENY = w_ALL) := own_ne F_Selection_DENY_ordinal F_ALL_ordinal (by decide)
  have ne_DENY_ALLOW : ¬ (w_DENY = w_ALLOW) := own_ne F_DENY_ordinal F_ALLOW_ordinal (by decide)
  have ne_ERROR_ALLOW : ¬ (w_ERROR = w_ALLOW) := own_ne F_ERROR_ordinal F_ALLOW_ordinal (by decide)
  by_cases hc1 : (p0 &&& (1 : Int32)) = (0 : Int32)
  · obtain ⟨T2, X2, e2, st2⟩ := getS2 X0 hx hZ hown (host := "") (Or.inl (hw _ (List.mem_of_getElem? (i := 0) rfl))) Via.refl e0 S_ALL (g := (mkF m 16 #[.val (.int p0), .val (.int p1), .val (.int (1 : Int32)), .unset, .unset, .unset, .unset] [])) rfl (hb hby at_16)
    by_cases hc3 : ((p1 &&& (2147483647 : Int32)) % (3 : Int32)) = (0 : Int32)
    · obtain ⟨T4, X4, e4, st4⟩ := getS2 X2 hx hZ hown (host := "") (Or.inl (hw _ (List.mem_of_getElem? (i := 4) rfl))) Via.refl e2 S_ALLOW (g := (mkF m 39 #[.val (.int p0), .val (.int p1), .val (.int (1 : Int32)), .val (.ref w_ALL), .val (.int ((p1 &&& (2147483647 : Int32)) % (3 : Int32))), .unset, .unset] [])) rfl (hb hby at_39)
      obtain ⟨cq5, kq5, q5a, q5b, q5c⟩ := isOf hZ e4 E_ALL
      obtain ⟨_, _, ⟨T5, L5, k5, n5⟩, -, X5, ⟨Lc5, hQ5, l5, y5, z5⟩, st5⟩ := X4.virtualBack hx (y := (⟨"com/example/label_gate/labelgate/AuditTrail$Selection", "takes", "(Lcom/example/label_gate/labelgate/Outcome;)Z"⟩ : MethodName)) (z := (⟨"com/example/label_gate/labelgate/AuditTrail$Selection", "takes", "(Lcom/example/label_gate/labelgate/Outcome;)Z"⟩ : MethodName)) hown (mvT hZ (hw _ (List.mem_of_getElem? (i := 7) rfl))) (mvT hZ (hw _ (List.mem_of_getElem? (i := 8) rfl))) (notFace_of_selects (args := #[]) (mvT hZ (hw _ (List.mem_of_getElem? (i := 10) rfl)))) (mvT hZ (hw _ (List.mem_of_getElem? (i := 10) rfl))) (mvT hZ (hw _ (List.mem_of_getElem? (i := 9) rfl))) (by decide) (backOf (W := 0) (rm1 l Z a0 hw [] w_ALL w_ALLOW w_ALL w_ALLOW w_DENY w_ERROR w_Selection_DENY h0 n0 Z0 WD) hZ (hw _ (List.mem_of_getElem? (i := 11) rfl)) (hw _ (List.mem_of_getElem? (i := 1) rfl)) (by decide) (by decide)) q5a q5c (g := (mkF m 105 #[.val (.int p0), .val (.int p1), .val (.int (1 : Int32)), .val (.ref w_ALL), .val (.int ((p1 &&& (2147483647 : Int32)) % (3 : Int32))), .val (.ref w_ALLOW), .val (.int (1 : Int32))] [(.ref w_ALLOW), (.ref w_ALL)])) rfl (by rw [hml]; rfl) (Steps.refl _) (argsL := [(.ref w_ALLOW)]) (rest := []) (lenOf pd_0 rfl) rfl (by show 2 * 0 + _ ≤ _; exact Nat.le_of_eq rfl) (hb hby at_105) (fun _ _ => ⟨rfl, e4, (by decide : 0 + 0 ≤ _), (by decide : 0 + 0 ≤ _)⟩)
      dsimp only [Pt.U, Pt.locs, Pt.cells, Pt.slots] at X5 l5 y5 z5 st5 hQ5
      subst l5 y5 z5
      obtain ⟨rfl, N5q, e5⟩ := hQ5
      have N5 := Fr.app N0 N5q
      obtain ⟨fs, hr, hrun, hended, hW, hsame⟩ := X5.leave (v := some (.int (1 : Int32))) (fun h => by rw [Bd.returns] at h; cases h)
      refine ⟨_, _, pre0 _ ?_, hrun, hended, _, _, rfl, ?_, ⟨_, rfl⟩, hW, hsame.mono (by decide) (by decide)⟩
      · show Steps p.tables e below (s₁.setTop (mkF m 0 #[.val (.int p0), .val (.int p1), .unset, .unset, .unset, .unset, .unset] [])) _
        refine XS.iloadN X0.here hx rfl (hb hby at_0) rfl ?_
        show Steps p.tables e below (s₁.setTop (mkF m 1 #[.val (.int p0), .val (.int p1), .unset, .unset, .unset, .unset, .unset] [(.int p0)])) _
        refine XS.iconst X0.here hx rfl (hb hby at_1) ?_
        show Steps p.tables e below (s₁.setTop (mkF m 2 #[.val (.int p0), .val (.int p1), .unset, .unset, .unset, .unset, .unset] [(.int (1 : Int32)), (.int p0)])) _
        refine XS.iand X0.here hx rfl (hb hby at_2) rfl ?_
        show Steps p.tables e below (s₁.setTop (mkF m 3 #[.val (.int p0), .val (.int p1), .unset, .unset, .unset, .unset, .unset] [(.int (p0 &&& (1 : Int32)))])) _
        refine XS.ifNo X0.here hx rfl (hb hby at_3) rfl ((if0 _ _).trans (teq hc1).2) ?_
        show Steps p.tables e below (s₁.setTop (mkF m 6 #[.val (.int p0), .val (.int p1), .unset, .unset, .unset, .unset, .unset] [])) _
        refine XS.iconst X0.here hx rfl (hb hby at_6) ?_
        show Steps p.tables e below (s₁.setTop (mkF m 7 #[.val (.int p0), .val (.int p1), .unset, .unset, .unset, .unset, .unset] [(.int (1 : Int32))])) _
        refine XS.goto X0.here hx rfl (pc0 := 7) (pc' := 11) rfl (hb hby at_7) (by decide) (by decide) ?_
        show Steps p.tables e below (s₁.setTop (mkF m 11 #[.val (.int p0), .val (.int p1), .unset, .unset, .unset, .unset, .unset] [(.int (1 : Int32))])) _
        refine XS.istoreN X0.here hx rfl (hb hby at_11) rfl (l' := #[.val (.int p0), .val (.int p1), .val (.int (1 : Int32)), .unset, .unset, .unset, .unset]) rfl ?_
        show Steps p.tables e below (s₁.setTop (mkF m 12 #[.val (.int p0), .val (.int p1), .val (.int (1 : Int32)), .unset, .unset, .unset, .unset] [])) _
        refine XS.iloadN X0.here hx rfl (hb hby at_12) rfl ?_
        show Steps p.tables e below (s₁.setTop (mkF m 13 #[.val (.int p0), .val (.int p1), .val (.int (1 : Int32)), .unset, .unset, .unset, .unset] [(.int (1 : Int32))])) _
        refine XS.ifNo X0.here hx rfl (hb hby at_13) rfl ((if0 _ _).trans (feq (by decide : ¬ ((1 : Int32) = (0 : Int32)))).1) ?_
        show Steps p.tables e below (s₁.setTop (mkF m 16 #[.val (.int p0), .val (.int p1), .val (.int (1 : Int32)), .unset, .unset, .unset, .unset] [])) _
        refine st2 _ ?_
        show Steps p.tables e below (T2.setTop (mkF m 19 #[.val (.int p0), .val (.int p1), .val (.int (1 : Int32)), .unset, .unset, .unset, .unset] [(.ref w_ALL)])) _
        refine XS.goto X2.here hx rfl (pc0 := 19) (pc' := 25) rfl (hb hby at_19) (by decide) (by decide) ?_
        show Steps p.tables e below (T2.setTop (mkF m 25 #[.val (.int p0), .val (.int p1), .val (.int (1 : Int32)), .unset, .unset, .unset, .unset] [(.ref w_ALL)])) _
        refine XS.astoreN X2.here hx rfl (hb hby at_25) rfl rfl (l' := #[.val (.int p0), .val (.int p1), .val (.int (1 : Int32)), .val (.ref w_ALL), .unset, .unset, .unset]) rfl ?_
        show Steps p.tables e below (T2.setTop (mkF m 26 #[.val (.int p0), .val (.int p1), .val (.int (1 : Int32)), .val (.ref w_ALL), .unset, .unset, .unset] [])) _
        refine XS.iloadN X2.here hx rfl (hb hby at_26) rfl ?_
        show Steps p.tables e below (T2.setTop (mkF m 27 #[.val (.int p0), .val (.int p1), .val (.int (1 : Int32)), .val (.ref w_ALL), .unset, .unset, .unset] [(.int p1)])) _
        refine X2.ldcInt hx hown (mvT hZ (hw _ (List.mem_of_getElem? (i := 3) rfl))) (g := (mkF m 27 #[.val (.int p0), .val (.int p1), .val (.int (1 : Int32)), .val (.ref w_ALL), .unset, .unset, .unset] [(.int p1)])) rfl (hb hby at_27) _ ?_
        show Steps p.tables e below (T2.setTop (mkF m 29 #[.val (.int p0), .val (.int p1), .val (.int (1 : Int32)), .val (.ref w_ALL), .unset, .unset, .unset] [(.int (2147483647 : Int32)), (.int p1)])) _
        refine XS.iand X2.here hx rfl (hb hby at_29) rfl ?_
        show Steps p.tables e below (T2.setTop (mkF m 30 #[.val (.int p0), .val (.int p1), .val (.int (1 : Int32)), .val (.ref w_ALL), .unset, .unset, .unset] [(.int (p1 &&& (2147483647 : Int32)))])) _
        refine XS.iconst X2.here hx rfl (hb hby at_30) ?_
        show Steps p.tables e below (T2.setTop (mkF m 31 #[.val (.int p0), .val (.int p1), .val (.int (1 : Int32)), .val (.ref w_ALL), .unset, .unset, .unset] [(.int (3 : Int32)), (.int (p1 &&& (2147483647 : Int32)))])) _
        refine iremM (g := (mkF m 31 #[.val (.int p0), .val (.int p1), .val (.int (1 : Int32)), .val (.ref w_ALL), .unset, .unset, .unset] [(.int (3 : Int32)), (.int (p1 &&& (2147483647 : Int32)))])) X2 hx rfl (hb hby at_31) rfl (by decide) ?_
        show Steps p.tables e below (T2.setTop (mkF m 32 #[.val (.int p0), .val (.int p1), .val (.int (1 : Int32)), .val (.ref w_ALL), .unset, .unset, .unset] [(.int ((p1 &&& (2147483647 : Int32)) % (3 : Int32)))])) _
        refine XS.istore X2.here hx rfl (hb hby at_32) rfl (l' := #[.val (.int p0), .val (.int p1), .val (.int (1 : Int32)), .val (.ref w_ALL), .val (.int ((p1 &&& (2147483647 : Int32)) % (3 : Int32))), .unset, .unset]) rfl ?_
        show Steps p.tables e below (T2.setTop (mkF m 34 #[.val (.int p0), .val (.int p1), .val (.int (1 : Int32)), .val (.ref w_ALL), .val (.int ((p1 &&& (2147483647 : Int32)) % (3 : Int32))), .unset, .unset] [])) _
        refine XS.iload X2.here hx rfl (hb hby at_34) rfl ?_
        show Steps p.tables e below (T2.setTop (mkF m 36 #[.val (.int p0), .val (.int p1), .val (.int (1 : Int32)), .val (.ref w_ALL), .val (.int ((p1 &&& (2147483647 : Int32)) % (3 : Int32))), .unset, .unset] [(.int ((p1 &&& (2147483647 : Int32)) % (3 : Int32)))])) _
        refine XS.ifNo X2.here hx rfl (hb hby at_36) rfl ((if0 _ _).trans (teq hc3).2) ?_
        show Steps p.tables e below (T2.setTop (mkF m 39 #[.val (.int p0), .val (.int p1), .val (.int (1 : Int32)), .val (.ref w_ALL), .val (.int ((p1 &&& (2147483647 : Int32)) % (3 : Int32))), .unset, .unset] [])) _
        refine st4 _ ?_
        show Steps p.tables e below (T4.setTop (mkF m 42 #[.val (.int p0), .val (.int p1), .val (.int (1 : Int32)), .val (.ref w_ALL), .val (.int ((p1 &&& (2147483647 : Int32)) % (3 : Int32))), .unset, .unset] [(.ref w_ALLOW)])) _
        refine XS.astore X4.here hx rfl (hb hby at_42) rfl rfl (l' := #[.val (.int p0), .val (.int p1), .val (.int (1 : Int32)), .val (.ref w_ALL), .val (.int ((p1 &&& (2147483647 : Int32)) % (3 : Int32))), .val (.ref w_ALLOW), .unset]) rfl ?_
        show Steps p.tables e below (T4.setTop (mkF m 44 #[.val (.int p0), .val (.int p1), .val (.int (1 : Int32)), .val (.ref w_ALL), .val (.int ((p1 &&& (2147483647 : Int32)) % (3 : Int32))), .val (.ref w_ALLOW), .unset] [])) _
        refine XS.goto X4.here hx rfl (pc0 := 44) (pc' := 66) rfl (hb hby at_44) (by decide) (by decide) ?_
        show Steps p.tables e below (T4.setTop (mkF m 66 #[.val (.int p0), .val (.int p1), .val (.int (1 : Int32)), .val (.ref w_ALL), .val (.int ((p1 &&& (2147483647 : Int32)) % (3 : Int32))), .val (.ref w_ALLOW), .unset] [])) _
        refine XS.iloadN X4.here hx rfl (hb hby at_66) rfl ?_
        show Steps p.tables e below (T4.setTop (mkF m 67 #[.val (.int p0), .val (.int p1), .val (.int (1 : Int32)), .val (.ref w_ALL), .val (.int ((p1 &&& (2147483647 : Int32)) % (3 : Int32))), .val (.ref w_ALLOW), .unset] [(.int (1 : Int32))])) _
        refine XS.ifNo X4.here hx rfl (hb hby at_67) rfl ((if0 _ _).trans (feq (by decide : ¬ ((1 : Int32) = (0 : Int32)))).1) ?_
        show Steps p.tables e below (T4.setTop (mkF m 70 #[.val (.int p0), .val (.int p1), .val (.int (1 : Int32)), .val (.ref w_ALL), .val (.int ((p1 &&& (2147483647 : Int32)) % (3 : Int32))), .val (.ref w_ALLOW), .unset] [])) _
        refine XS.iconst X4.here hx rfl (hb hby at_70) ?_
        show Steps p.tables e below (T4.setTop (mkF m 71 #[.val (.int p0), .val (.int p1), .val (.int (1 : Int32)), .val (.ref w_ALL), .val (.int ((p1 &&& (2147483647 : Int32)) % (3 : Int32))), .val (.ref w_ALLOW), .unset] [(.int (1 : Int32))])) _
        refine XS.istore X4.here hx rfl (hb hby at_71) rfl (l' := #[.val (.int p0), .val (.int p1), .val (.int (1 : Int32)), .val (.ref w_ALL), .val (.int ((p1 &&& (2147483647 : Int32)) % (3 : Int32))), .val (.ref w_ALLOW), .val (.int (1 : Int32))]) rfl ?_
        show Steps p.tables e below (T4.setTop (mkF m 73 #[.val (.int p0), .val (.int p1), .val (.int (1 : Int32)), .val (.ref w_ALL), .val (.int ((p1 &&& (2147483647 : Int32)) % (3 : Int32))), .val (.ref w_ALLOW), .val (.int (1 : Int32))] [])) _
        refine XS.goto X4.here hx rfl (pc0 := 73) (pc' := 102) rfl (hb hby at_73) (by decide) (by decide) ?_
        show Steps p.tables e below (T4.setTop (mkF m 102 #[.val (.int p0), .val (.int p1), .val (.int (1 : Int32)), .val (.ref w_ALL), .val (.int ((p1 &&& (2147483647 : Int32)) % (3 : Int32))), .val (.ref w_ALLOW), .val (.int (1 : Int32))] [])) _
        refine XS.aloadN X4.here hx rfl (hb hby at_102) rfl rfl ?_
        show Steps p.tables e below (T4.setTop (mkF m 103 #[.val (.int p0), .val (.int p1), .val (.int (1 : Int32)), .val (.ref w_ALL), .val (.int ((p1 &&& (2147483647 : Int32)) % (3 : Int32))), .val (.ref w_ALLOW), .val (.int (1 : Int32))] [(.ref w_ALL)])) _
        refine XS.aload X4.here hx rfl (hb hby at_103) rfl rfl ?_
        show Steps p.tables e below (T4.setTop (mkF m 105 #[.val (.int p0), .val (.int p1), .val (.int (1 : Int32)), .val (.ref w_ALL), .val (.int ((p1 &&& (2147483647 : Int32)) % (3 : Int32))), .val (.ref w_ALLOW), .val (.int (1 : Int32))] [(.ref w_ALLOW), (.ref w_ALL)])) _
        refine st5.trans ?_
        show Steps p.tables e below (T5.setTop (mkF m 108 #[.val (.int p0), .val (.int p1), .val (.int (1 : Int32)), .val (.ref w_ALL), .val (.int ((p1 &&& (2147483647 : Int32)) % (3 : Int32))), .val (.ref w_ALLOW), .val (.int (1 : Int32))] [(.int (if w_ALL = w_ALL then (1 : Int32) else if w_ALLOW = w_ALLOW then 0 else 1))])) _
        refine XS.iload X5.here hx rfl (hb hby at_108) rfl ?_
        show Steps p.tables e below (T5.setTop (mkF m 110 #[.val (.int p0), .val (.int p1), .val (.int (1 : Int32)), .val (.ref w_ALL), .val (.int ((p1 &&& (2147483647 : Int32)) % (3 : Int32))), .val (.ref w_ALLOW), .val (.int (1 : Int32))] [(.int (1 : Int32)), (.int (if w_ALL = w_ALL then (1 : Int32) else if w_ALLOW = w_ALLOW then 0 else 1))])) _
        refine XS.icmpNo X5.here hx rfl (hb hby at_110) rfl (teq (by simp [ne_Selection_DENY_ALL, ne_DENY_ALLOW, ne_ERROR_ALLOW] : (if w_ALL = w_ALL then (1 : Int32) else if w_ALLOW = w_ALLOW then 0 else 1) = (1 : Int32))).2 ?_
        show Steps p.tables e below (T5.setTop (mkF m 113 #[.val (.int p0), .val (.int p1), .val (.int (1 : Int32)), .val (.ref w_ALL), .val (.int ((p1 &&& (2147483647 : Int32)) % (3 : Int32))), .val (.ref w_ALLOW), .val (.int (1 : Int32))] [])) _
        refine XS.iconst X5.here hx rfl (hb hby at_113) ?_
        show Steps p.tables e below (T5.setTop (mkF m 114 #[.val (.int p0), .val (.int p1), .val (.int (1 : Int32)), .val (.ref w_ALL), .val (.int ((p1 &&& (2147483647 : Int32)) % (3 : Int32))), .val (.ref w_ALLOW), .val (.int (1 : Int32))] [(.int (1 : Int32))])) _
        refine XS.goto X5.here hx rfl (pc0 := 114) (pc' := 118) rfl (hb hby at_114) (by decide) (by decide) ?_
        show Steps p.tables e below (T5.setTop (mkF m 118 #[.val (.int p0), .val (.int p1), .val (.int (1 : Int32)), .val (.ref w_ALL), .val (.int ((p1 &&& (2147483647 : Int32)) % (3 : Int32))), .val (.ref w_ALLOW), .val (.int (1 : Int32))] [(.int (1 : Int32))])) _
        exact retN X5 hx (t := .boolean) Bd.returns (by simp) (hb hby at_118) hr
      · show Q_rm0 Z p0 p1 w_ALL w_ALLOW w_DENY w_ERROR w_Selection_DENY h0 n0 _ T5.heap _
        rw [e5]
        exact ⟨rfl, N5, rfl⟩
    · by_cases hc6 : ((p1 &&& (2147483647 : Int32)) % (3 : Int32)) = (1 : Int32)
      · obtain ⟨T7, X7, e7, st7⟩ := getS2 X2 hx hZ hown (host := "") (Or.inl (hw _ (List.mem_of_getElem? (i := 13) rfl))) Via.refl e2 S_DENY (g := (mkF m 53 #[.val (.int p0), .val (.int p1), .val (.int (1 : Int32)), .val (.ref w_ALL), .val (.int ((p1 &&& (2147483647 : Int32)) % (3 : Int32))), .unset, .unset] [])) rfl (hb hby at_53)
        obtain ⟨cq8, kq8, q8a, q8b, q8c⟩ := isOf hZ e7 E_ALL
        obtain ⟨_, _, ⟨T8, L8, k8, n8⟩, -, X8, ⟨Lc8, hQ8, l8, y8, z8⟩, st8⟩ := X7.virtualBack hx (y := (⟨"com/example/label_gate/labelgate/AuditTrail$Selection", "takes", "(Lcom/example/label_gate/labelgate/Outcome;)Z"⟩ : MethodName)) (z := (⟨"com/example/label_gate/labelgate/AuditTrail$Selection", "takes", "(Lcom/example/label_gate/labelgate/Outcome;)Z"⟩ : MethodName)) hown (mvT hZ (hw _ (List.mem_of_getElem? (i := 7) rfl))) (mvT hZ (hw _ (List.mem_of_getElem? (i := 8) rfl))) (notFace_of_selects (args := #[]) (mvT hZ (hw _ (List.mem_of_getElem? (i := 10) rfl)))) (mvT hZ (hw _ (List.mem_of_getElem? (i := 10) rfl))) (mvT hZ (hw _ (List.mem_of_getElem? (i := 9) rfl))) (by decide) (backOf (W := 0) (rm1 l Z a0 hw [] w_ALL w_DENY w_ALL w_ALLOW w_DENY w_ERROR w_Selection_DENY h0 n0 Z0 WD) hZ (hw _ (List.mem_of_getElem? (i := 11) rfl)) (hw _ (List.mem_of_getElem? (i := 1) rfl)) (by decide) (by decide)) q8a q8c (g := (mkF m 105 #[.val (.int p0), .val (.int p1), .val (.int (1 : Int32)), .val (.ref w_ALL), .val (.int ((p1 &&& (2147483647 : Int32)) % (3 : Int32))), .val (.ref w_DENY), .val (.int (1 : Int32))] [(.ref w_DENY), (.ref w_ALL)])) rfl (by rw [hml]; rfl) (Steps.refl _) (argsL := [(.ref w_DENY)]) (rest := []) (lenOf pd_0 rfl) rfl (by show 2 * 0 + _ ≤ _; exact Nat.le_of_eq rfl) (hb hby at_105) (fun _ _ => ⟨rfl, e7, (by decide : 0 + 0 ≤ _), (by decide : 0 + 0 ≤ _)⟩)
        dsimp only [Pt.U, Pt.locs, Pt.cells, Pt.slots] at X8 l8 y8 z8 st8 hQ8
        subst l8 y8 z8
        obtain ⟨rfl, N8q, e8⟩ := hQ8
        have N8 := Fr.app N0 N8q
        obtain ⟨fs, hr, hrun, hended, hW, hsame⟩ := X8.leave (v := some (.int (1 : Int32))) (fun h => by rw [Bd.returns] at h; cases h)
        refine ⟨_, _, pre0 _ ?_, hrun, hended, _, _, rfl, ?_, ⟨_, rfl⟩, hW, hsame.mono (by decide) (by decide)⟩
        · show Steps p.tables e below (s₁.setTop (mkF m 0 #[.val (.int p0), .val (.int p1), .unset, .unset, .unset, .unset, .unset] [])) _
          refine XS.iloadN X0.here hx rfl (hb hby at_0) rfl ?_
          show Steps p.tables e below (s₁.setTop (mkF m 1 #[.val (.int p0), .val (.int p1), .unset, .unset, .unset, .unset, .unset] [(.int p0)])) _
          refine XS.iconst X0.here hx rfl (hb hby at_1) ?_
          show Steps p.tables e below (s₁.setTop (mkF m 2 #[.val (.int p0), .val (.int p1), .unset, .unset, .unset, .unset, .unset] [(.int (1 : Int32)), (.int p0)])) _
          refine XS.iand X0.here hx rfl (hb hby at_2) rfl ?_
          show Steps p.tables e below (s₁.setTop (mkF m 3 #[.val (.int p0), .val (.int p1), .unset, .unset, .unset, .unset, .unset] [(.int (p0 &&& (1 : Int32)))])) _
          refine XS.ifNo X0.here hx rfl (hb hby at_3) rfl ((if0 _ _).trans (teq hc1).2) ?_
          show Steps p.tables e below (s₁.setTop (mkF m 6 #[.val (.int p0), .val (.int p1), .unset, .unset, .unset, .unset, .unset] [])) _
          refine XS.iconst X0.here hx rfl (hb hby at_6) ?_
          show Steps p.tables e below (s₁.setTop (mkF m 7 #[.val (.int p0), .val (.int p1), .unset, .unset, .unset, .unset, .unset] [(.int (1 : Int32))])) _
          refine XS.goto X0.here hx rfl (pc0 := 7) (pc' := 11) rfl (hb hby at_7) (by decide) (by decide) ?_
          show Steps p.tables e below (s₁.setTop (mkF m 11 #[.val (.int p0), .val (.int p1), .unset, .unset, .unset, .unset, .unset] [(.int (1 : Int32))])) _
          refine XS.istoreN X0.here hx rfl (hb hby at_11) rfl (l' := #[.val (.int p0), .val (.int p1), .val (.int (1 : Int32)), .unset, .unset, .unset, .unset]) rfl ?_
          show Steps p.tables e below (s₁.setTop (mkF m 12 #[.val (.int p0), .val (.int p1), .val (.int (1 : Int32)), .unset, .unset, .unset, .unset] [])) _
          refine XS.iloadN X0.here hx rfl (hb hby at_12) rfl ?_
          show Steps p.tables e below (s₁.setTop (mkF m 13 #[.val (.int p0), .val (.int p1), .val (.int (1 : Int32)), .unset, .unset, .unset, .unset] [(.int (1 : Int32))])) _
          refine XS.ifNo X0.here hx rfl (hb hby at_13) rfl ((if0 _ _).trans (feq (by decide : ¬ ((1 : Int32) = (0 : Int32)))).1) ?_
          show Steps p.tables e below (s₁.setTop (mkF m 16 #[.val (.int p0), .val (.int p1), .val (.int (1 : Int32)), .unset, .unset, .unset, .unset] [])) _
          refine st2 _ ?_
          show Steps p.tables e below (T2.setTop (mkF m 19 #[.val (.int p0), .val (.int p1), .val (.int (1 : Int32)), .unset, .unset, .unset, .unset] [(.ref w_ALL)])) _
          refine XS.goto X2.here hx rfl (pc0 := 19) (pc' := 25) rfl (hb hby at_19) (by decide) (by decide) ?_
          show Steps p.tables e below (T2.setTop (mkF m 25 #[.val (.int p0), .val (.int p1), .val (.int (1 : Int32)), .unset, .unset, .unset, .unset] [(.ref w_ALL)])) _
          refine XS.astoreN X2.here hx rfl (hb hby at_25) rfl rfl (l' := #[.val (.int p0), .val (.int p1), .val (.int (1 : Int32)), .val (.ref w_ALL), .unset, .unset, .unset]) rfl ?_
          show Steps p.tables e below (T2.setTop (mkF m 26 #[.val (.int p0), .val (.int p1), .val (.int (1 : Int32)), .val (.ref w_ALL), .unset, .unset, .unset] [])) _
          refine XS.iloadN X2.here hx rfl (hb hby at_26) rfl ?_
          show Steps p.tables e below (T2.setTop (mkF m 27 #[.val (.int p0), .val (.int p1), .val (.int (1 : Int32)), .val (.ref w_ALL), .unset, .unset, .unset] [(.int p1)])) _
          refine X2.ldcInt hx hown (mvT hZ (hw _ (List.mem_of_getElem? (i := 3) rfl))) (g := (mkF m 27 #[.val (.int p0), .val (.int p1), .val (.int (1 : Int32)), .val (.ref w_ALL), .unset, .unset, .unset] [(.int p1)])) rfl (hb hby at_27) _ ?_
          show Steps p.tables e below (T2.setTop (mkF m 29 #[.val (.int p0), .val (.int p1), .val (.int (1 : Int32)), .val (.ref w_ALL), .unset, .unset, .unset] [(.int (2147483647 : Int32)), (.int p1)])) _
          refine XS.iand X2.here hx rfl (hb hby at_29) rfl ?_
          show Steps p.tables e below (T2.setTop (mkF m 30 #[.val (.int p0), .val (.int p1), .val (.int (1 : Int32)), .val (.ref w_ALL), .unset, .unset, .unset] [(.int (p1 &&& (2147483647 : Int32)))])) _
          refine XS.iconst X2.here hx rfl (hb hby at_30) ?_
          show Steps p.tables e below (T2.setTop (mkF m 31 #[.val (.int p0), .val (.int p1), .val (.int (1 : Int32)), .val (.ref w_ALL), .unset, .unset, .unset] [(.int (3 : Int32)), (.int (p1 &&& (2147483647 : Int32)))])) _
          refine iremM (g := (mkF m 31 #[.val (.int p0), .val (.int p1), .val (.int (1 : Int32)), .val (.ref w_ALL), .unset, .unset, .unset] [(.int (3 : Int32)), (.int (p1 &&& (2147483647 : Int32)))])) X2 hx rfl (hb hby at_31) rfl (by decide) ?_
          show Steps p.tables e below (T2.setTop (mkF m 32 #[.val (.int p0), .val (.int p1), .val (.int (1 : Int32)), .val (.ref w_ALL), .unset, .unset, .unset] [(.int ((p1 &&& (2147483647 : Int32)) % (3 : Int32)))])) _
          refine XS.istore X2.here hx rfl (hb hby at_32) rfl (l' := #[.val (.int p0), .val (.int p1), .val (.int (1 : Int32)), .val (.ref w_ALL), .val (.int ((p1 &&& (2147483647 : Int32)) % (3 : Int32))), .unset, .unset]) rfl ?_
          show Steps p.tables e below (T2.setTop (mkF m 34 #[.val (.int p0), .val (.int p1), .val (.int (1 : Int32)), .val (.ref w_ALL), .val (.int ((p1 &&& (2147483647 : Int32)) % (3 : Int32))), .unset, .unset] [])) _
          refine XS.iload X2.here hx rfl (hb hby at_34) rfl ?_
          show Steps p.tables e below (T2.setTop (mkF m 36 #[.val (.int p0), .val (.int p1), .val (.int (1 : Int32)), .val (.ref w_ALL), .val (.int ((p1 &&& (2147483647 : Int32)) % (3 : Int32))), .unset, .unset] [(.int ((p1 &&& (2147483647 : Int32)) % (3 : Int32)))])) _
          refine XS.ifYes X2.here hx rfl (pc0 := 36) (pc' := 47) rfl (hb hby at_36) rfl ((if0 _ _).trans (feq hc3).2) (by decide) (by decide) ?_
          show Steps p.tables e below (T2.setTop (mkF m 47 #[.val (.int p0), .val (.int p1), .val (.int (1 : Int32)), .val (.ref w_ALL), .val (.int ((p1 &&& (2147483647 : Int32)) % (3 : Int32))), .unset, .unset] [])) _
          refine XS.iload X2.here hx rfl (hb hby at_47) rfl ?_
          show Steps p.tables e below (T2.setTop (mkF m 49 #[.val (.int p0), .val (.int p1), .val (.int (1 : Int32)), .val (.ref w_ALL), .val (.int ((p1 &&& (2147483647 : Int32)) % (3 : Int32))), .unset, .unset] [(.int ((p1 &&& (2147483647 : Int32)) % (3 : Int32)))])) _
          refine XS.iconst X2.here hx rfl (hb hby at_49) ?_
          show Steps p.tables e below (T2.setTop (mkF m 50 #[.val (.int p0), .val (.int p1), .val (.int (1 : Int32)), .val (.ref w_ALL), .val (.int ((p1 &&& (2147483647 : Int32)) % (3 : Int32))), .unset, .unset] [(.int (1 : Int32)), (.int ((p1 &&& (2147483647 : Int32)) % (3 : Int32)))])) _
          refine XS.icmpNo X2.here hx rfl (hb hby at_50) rfl (teq hc6).2 ?_
          show Steps p.tables e below (T2.setTop (mkF m 53 #[.val (.int p0), .val (.int p1), .val (.int (1 : Int32)), .val (.ref w_ALL), .val (.int ((p1 &&& (2147483647 : Int32)) % (3 : Int32))), .unset, .unset] [])) _
          refine st7 _ ?_
          show Steps p.tables e below (T7.setTop (mkF m 56 #[.val (.int p0), .val (.int p1), .val (.int (1 : Int32)), .val (.ref w_ALL), .val (.int ((p1 &&& (2147483647 : Int32)) % (3 : Int32))), .unset, .unset] [(.ref w_DENY)])) _
          refine XS.astore X7.here hx rfl (hb hby at_56) rfl rfl (l' := #[.val (.int p0), .val (.int p1), .val (.int (1 : Int32)), .val (.ref w_ALL), .val (.int ((p1 &&& (2147483647 : Int32)) % (3 : Int32))), .val (.ref w_DENY), .unset]) rfl ?_
          show Steps p.tables e below (T7.setTop (mkF m 58 #[.val (.int p0), .val (.int p1), .val (.int (1 : Int32)), .val (.ref w_ALL), .val (.int ((p1 &&& (2147483647 : Int32)) % (3 : Int32))), .val (.ref w_DENY), .unset] [])) _
          refine XS.goto X7.here hx rfl (pc0 := 58) (pc' := 66) rfl (hb hby at_58) (by decide) (by decide) ?_
          show Steps p.tables e below (T7.setTop (mkF m 66 #[.val (.int p0), .val (.int p1), .val (.int (1 : Int32)), .val (.ref w_ALL), .val (.int ((p1 &&& (2147483647 : Int32)) % (3 : Int32))), .val (.ref w_DENY), .unset] [])) _
          refine XS.iloadN X7.here hx rfl (hb hby at_66) rfl ?_
          show Steps p.tables e below (T7.setTop (mkF m 67 #[.val (.int p0), .val (.int p1), .val (.int (1 : Int32)), .val (.ref w_ALL), .val (.int ((p1 &&& (2147483647 : Int32)) % (3 : Int32))), .val (.ref w_DENY), .unset] [(.int (1 : Int32))])) _
          refine XS.ifNo X7.here hx rfl (hb hby at_67) rfl ((if0 _ _).trans (feq (by decide : ¬ ((1 : Int32) = (0 : Int32)))).1) ?_
          show Steps p.tables e below (T7.setTop (mkF m 70 #[.val (.int p0), .val (.int p1), .val (.int (1 : Int32)), .val (.ref w_ALL), .val (.int ((p1 &&& (2147483647 : Int32)) % (3 : Int32))), .val (.ref w_DENY), .unset] [])) _
          refine XS.iconst X7.here hx rfl (hb hby at_70) ?_
          show Steps p.tables e below (T7.setTop (mkF m 71 #[.val (.int p0), .val (.int p1), .val (.int (1 : Int32)), .val (.ref w_ALL), .val (.int ((p1 &&& (2147483647 : Int32)) % (3 : Int32))), .val (.ref w_DENY), .unset] [(.int (1 : Int32))])) _
          refine XS.istore X7.here hx rfl (hb hby at_71) rfl (l' := #[.val (.int p0), .val (.int p1), .val (.int (1 : Int32)), .val (.ref w_ALL), .val (.int ((p1 &&& (2147483647 : Int32)) % (3 : Int32))), .val (.ref w_DENY), .val (.int (1 : Int32))]) rfl ?_
          show Steps p.tables e below (T7.setTop (mkF m 73 #[.val (.int p0), .val (.int p1), .val (.int (1 : Int32)), .val (.ref w_ALL), .val (.int ((p1 &&& (2147483647 : Int32)) % (3 : Int32))), .val (.ref w_DENY), .val (.int (1 : Int32))] [])) _
          refine XS.goto X7.here hx rfl (pc0 := 73) (pc' := 102) rfl (hb hby at_73) (by decide) (by decide) ?_
          show Steps p.tables e below (T7.setTop (mkF m 102 #[.val (.int p0), .val (.int p1), .val (.int (1 : Int32)), .val (.ref w_ALL), .val (.int ((p1 &&& (2147483647 : Int32)) % (3 : Int32))), .val (.ref w_DENY), .val (.int (1 : Int32))] [])) _
          refine XS.aloadN X7.here hx rfl (hb hby at_102) rfl rfl ?_
          show Steps p.tables e below (T7.setTop (mkF m 103 #[.val (.int p0), .val (.int p1), .val (.int (1 : Int32)), .val (.ref w_ALL), .val (.int ((p1 &&& (2147483647 : Int32)) % (3 : Int32))), .val (.ref w_DENY), .val (.int (1 : Int32))] [(.ref w_ALL)])) _
          refine XS.aload X7.here hx rfl (hb hby at_103) rfl rfl ?_
          show Steps p.tables e below (T7.setTop (mkF m 105 #[.val (.int p0), .val (.int p1), .val (.int (1 : Int32)), .val (.ref w_ALL), .val (.int ((p1 &&& (2147483647 : Int32)) % (3 : Int32))), .val (.ref w_DENY), .val (.int (1 : Int32))] [(.ref w_DENY), (.ref w_ALL)])) _
          refine st8.trans ?_
          show Steps p.tables e below (T8.setTop (mkF m 108 #[.val (.int p0), .val (.int p1), .val (.int (1 : Int32)), .val (.ref w_ALL), .val (.int ((p1 &&& (2147483647 : Int32)) % (3 : Int32))), .val (.ref w_DENY), .val (.int (1 : Int32))] [(.int (if w_ALL = w_ALL then (1 : Int32) else if w_DENY = w_ALLOW then 0 else 1))])) _
          refine XS.iload X8.here hx rfl (hb hby at_108) rfl ?_
          show Steps p.tables e below (T8.setTop (mkF m 110 #[.val (.int p0), .val (.int p1), .val (.int (1 : Int32)), .val (.ref w_ALL), .val (.int ((p1 &&& (2147483647 : Int32)) % (3 : Int32))), .val (.ref w_DENY), .val (.int (1 : Int32))] [(.int (1 : Int32)), (.int (if w_ALL = w_ALL then (1 : Int32) else if w_DENY = w_ALLOW then 0 else 1))])) _
          refine XS.icmpNo X8.here hx rfl (hb hby at_110) rfl (teq (by simp [ne_Selection_DENY_ALL, ne_DENY_ALLOW, ne_ERROR_ALLOW] : (if w_ALL = w_ALL then (1 : Int32) else if w_DENY = w_ALLOW then 0 else 1) = (1 : Int32))).2 ?_
          show Steps p.tables e below (T8.setTop (mkF m 113 #[.val (.int p0), .val (.int p1), .val (.int (1 : Int32)), .val (.ref w_ALL), .val (.int ((p1 &&& (2147483647 : Int32)) % (3 : Int32))), .val (.ref w_DENY), .val (.int (1 : Int32))] [])) _
          refine XS.iconst X8.here hx rfl (hb hby at_113) ?_
          show Steps p.tables e below (T8.setTop (mkF m 114 #[.val (.int p0), .val (.int p1), .val (.int (1 : Int32)), .val (.ref w_ALL), .val (.int ((p1 &&& (2147483647 : Int32)) % (3 : Int32))), .val (.ref w_DENY), .val (.int (1 : Int32))] [(.int (1 : Int32))])) _
          refine XS.goto X8.here hx rfl (pc0 := 114) (pc' := 118) rfl (hb hby at_114) (by decide) (by decide) ?_
          show Steps p.tables e below (T8.setTop (mkF m 118 #[.val (.int p0), .val (.int p1), .val (.int (1 : Int32)), .val (.ref w_ALL), .val (.int ((p1 &&& (2147483647 : Int32)) % (3 : Int32))), .val (.ref w_DENY), .val (.int (1 : Int32))] [(.int (1 : Int32))])) _
          exact retN X8 hx (t := .boolean) Bd.returns (by simp) (hb hby at_118) hr
        · show Q_rm0 Z p0 p1 w_ALL w_ALLOW w_DENY w_ERROR w_Selection_DENY h0 n0 _ T8.heap _
          rw [e8]
          exact ⟨rfl, N8, rfl⟩
      · obtain ⟨T9, X9, e9, st9⟩ := getS2 X2 hx hZ hown (host := "") (Or.inl (hw _ (List.mem_of_getElem? (i := 15) rfl))) Via.refl e2 S_ERROR (g := (mkF m 61 #[.val (.int p0), .val (.int p1), .val (.int (1 : Int32)), .val (.ref w_ALL), .val (.int ((p1 &&& (2147483647 : Int32)) % (3 : Int32))), .unset, .unset] [])) rfl (hb hby at_61)
        obtain ⟨cq10, kq10, q10a, q10b, q10c⟩ := isOf hZ e9 E_ALL
        obtain ⟨_, _, ⟨T10, L10, k10, n10⟩, -, X10, ⟨Lc10, hQ10, l10, y10, z10⟩, st10⟩ := X9.virtualBack hx (y := (⟨"com/example/label_gate/labelgate/AuditTrail$Selection", "takes", "(Lcom/example/label_gate/labelgate/Outcome;)Z"⟩ : MethodName)) (z := (⟨"com/example/label_gate/labelgate/AuditTrail$Selection", "takes", "(Lcom/example/label_gate/labelgate/Outcome;)Z"⟩ : MethodName)) hown (mvT hZ (hw _ (List.mem_of_getElem? (i := 7) rfl))) (mvT hZ (hw _ (List.mem_of_getElem? (i := 8) rfl))) (notFace_of_selects (args := #[]) (mvT hZ (hw _ (List.mem_of_getElem? (i := 10) rfl)))) (mvT hZ (hw _ (List.mem_of_getElem? (i := 10) rfl))) (mvT hZ (hw _ (List.mem_of_getElem? (i := 9) rfl))) (by decide) (backOf (W := 0) (rm1 l Z a0 hw [] w_ALL w_ERROR w_ALL w_ALLOW w_DENY w_ERROR w_Selection_DENY h0 n0 Z0 WD) hZ (hw _ (List.mem_of_getElem? (i := 11) rfl)) (hw _ (List.mem_of_getElem? (i := 1) rfl)) (by decide) (by decide)) q10a q10c (g := (mkF m 105 #[.val (.int p0), .val (.int p1), .val (.int (1 : Int32)), .val (.ref w_ALL), .val (.int ((p1 &&& (2147483647 : Int32)) % (3 : Int32))), .val (.ref w_ERROR), .val (.int (1 : Int32))] [(.ref w_ERROR), (.ref w_ALL)])) rfl (by rw [hml]; rfl) (Steps.refl _) (argsL := [(.ref w_ERROR)]) (rest := []) (lenOf pd_0 rfl) rfl (by show 2 * 0 + _ ≤ _; exact Nat.le_of_eq rfl) (hb hby at_105) (fun _ _ => ⟨rfl, e9, (by decide : 0 + 0 ≤ _), (by decide : 0 + 0 ≤ _)⟩)
        dsimp only [Pt.U, Pt.locs, Pt.cells, Pt.slots] at X10 l10 y10 z10 st10 hQ10
        subst l10 y10 z10
        obtain ⟨rfl, N10q, e10⟩ := hQ10
        have N10 := Fr.app N0 N10q
        obtain ⟨fs, hr, hrun, hended, hW, hsame⟩ := X10.leave (v := some (.int (1 : Int32))) (fun h => by rw [Bd.returns] at h; cases h)
        refine ⟨_, _, pre0 _ ?_, hrun, hended, _, _, rfl, ?_, ⟨_, rfl⟩, hW, hsame.mono (by decide) (by decide)⟩
        · show Steps p.tables e below (s₁.setTop (mkF m 0 #[.val (.int p0), .val (.int p1), .unset, .unset, .unset, .unset, .unset] [])) _
          refine XS.iloadN X0.here hx rfl (hb hby at_0) rfl ?_
          show Steps p.tables e below (s₁.setTop (mkF m 1 #[.val (.int p0), .val (.int p1), .unset, .unset, .unset, .unset, .unset] [(.int p0)])) _
          refine XS.iconst X0.here hx rfl (hb hby at_1) ?_
          show Steps p.tables e below (s₁.setTop (mkF m 2 #[.val (.int p0), .val (.int p1), .unset, .unset, .unset, .unset, .unset] [(.int (1 : Int32)), (.int p0)])) _
          refine XS.iand X0.here hx rfl (hb hby at_2) rfl ?_
          show Steps p.tables e below (s₁.setTop (mkF m 3 #[.val (.int p0), .val (.int p1), .unset, .unset, .unset, .unset, .unset] [(.int (p0 &&& (1 : Int32)))])) _
          refine XS.ifNo X0.here hx rfl (hb hby at_3) rfl ((if0 _ _).trans (teq hc1).2) ?_
          show Steps p.tables e below (s₁.setTop (mkF m 6 #[.val (.int p0), .val (.int p1), .unset, .unset, .unset, .unset, .unset] [])) _
          refine XS.iconst X0.here hx rfl (hb hby at_6) ?_
          show Steps p.tables e below (s₁.setTop (mkF m 7 #[.val (.int p0), .val (.int p1), .unset, .unset, .unset, .unset, .unset] [(.int (1 : Int32))])) _
          refine XS.goto X0.here hx rfl (pc0 := 7) (pc' := 11) rfl (hb hby at_7) (by decide) (by decide) ?_
          show Steps p.tables e below (s₁.setTop (mkF m 11 #[.val (.int p0), .val (.int p1), .unset, .unset, .unset, .unset, .unset] [(.int (1 : Int32))])) _
          refine XS.istoreN X0.here hx rfl (hb hby at_11) rfl (l' := #[.val (.int p0), .val (.int p1), .val (.int (1 : Int32)), .unset, .unset, .unset, .unset]) rfl ?_
          show Steps p.tables e below (s₁.setTop (mkF m 12 #[.val (.int p0), .val (.int p1), .val (.int (1 : Int32)), .unset, .unset, .unset, .unset] [])) _
          refine XS.iloadN X0.here hx rfl (hb hby at_12) rfl ?_
          show Steps p.tables e below (s₁.setTop (mkF m 13 #[.val (.int p0), .val (.int p1), .val (.int (1 : Int32)), .unset, .unset, .unset, .unset] [(.int (1 : Int32))])) _
          refine XS.ifNo X0.here hx rfl (hb hby at_13) rfl ((if0 _ _).trans (feq (by decide : ¬ ((1 : Int32) = (0 : Int32)))).1) ?_
          show Steps p.tables e below (s₁.setTop (mkF m 16 #[.val (.int p0), .val (.int p1), .val (.int (1 : Int32)), .unset, .unset, .unset, .unset] [])) _
          refine st2 _ ?_
          show Steps p.tables e below (T2.setTop (mkF m 19 #[.val (.int p0), .val (.int p1), .val (.int (1 : Int32)), .unset, .unset, .unset, .unset] [(.ref w_ALL)])) _
          refine XS.goto X2.here hx rfl (pc0 := 19) (pc' := 25) rfl (hb hby at_19) (by decide) (by decide) ?_
          show Steps p.tables e below (T2.setTop (mkF m 25 #[.val (.int p0), .val (.int p1), .val (.int (1 : Int32)), .unset, .unset, .unset, .unset] [(.ref w_ALL)])) _
          refine XS.astoreN X2.here hx rfl (hb hby at_25) rfl rfl (l' := #[.val (.int p0), .val (.int p1), .val (.int (1 : Int32)), .val (.ref w_ALL), .unset, .unset, .unset]) rfl ?_
          show Steps p.tables e below (T2.setTop (mkF m 26 #[.val (.int p0), .val (.int p1), .val (.int (1 : Int32)), .val (.ref w_ALL), .unset, .unset, .unset] [])) _
          refine XS.iloadN X2.here hx rfl (hb hby at_26) rfl ?_
          show Steps p.tables e below (T2.setTop (mkF m 27 #[.val (.int p0), .val (.int p1), .val (.int (1 : Int32)), .val (.ref w_ALL), .unset, .unset, .unset] [(.int p1)])) _
          refine X2.ldcInt hx hown (mvT hZ (hw _ (List.mem_of_getElem? (i := 3) rfl))) (g := (mkF m 27 #[.val (.int p0), .val (.int p1), .val (.int (1 : Int32)), .val (.ref w_ALL), .unset, .unset, .unset] [(.int p1)])) rfl (hb hby at_27) _ ?_
          show Steps p.tables e below (T2.setTop (mkF m 29 #[.val (.int p0), .val (.int p1), .val (.int (1 : Int32)), .val (.ref w_ALL), .unset, .unset, .unset] [(.int (2147483647 : Int32)), (.int p1)])) _
          refine XS.iand X2.here hx rfl (hb hby at_29) rfl ?_
          show Steps p.tables e below (T2.setTop (mkF m 30 #[.val (.int p0), .val (.int p1), .val (.int (1 : Int32)), .val (.ref w_ALL), .unset, .unset, .unset] [(.int (p1 &&& (2147483647 : Int32)))])) _
          refine XS.iconst X2.here hx rfl (hb hby at_30) ?_
          show Steps p.tables e below (T2.setTop (mkF m 31 #[.val (.int p0), .val (.int p1), .val (.int (1 : Int32)), .val (.ref w_ALL), .unset, .unset, .unset] [(.int (3 : Int32)), (.int (p1 &&& (2147483647 : Int32)))])) _
          refine iremM (g := (mkF m 31 #[.val (.int p0), .val (.int p1), .val (.int (1 : Int32)), .val (.ref w_ALL), .unset, .unset, .unset] [(.int (3 : Int32)), (.int (p1 &&& (2147483647 : Int32)))])) X2 hx rfl (hb hby at_31) rfl (by decide) ?_
          show Steps p.tables e below (T2.setTop (mkF m 32 #[.val (.int p0), .val (.int p1), .val (.int (1 : Int32)), .val (.ref w_ALL), .unset, .unset, .unset] [(.int ((p1 &&& (2147483647 : Int32)) % (3 : Int32)))])) _
          refine XS.istore X2.here hx rfl (hb hby at_32) rfl (l' := #[.val (.int p0), .val (.int p1), .val (.int (1 : Int32)), .val (.ref w_ALL), .val (.int ((p1 &&& (2147483647 : Int32)) % (3 : Int32))), .unset, .unset]) rfl ?_
          show Steps p.tables e below (T2.setTop (mkF m 34 #[.val (.int p0), .val (.int p1), .val (.int (1 : Int32)), .val (.ref w_ALL), .val (.int ((p1 &&& (2147483647 : Int32)) % (3 : Int32))), .unset, .unset] [])) _
          refine XS.iload X2.here hx rfl (hb hby at_34) rfl ?_
          show Steps p.tables e below (T2.setTop (mkF m 36 #[.val (.int p0), .val (.int p1), .val (.int (1 : Int32)), .val (.ref w_ALL), .val (.int ((p1 &&& (2147483647 : Int32)) % (3 : Int32))), .unset, .unset] [(.int ((p1 &&& (2147483647 : Int32)) % (3 : Int32)))])) _
          refine XS.ifYes X2.here hx rfl (pc0 := 36) (pc' := 47) rfl (hb hby at_36) rfl ((if0 _ _).trans (feq hc3).2) (by decide) (by decide) ?_
          show Steps p.tables e below (T2.setTop (mkF m 47 #[.val (.int p0), .val (.int p1), .val (.int (1 : Int32)), .val (.ref w_ALL), .val (.int ((p1 &&& (2147483647 : Int32)) % (3 : Int32))), .unset, .unset] [])) _
          refine XS.iload X2.here hx rfl (hb hby at_47) rfl ?_
          show Steps p.tables e below (T2.setTop (mkF m 49 #[.val (.int p0), .val (.int p1), .val (.int (1 : Int32)), .val (.ref w_ALL), .val (.int ((p1 &&& (2147483647 : Int32)) % (3 : Int32))), .unset, .unset] [(.int ((p1 &&& (2147483647 : Int32)) % (3 : Int32)))])) _
          refine XS.iconst X2.here hx rfl (hb hby at_49) ?_
          show Steps p.tables e below (T2.setTop (mkF m 50 #[.val (.int p0), .val (.int p1), .val (.int (1 : Int32)), .val (.ref w_ALL), .val (.int ((p1 &&& (2147483647 : Int32)) % (3 : Int32))), .unset, .unset] [(.int (1 : Int32)), (.int ((p1 &&& (2147483647 : Int32)) % (3 : Int32)))])) _
          refine XS.icmpYes X2.here hx rfl (pc0 := 50) (pc' := 61) rfl (hb hby at_50) rfl (feq hc6).2 (by decide) (by decide) ?_
          show Steps p.tables e below (T2.setTop (mkF m 61 #[.val (.int p0), .val (.int p1), .val (.int (1 : Int32)), .val (.ref w_ALL), .val (.int ((p1 &&& (2147483647 : Int32)) % (3 : Int32))), .unset, .unset] [])) _
          refine st9 _ ?_
          show Steps p.tables e below (T9.setTop (mkF m 64 #[.val (.int p0), .val (.int p1), .val (.int (1 : Int32)), .val (.ref w_ALL), .val (.int ((p1 &&& (2147483647 : Int32)) % (3 : Int32))), .unset, .unset] [(.ref w_ERROR)])) _
          refine XS.astore X9.here hx rfl (hb hby at_64) rfl rfl (l' := #[.val (.int p0), .val (.int p1), .val (.int (1 : Int32)), .val (.ref w_ALL), .val (.int ((p1 &&& (2147483647 : Int32)) % (3 : Int32))), .val (.ref w_ERROR), .unset]) rfl ?_
          show Steps p.tables e below (T9.setTop (mkF m 66 #[.val (.int p0), .val (.int p1), .val (.int (1 : Int32)), .val (.ref w_ALL), .val (.int ((p1 &&& (2147483647 : Int32)) % (3 : Int32))), .val (.ref w_ERROR), .unset] [])) _
          refine XS.iloadN X9.here hx rfl (hb hby at_66) rfl ?_
          show Steps p.tables e below (T9.setTop (mkF m 67 #[.val (.int p0), .val (.int p1), .val (.int (1 : Int32)), .val (.ref w_ALL), .val (.int ((p1 &&& (2147483647 : Int32)) % (3 : Int32))), .val (.ref w_ERROR), .unset] [(.int (1 : Int32))])) _
          refine XS.ifNo X9.here hx rfl (hb hby at_67) rfl ((if0 _ _).trans (feq (by decide : ¬ ((1 : Int32) = (0 : Int32)))).1) ?_
          show Steps p.tables e below (T9.setTop (mkF m 70 #[.val (.int p0), .val (.int p1), .val (.int (1 : Int32)), .val (.ref w_ALL), .val (.int ((p1 &&& (2147483647 : Int32)) % (3 : Int32))), .val (.ref w_ERROR), .unset] [])) _
          refine XS.iconst X9.here hx rfl (hb hby at_70) ?_
          show Steps p.tables e below (T9.setTop (mkF m 71 #[.val (.int p0), .val (.int p1), .val (.int (1 : Int32)), .val (.ref w_ALL), .val (.int ((p1 &&& (2147483647 : Int32)) % (3 : Int32))), .val (.ref w_ERROR), .unset] [(.int (1 : Int32))])) _
          refine XS.istore X9.here hx rfl (hb hby at_71) rfl (l' := #[.val (.int p0), .val (.int p1), .val (.int (1 : Int32)), .val (.ref w_ALL), .val (.int ((p1 &&& (2147483647 : Int32)) % (3 : Int32))), .val (.ref w_ERROR), .val (.int (1 : Int32))]) rfl ?_
          show Steps p.tables e below (T9.setTop (mkF m 73 #[.val (.int p0), .val (.int p1), .val (.int (1 : Int32)), .val (.ref w_ALL), .val (.int ((p1 &&& (2147483647 : Int32)) % (3 : Int32))), .val (.ref w_ERROR), .val (.int (1 : Int32))] [])) _
          refine XS.goto X9.here hx rfl (pc0 := 73) (pc' := 102) rfl (hb hby at_73) (by decide) (by decide) ?_
          show Steps p.tables e below (T9.setTop (mkF m 102 #[.val (.int p0), .val (.int p1), .val (.int (1 : Int32)), .val (.ref w_ALL), .val (.int ((p1 &&& (2147483647 : Int32)) % (3 : Int32))), .val (.ref w_ERROR), .val (.int (1 : Int32))] [])) _
          refine XS.aloadN X9.here hx rfl (hb hby at_102) rfl rfl ?_
          show Steps p.tables e below (T9.setTop (mkF m 103 #[.val (.int p0), .val (.int p1), .val (.int (1 : Int32)), .val (.ref w_ALL), .val (.int ((p1 &&& (2147483647 : Int32)) % (3 : Int32))), .val (.ref w_ERROR), .val (.int (1 : Int32))] [(.ref w_ALL)])) _
          refine XS.aload X9.here hx rfl (hb hby at_103) rfl rfl ?_
          show Steps p.tables e below (T9.setTop (mkF m 105 #[.val (.int p0), .val (.int p1), .val (.int (1 : Int32)), .val (.ref w_ALL), .val (.int ((p1 &&& (2147483647 : Int32)) % (3 : Int32))), .val (.ref w_ERROR), .val (.int (1 : Int32))] [(.ref w_ERROR), (.ref w_ALL)])) _
          refine st10.trans ?_
          show Steps p.tables e below (T10.setTop (mkF m 108 #[.val (.int p0), .val (.int p1), .val (.int (1 : Int32)), .val (.ref w_ALL), .val (.int ((p1 &&& (2147483647 : Int32)) % (3 : Int32))), .val (.ref w_ERROR), .val (.int (1 : Int32))] [(.int (if w_ALL = w_ALL then (1 : Int32) else if w_ERROR = w_ALLOW then 0 else 1))])) _
          refine XS.iload X10.here hx rfl (hb hby at_108) rfl ?_
          show Steps p.tables e below (T10.setTop (mkF m 110 #[.val (.int p0), .val (.int p1), .val (.int (1 : Int32)), .val (.ref w_ALL), .val (.int ((p1 &&& (2147483647 : Int32)) % (3 : Int32))), .val (.ref w_ERROR), .val (.int (1 : Int32))] [(.int (1 : Int32)), (.int (if w_ALL = w_ALL then (1 : Int32) else if w_ERROR = w_ALLOW then 0 else 1))])) _
          refine XS.icmpNo X10.here hx rfl (hb hby at_110) rfl (teq (by simp [ne_Selection_DENY_ALL, ne_DENY_ALLOW, ne_ERROR_ALLOW] : (if w_ALL = w_ALL then (1 : Int32) else if w_ERROR = w_ALLOW then 0 else 1) = (1 : Int32))).2 ?_
          show Steps p.tables e below (T10.setTop (mkF m 113 #[.val (.int p0), .val (.int p1), .val (.int (1 : Int32)), .val (.ref w_ALL), .val (.int ((p1 &&& (2147483647 : Int32)) % (3 : Int32))), .val (.ref w_ERROR), .val (.int (1 : Int32))] [])) _
          refine XS.iconst X10.here hx rfl (hb hby at_113) ?_
          show Steps p.tables e below (T10.setTop (mkF m 114 #[.val (.int p0), .val (.int p1), .val (.int (1 : Int32)), .val (.ref w_ALL), .val (.int ((p1 &&& (2147483647 : Int32)) % (3 : Int32))), .val (.ref w_ERROR), .val (.int (1 : Int32))] [(.int (1 : Int32))])) _
          refine XS.goto X10.here hx rfl (pc0 := 114) (pc' := 118) rfl (hb hby at_114) (by decide) (by decide) ?_
          show Steps p.tables e below (T10.setTop (mkF m 118 #[.val (.int p0), .val (.int p1), .val (.int (1 : Int32)), .val (.ref w_ALL), .val (.int ((p1 &&& (2147483647 : Int32)) % (3 : Int32))), .val (.ref w_ERROR), .val (.int (1 : Int32))] [(.int (1 : Int32))])) _
          exact retN X10 hx (t := .boolean) Bd.returns (by simp) (hb hby at_118) hr
        · show Q_rm0 Z p0 p1 w_ALL w_ALLOW w_DENY w_ERROR w_Selection_DENY h0 n0 _ T10.heap _
          rw [e10]
          exact ⟨rfl, N10, rfl⟩
  · obtain ⟨T11, X11, e11, st11⟩ := getS2 X0 hx hZ hown (host := "") (Or.inl (hw _ (List.mem_of_getElem? (i := 17) rfl))) Via.refl e0 S_Selection_DENY (g := (mkF m 22 #[.val (.int p0), .val (.int p1), .val (.int (0 : Int32)), .unset, .unset, .unset, .unset] [])) rfl (hb hby at_22)
    by_cases hc12 : ((p1 &&& (2147483647 : Int32)) % (3 : Int32)) = (0 : Int32)
    · obtain ⟨T13, X13, e13, st13⟩ := getS2 X11 hx hZ hown (host := "") (Or.inl (hw _ (List.mem_of_getElem? (i := 4) rfl))) Via.refl e11 S_ALLOW (g := (mkF m 39 #[.val (.int p0), .val (.int p1), .val (.int (0 : Int32)), .val (.ref w_Selection_DENY), .val (.int ((p1 &&& (2147483647 : Int32)) % (3 : Int32))), .unset, .unset] [])) rfl (hb hby at_39)
      obtain ⟨cq14, kq14, q14a, q14b, q14c⟩ := isOf hZ e13 E_Selection_DENY
      obtain ⟨_, _, ⟨T14, L14, k14, n14⟩, -, X14, ⟨Lc14, hQ14, l14, y14, z14⟩, st14⟩ := X13.virtualBack hx (y := (⟨"com/example/label_gate/labelgate/AuditTrail$Selection", "takes", "(Lcom/example/label_gate/labelgate/Outcome;)Z"⟩ : MethodName)) (z := (⟨"com/example/label_gate/labelgate/AuditTrail$Selection", "takes", "(Lcom/example/label_gate/labelgate/Outcome;)Z"⟩ : MethodName)) hown (mvT hZ (hw _ (List.mem_of_getElem? (i := 7) rfl))) (mvT hZ (hw _ (List.mem_of_getElem? (i := 8) rfl))) (notFace_of_selects (args := #[]) (mvT hZ (hw _ (List.mem_of_getElem? (i := 10) rfl)))) (mvT hZ (hw _ (List.mem_of_getElem? (i := 10) rfl))) (mvT hZ (hw _ (List.mem_of_getElem? (i := 9) rfl))) (by decide) (backOf (W := 0) (rm1 l Z a0 hw [] w_Selection_DENY w_ALLOW w_ALL w_ALLOW w_DENY w_ERROR w_Selection_DENY h0 n0 Z0 WD) hZ (hw _ (List.mem_of_getElem? (i := 11) rfl)) (hw _ (List.mem_of_getElem? (i := 1) rfl)) (by decide) (by decide)) q14a q14c (g := (mkF m 105 #[.val (.int p0), .val (.int p1), .val (.int (0 : Int32)), .val (.ref w_Selection_DENY), .val (.int ((p1 &&& (2147483647 : Int32)) % (3 : Int32))), .val (.ref w_ALLOW), .val (.int (0 : Int32))] [(.ref w_ALLOW), (.ref w_Selection_DENY)])) rfl (by rw [hml]; rfl) (Steps.refl _) (argsL := [(.ref w_ALLOW)]) (rest := []) (lenOf pd_0 rfl) rfl (by show 2 * 0 + _ ≤ _; exact Nat.le_of_eq rfl) (hb hby at_105) (fun _ _ => ⟨rfl, e13, (by decide : 0 + 0 ≤ _), (by decide : 0 + 0 ≤ _)⟩)
      dsimp only [Pt.U, Pt.locs, Pt.cells, Pt.slots] at X14 l14 y14 z14 st14 hQ14
      subst l14 y14 z14
      obtain ⟨rfl, N14q, e14⟩ := hQ14
      have N14 := Fr.app N0 N14q
      obtain ⟨fs, hr, hrun, hended, hW, hsame⟩ := X14.leave (v := some (.int (1 : Int32))) (fun h => by rw [Bd.returns] at h; cases h)
      refine ⟨_, _, pre0 _ ?_, hrun, hended, _, _, rfl, ?_, ⟨_, rfl⟩, hW, hsame.mono (by decide) (by decide)⟩
      · show Steps p.tables e below (s₁.setTop (mkF m 0 #[.val (.int p0), .val (.int p1), .unset, .unset, .unset, .unset, .unset] [])) _
        refine XS.iloadN X0.here hx rfl (hb hby at_0) rfl ?_
        show Steps p.tables e below (s₁.setTop (mkF m 1 #[.val (.int p0), .val (.int p1), .unset, .unset, .unset, .unset, .unset] [(.int p0)])) _
        refine XS.iconst X0.here hx rfl (hb hby at_1) ?_
        show Steps p.tables e below (s₁.setTop (mkF m 2 #[.val (.int p0), .val (.int p1), .unset, .unset, .unset, .unset, .unset] [(.int (1 : Int32)), (.int p0)])) _
        refine XS.iand X0.here hx rfl (hb hby at_2) rfl ?_
        show Steps p.tables e below (s₁.setTop (mkF m 3 #[.val (.int p0), .val (.int p1), .unset, .unset, .unset, .unset, .unset] [(.int (p0 &&& (1 : Int32)))])) _
        refine XS.ifYes X0.here hx rfl (pc0 := 3) (pc' := 10) rfl (hb hby at_3) rfl ((if0 _ _).trans (feq hc1).2) (by decide) (by decide) ?_
        show Steps p.tables e below (s₁.setTop (mkF m 10 #[.val (.int p0), .val (.int p1), .unset, .unset, .unset, .unset, .unset] [])) _
        refine XS.iconst X0.here hx rfl (hb hby at_10) ?_
        show Steps p.tables e below (s₁.setTop (mkF m 11 #[.val (.int p0), .val (.int p1), .unset, .unset, .unset, .unset, .unset] [(.int (0 : Int32))])) _
        refine XS.istoreN X0.here hx rfl (hb hby at_11) rfl (l' := #[.val (.int p0), .val (.int p1), .val (.int (0 : Int32)), .unset, .unset, .unset, .unset]) rfl ?_
        show Steps p.tables e below (s₁.setTop (mkF m 12 #[.val (.int p0), .val (.int p1), .val (.int (0 : Int32)), .unset, .unset, .unset, .unset] [])) _
        refine XS.iloadN X0.here hx rfl (hb hby at_12) rfl ?_
        show Steps p.tables e below (s₁.setTop (mkF m 13 #[.val (.int p0), .val (.int p1), .val (.int (0 : Int32)), .unset, .unset, .unset, .unset] [(.int (0 : Int32))])) _
        refine XS.ifYes X0.here hx rfl (pc0 := 13) (pc' := 22) rfl (hb hby at_13) rfl ((if0 _ _).trans (teq (by decide : (0 : Int32) = (0 : Int32))).1) (by decide) (by decide) ?_
        show Steps p.tables e below (s₁.setTop (mkF m 22 #[.val (.int p0), .val (.int p1), .val (.int (0 : Int32)), .unset, .unset, .unset, .unset] [])) _
        refine st11 _ ?_
        show Steps p.tables e below (T11.setTop (mkF m 25 #[.val (.int p0), .val (.int p1), .val (.int (0 : Int32)), .unset, .unset, .unset, .unset] [(.ref w_Selection_DENY)])) _
        refine XS.astoreN X11.here hx rfl (hb hby at_25) rfl rfl (l' := #[.val (.int p0), .val (.int p1), .val (.int (0 : Int32)), .val (.ref w_Selection_DENY), .unset, .unset, .unset]) rfl ?_
        show Steps p.tables e below (T11.setTop (mkF m 26 #[.val (.int p0), .val (.int p1), .val (.int (0 : Int32)), .val (.ref w_Selection_DENY), .unset, .unset, .unset] [])) _
        refine XS.iloadN X11.here hx rfl (hb hby at_26) rfl ?_
        show Steps p.tables e below (T11.setTop (mkF m 27 #[.val (.int p0), .val (.int p1), .val (.int (0 : Int32)), .val (.ref w_Selection_DENY), .unset, .unset, .unset] [(.int p1)])) _
        refine X11.ldcInt hx hown (mvT hZ (hw _ (List.mem_of_getElem? (i := 3) rfl))) (g := (mkF m 27 #[.val (.int p0), .val (.int p1), .val (.int (0 : Int32)), .val (.ref w_Selection_DENY), .unset, .unset, .unset] [(.int p1)])) rfl (hb hby at_27) _ ?_
        show Steps p.tables e below (T11.setTop (mkF m 29 #[.val (.int p0), .val (.int p1), .val (.int (0 : Int32)), .val (.ref w_Selection_DENY), .unset, .unset, .unset] [(.int (2147483647 : Int32)), (.int p1)])) _
        refine XS.iand X11.here hx rfl (hb hby at_29) rfl ?_
        show Steps p.tables e below (T11.setTop (mkF m 30 #[.val (.int p0), .val (.int p1), .val (.int (0 : Int32)), .val (.ref w_Selection_DENY), .unset, .unset, .unset] [(.int (p1 &&& (2147483647 : Int32)))])) _
        refine XS.iconst X11.here hx rfl (hb hby at_30) ?_
        show Steps p.tables e below (T11.setTop (mkF m 31 #[.val (.int p0), .val (.int p1), .val (.int (0 : Int32)), .val (.ref w_Selection_DENY), .unset, .unset, .unset] [(.int (3 : Int32)), (.int (p1 &&& (2147483647 : Int32)))])) _
        refine iremM (g := (mkF m 31 #[.val (.int p0), .val (.int p1), .val (.int (0 : Int32)), .val (.ref w_Selection_DENY), .unset, .unset, .unset] [(.int (3 : Int32)), (.int (p1 &&& (2147483647 : Int32)))])) X11 hx rfl (hb hby at_31) rfl (by decide) ?_
        show Steps p.tables e below (T11.setTop (mkF m 32 #[.val (.int p0), .val (.int p1), .val (.int (0 : Int32)), .val (.ref w_Selection_DENY), .unset, .unset, .unset] [(.int ((p1 &&& (2147483647 : Int32)) % (3 : Int32)))])) _
        refine XS.istore X11.here hx rfl (hb hby at_32) rfl (l' := #[.val (.int p0), .val (.int p1), .val (.int (0 : Int32)), .val (.ref w_Selection_DENY), .val (.int ((p1 &&& (2147483647 : Int32)) % (3 : Int32))), .unset, .unset]) rfl ?_
        show Steps p.tables e below (T11.setTop (mkF m 34 #[.val (.int p0), .val (.int p1), .val (.int (0 : Int32)), .val (.ref w_Selection_DENY), .val (.int ((p1 &&& (2147483647 : Int32)) % (3 : Int32))), .unset, .unset] [])) _
        refine XS.iload X11.here hx rfl (hb hby at_34) rfl ?_
        show Steps p.tables e below (T11.setTop (mkF m 36 #[.val (.int p0), .val (.int p1), .val (.int (0 : Int32)), .val (.ref w_Selection_DENY), .val (.int ((p1 &&& (2147483647 : Int32)) % (3 : Int32))), .unset, .unset] [(.int ((p1 &&& (2147483647 : Int32)) % (3 : Int32)))])) _
        refine XS.ifNo X11.here hx rfl (hb hby at_36) rfl ((if0 _ _).trans (teq hc12).2) ?_
        show Steps p.tables e below (T11.setTop (mkF m 39 #[.val (.int p0), .val (.int p1), .val (.int (0 : Int32)), .val (.ref w_Selection_DENY), .val (.int ((p1 &&& (2147483647 : Int32)) % (3 : Int32))), .unset, .unset] [])) _
        refine st13 _ ?_
        show Steps p.tables e below (T13.setTop (mkF m 42 #[.val (.int p0), .val (.int p1), .val (.int (0 : Int32)), .val (.ref w_Selection_DENY), .val (.int ((p1 &&& (2147483647 : Int32)) % (3 : Int32))), .unset, .unset] [(.ref w_ALLOW)])) _
        refine XS.astore X13.here hx rfl (hb hby at_42) rfl rfl (l' := #[.val (.int p0), .val (.int p1), .val (.int (0 : Int32)), .val (.ref w_Selection_DENY), .val (.int ((p1 &&& (2147483647 : Int32)) % (3 : Int32))), .val (.ref w_ALLOW), .unset]) rfl ?_
        show Steps p.tables e below (T13.setTop (mkF m 44 #[.val (.int p0), .val (.int p1), .val (.int (0 : Int32)), .val (.ref w_Selection_DENY), .val (.int ((p1 &&& (2147483647 : Int32)) % (3 : Int32))), .val (.ref w_ALLOW), .unset] [])) _
        refine XS.goto X13.here hx rfl (pc0 := 44) (pc' := 66) rfl (hb hby at_44) (by decide) (by decide) ?_
        show Steps p.tables e below (T13.setTop (mkF m 66 #[.val (.int p0), .val (.int p1), .val (.int (0 : Int32)), .val (.ref w_Selection_DENY), .val (.int ((p1 &&& (2147483647 : Int32)) % (3 : Int32))), .val (.ref w_ALLOW), .unset] [])) _
        refine XS.iloadN X13.here hx rfl (hb hby at_66) rfl ?_
        show Steps p.tables e below (T13.setTop (mkF m 67 #[.val (.int p0), .val (.int p1), .val (.int (0 : Int32)), .val (.ref w_Selection_DENY), .val (.int ((p1 &&& (2147483647 : Int32)) % (3 : Int32))), .val (.ref w_ALLOW), .unset] [(.int (0 : Int32))])) _
        refine XS.ifYes X13.here hx rfl (pc0 := 67) (pc' := 76) rfl (hb hby at_67) rfl ((if0 _ _).trans (teq (by decide : (0 : Int32) = (0 : Int32))).1) (by decide) (by decide) ?_
        show Steps p.tables e below (T13.setTop (mkF m 76 #[.val (.int p0), .val (.int p1), .val (.int (0 : Int32)), .val (.ref w_Selection_DENY), .val (.int ((p1 &&& (2147483647 : Int32)) % (3 : Int32))), .val (.ref w_ALLOW), .unset] [])) _
        refine XS.iload X13.here hx rfl (hb hby at_76) rfl ?_
        show Steps p.tables e below (T13.setTop (mkF m 78 #[.val (.int p0), .val (.int p1), .val (.int (0 : Int32)), .val (.ref w_Selection_DENY), .val (.int ((p1 &&& (2147483647 : Int32)) % (3 : Int32))), .val (.ref w_ALLOW), .unset] [(.int ((p1 &&& (2147483647 : Int32)) % (3 : Int32)))])) _
        refine XS.ifNo X13.here hx rfl (hb hby at_78) rfl ((if0 _ _).trans (teq hc12).2) ?_
        show Steps p.tables e below (T13.setTop (mkF m 81 #[.val (.int p0), .val (.int p1), .val (.int (0 : Int32)), .val (.ref w_Selection_DENY), .val (.int ((p1 &&& (2147483647 : Int32)) % (3 : Int32))), .val (.ref w_ALLOW), .unset] [])) _
        refine XS.iconst X13.here hx rfl (hb hby at_81) ?_
        show Steps p.tables e below (T13.setTop (mkF m 82 #[.val (.int p0), .val (.int p1), .val (.int (0 : Int32)), .val (.ref w_Selection_DENY), .val (.int ((p1 &&& (2147483647 : Int32)) % (3 : Int32))), .val (.ref w_ALLOW), .unset] [(.int (0 : Int32))])) _
        refine XS.istore X13.here hx rfl (hb hby at_82) rfl (l' := #[.val (.int p0), .val (.int p1), .val (.int (0 : Int32)), .val (.ref w_Selection_DENY), .val (.int ((p1 &&& (2147483647 : Int32)) % (3 : Int32))), .val (.ref w_ALLOW), .val (.int (0 : Int32))]) rfl ?_
        show Steps p.tables e below (T13.setTop (mkF m 84 #[.val (.int p0), .val (.int p1), .val (.int (0 : Int32)), .val (.ref w_Selection_DENY), .val (.int ((p1 &&& (2147483647 : Int32)) % (3 : Int32))), .val (.ref w_ALLOW), .val (.int (0 : Int32))] [])) _
        refine XS.goto X13.here hx rfl (pc0 := 84) (pc' := 102) rfl (hb hby at_84) (by decide) (by decide) ?_
        show Steps p.tables e below (T13.setTop (mkF m 102 #[.val (.int p0), .val (.int p1), .val (.int (0 : Int32)), .val (.ref w_Selection_DENY), .val (.int ((p1 &&& (2147483647 : Int32)) % (3 : Int32))), .val (.ref w_ALLOW), .val (.int (0 : Int32))] [])) _
        refine XS.aloadN X13.here hx rfl (hb hby at_102) rfl rfl ?_
        show Steps p.tables e below (T13.setTop (mkF m 103 #[.val (.int p0), .val (.int p1), .val (.int (0 : Int32)), .val (.ref w_Selection_DENY), .val (.int ((p1 &&& (2147483647 : Int32)) % (3 : Int32))), .val (.ref w_ALLOW), .val (.int (0 : Int32))] [(.ref w_Selection_DENY)])) _
        refine XS.aload X13.here hx rfl (hb hby at_103) rfl rfl ?_
        show Steps p.tables e below (T13.setTop (mkF m 105 #[.val (.int p0), .val (.int p1), .val (.int (0 : Int32)), .val (.ref w_Selection_DENY), .val (.int ((p1 &&& (2147483647 : Int32)) % (3 : Int32))), .val (.ref w_ALLOW), .val (.int (0 : Int32))] [(.ref w_ALLOW), (.ref w_Selection_DENY)])) _
        refine st14.trans ?_
        show Steps p.tables e below (T14.setTop (mkF m 108 #[.val (.int p0), .val (.int p1), .val (.int (0 : Int32)), .val (.ref w_Selection_DENY), .val (.int ((p1 &&& (2147483647 : Int32)) % (3 : Int32))), .val (.ref w_ALLOW), .val (.int (0 : Int32))] [(.int (if w_Selection_DENY = w_ALL then (1 : Int32) else if w_ALLOW = w_ALLOW then 0 else 1))])) _
        refine XS.iload X14.here hx rfl (hb hby at_108) rfl ?_
        show Steps p.tables e below (T14.setTop (mkF m 110 #[.val (.int p0), .val (.int p1), .val (.int (0 : Int32)), .val (.ref w_Selection_DENY), .val (.int ((p1 &&& (2147483647 : Int32)) % (3 : Int32))), .val (.ref w_ALLOW), .val (.int (0 : Int32))] [(.int (0 : Int32)), (.int (if w_Selection_DENY = w_ALL then (1 : Int32) else if w_ALLOW = w_ALLOW then 0 else 1))])) _
        refine XS.icmpNo X14.here hx rfl (hb hby at_110) rfl (teq (by simp [ne_Selection_DENY_ALL, ne_DENY_ALLOW, ne_ERROR_ALLOW] : (if w_Selection_DENY = w_ALL then (1 : Int32) else if w_ALLOW = w_ALLOW then 0 else 1) = (0 : Int32))).2 ?_
        show Steps p.tables e below (T14.setTop (mkF m 113 #[.val (.int p0), .val (.int p1), .val (.int (0 : Int32)), .val (.ref w_Selection_DENY), .val (.int ((p1 &&& (2147483647 : Int32)) % (3 : Int32))), .val (.ref w_ALLOW), .val (.int (0 : Int32))] [])) _
        refine XS.iconst X14.here hx rfl (hb hby at_113) ?_
        show Steps p.tables e below (T14.setTop (mkF m 114 #[.val (.int p0), .val (.int p1), .val (.int (0 : Int32)), .val (.ref w_Selection_DENY), .val (.int ((p1 &&& (2147483647 : Int32)) % (3 : Int32))), .val (.ref w_ALLOW), .val (.int (0 : Int32))] [(.int (1 : Int32))])) _
        refine XS.goto X14.here hx rfl (pc0 := 114) (pc' := 118) rfl (hb hby at_114) (by decide) (by decide) ?_
        show Steps p.tables e below (T14.setTop (mkF m 118 #[.val (.int p0), .val (.int p1), .val (.int (0 : Int32)), .val (.ref w_Selection_DENY), .val (.int ((p1 &&& (2147483647 : Int32)) % (3 : Int32))), .val (.ref w_ALLOW), .val (.int (0 : Int32))] [(.int (1 : Int32))])) _
        exact retN X14 hx (t := .boolean) Bd.returns (by simp) (hb hby at_118) hr
      · show Q_rm0 Z p0 p1 w_ALL w_ALLOW w_DENY w_ERROR w_Selection_DENY h0 n0 _ T14.heap _
        rw [e14]
        exact ⟨rfl, N14, rfl⟩
    · by_cases hc15 : ((p1 &&& (2147483647 : Int32)) % (3 : Int32)) = (1 : Int32)
      · obtain ⟨T16, X16, e16, st16⟩ := getS2 X11 hx hZ hown (host := "") (Or.inl (hw _ (List.mem_of_getElem? (i := 13) rfl))) Via.refl e11 S_DENY (g := (mkF m 53 #[.val (.int p0), .val (.int p1), .val (.int (0 : Int32)), .val (.ref w_Selection_DENY), .val (.int ((p1 &&& (2147483647 : Int32)) % (3 : Int32))), .unset, .unset] [])) rfl (hb hby at_53)
        obtain ⟨cq17, kq17, q17a, q17b, q17c⟩ := isOf hZ e16 E_Selection_DENY
        obtain ⟨_, _, ⟨T17, L17, k17, n17⟩, -, X17, ⟨Lc17, hQ17, l17, y17, z17⟩, st17⟩ := X16.virtualBack hx (y := (⟨"com/example/label_gate/labelgate/AuditTrail$Selection", "takes", "(Lcom/example/label_gate/labelgate/Outcome;)Z"⟩ : MethodName)) (z := (⟨"com/example/label_gate/labelgate/AuditTrail$Selection", "takes", "(Lcom/example/label_gate/labelgate/Outcome;)Z"⟩ : MethodName)) hown (mvT hZ (hw _ (List.mem_of_getElem? (i := 7) rfl))) (mvT hZ (hw _ (List.mem_of_getElem? (i := 8) rfl))) (notFace_of_selects (args := #[]) (mvT hZ (hw _ (List.mem_of_getElem? (i := 10) rfl)))) (mvT hZ (hw _ (List.mem_of_getElem? (i := 10) rfl))) (mvT hZ (hw _ (List.mem_of_getElem? (i := 9) rfl))) (by decide) (backOf (W := 0) (rm1 l Z a0 hw [] w_Selection_DENY w_DENY w_ALL w_ALLOW w_DENY w_ERROR w_Selection_DENY h0 n0 Z0 WD) hZ (hw _ (List.mem_of_getElem? (i := 11) rfl)) (hw _ (List.mem_of_getElem? (i := 1) rfl)) (by decide) (by decide)) q17a q17c (g := (mkF m 105 #[.val (.int p0), .val (.int p1), .val (.int (0 : Int32)), .val (.ref w_Selection_DENY), .val (.int ((p1 &&& (2147483647 : Int32)) % (3 : Int32))), .val (.ref w_DENY), .val (.int (1 : Int32))] [(.ref w_DENY), (.ref w_Selection_DENY)])) rfl (by rw [hml]; rfl) (Steps.refl _) (argsL := [(.ref w_DENY)]) (rest := []) (lenOf pd_0 rfl) rfl (by show 2 * 0 + _ ≤ _; exact Nat.le_of_eq rfl) (hb hby at_105) (fun _ _ => ⟨rfl, e16, (by decide : 0 + 0 ≤ _), (by decide : 0 + 0 ≤ _)⟩)
        dsimp only [Pt.U, Pt.locs, Pt.cells, Pt.slots] at X17 l17 y17 z17 st17 hQ17
        subst l17 y17 z17
        obtain ⟨rfl, N17q, e17⟩ := hQ17
        have N17 := Fr.app N0 N17q
        obtain ⟨fs, hr, hrun, hended, hW, hsame⟩ := X17.leave (v := some (.int (1 : Int32))) (fun h => by rw [Bd.returns] at h; cases h)
        refine ⟨_, _, pre0 _ ?_, hrun, hended, _, _, rfl, ?_, ⟨_, rfl⟩, hW, hsame.mono (by decide) (by decide)⟩
        · show Steps p.tables e below (s₁.setTop (mkF m 0 #[.val (.int p0), .val (.int p1), .unset, .unset, .unset, .unset, .unset] [])) _
          refine XS.iloadN X0.here hx rfl (hb hby at_0) rfl ?_
          show Steps p.tables e below (s₁.setTop (mkF m 1 #[.val (.int p0), .val (.int p1), .unset, .unset, .unset, .unset, .unset] [(.int p0)])) _
          refine XS.iconst X0.here hx rfl (hb hby at_1) ?_
          show Steps p.tables e below (s₁.setTop (mkF m 2 #[.val (.int p0), .val (.int p1), .unset, .unset, .unset, .unset, .unset] [(.int (1 : Int32)), (.int p0)])) _
          refine XS.iand X0.here hx rfl (hb hby at_2) rfl ?_
          show Steps p.tables e below (s₁.setTop (mkF m 3 #[.val (.int p0), .val (.int p1), .unset, .unset, .unset, .unset, .unset] [(.int (p0 &&& (1 : Int32)))])) _
          refine XS.ifYes X0.here hx rfl (pc0 := 3) (pc' := 10) rfl (hb hby at_3) rfl ((if0 _ _).trans (feq hc1).2) (by decide) (by decide) ?_
          show Steps p.tables e below (s₁.setTop (mkF m 10 #[.val (.int p0), .val (.int p1), .unset, .unset, .unset, .unset, .unset] [])) _
          refine XS.iconst X0.here hx rfl (hb hby at_10) ?_
          show Steps p.tables e below (s₁.setTop (mkF m 11 #[.val (.int p0), .val (.int p1), .unset, .unset, .unset, .unset, .unset] [(.int (0 : Int32))])) _
          refine XS.istoreN X0.here hx rfl (hb hby at_11) rfl (l' := #[.val (.int p0), .val (.int p1), .val (.int (0 : Int32)), .unset, .unset, .unset, .unset]) rfl ?_
          show Steps p.tables e below (s₁.setTop (mkF m 12 #[.val (.int p0), .val (.int p1), .val (.int (0 : Int32)), .unset, .unset, .unset, .unset] [])) _
          refine XS.iloadN X0.here hx rfl (hb hby at_12) rfl ?_
          show Steps p.tables e below (s₁.setTop (mkF m 13 #[.val (.int p0), .val (.int p1), .val (.int (0 : Int32)), .unset, .unset, .unset, .unset] [(.int (0 : Int32))])) _
          refine XS.ifYes X0.here hx rfl (pc0 := 13) (pc' := 22) rfl (hb hby at_13) rfl ((if0 _ _).trans (teq (by decide : (0 : Int32) = (0 : Int32))).1) (by decide) (by decide) ?_
          show Steps p.tables e below (s₁.setTop (mkF m 22 #[.val (.int p0), .val (.int p1), .val (.int (0 : Int32)), .unset, .unset, .unset, .unset] [])) _
          refine st11 _ ?_
          show Steps p.tables e below (T11.setTop (mkF m 25 #[.val (.int p0), .val (.int p1), .val (.int (0 : Int32)), .unset, .unset, .unset, .unset] [(.ref w_Selection_DENY)])) _
          refine XS.astoreN X11.here hx rfl (hb hby at_25) rfl rfl (l' := #[.val (.int p0), .val (.int p1), .val (.int (0 : Int32)), .val (.ref w_Selection_DENY), .unset, .unset, .unset]) rfl ?_
          show Steps p.tables e below (T11.setTop (mkF m 26 #[.val (.int p0), .val (.int p1), .val (.int (0 : Int32)), .val (.ref w_Selection_DENY), .unset, .unset, .unset] [])) _
          refine XS.iloadN X11.here hx rfl (hb hby at_26) rfl ?_
          show Steps p.tables e below (T11.setTop (mkF m 27 #[.val (.int p0), .val (.int p1), .val (.int (0 : Int32)), .val (.ref w_Selection_DENY), .unset, .unset, .unset] [(.int p1)])) _
          refine X11.ldcInt hx hown (mvT hZ (hw _ (List.mem_of_getElem? (i := 3) rfl))) (g := (mkF m 27 #[.val (.int p0), .val (.int p1), .val (.int (0 : Int32)), .val (.ref w_Selection_DENY), .unset, .unset, .unset] [(.int p1)])) rfl (hb hby at_27) _ ?_
          show Steps p.tables e below (T11.setTop (mkF m 29 #[.val (.int p0), .val (.int p1), .val (.int (0 : Int32)), .val (.ref w_Selection_DENY), .unset, .unset, .unset] [(.int (2147483647 : Int32)), (.int p1)])) _
          refine XS.iand X11.here hx rfl (hb hby at_29) rfl ?_
          show Steps p.tables e below (T11.setTop (mkF m 30 #[.val (.int p0), .val (.int p1), .val (.int (0 : Int32)), .val (.ref w_Selection_DENY), .unset, .unset, .unset] [(.int (p1 &&& (2147483647 : Int32)))])) _
          refine XS.iconst X11.here hx rfl (hb hby at_30) ?_
          show Steps p.tables e below (T11.setTop (mkF m 31 #[.val (.int p0), .val (.int p1), .val (.int (0 : Int32)), .val (.ref w_Selection_DENY), .unset, .unset, .unset] [(.int (3 : Int32)), (.int (p1 &&& (2147483647 : Int32)))])) _
          refine iremM (g := (mkF m 31 #[.val (.int p0), .val (.int p1), .val (.int (0 : Int32)), .val (.ref w_Selection_DENY), .unset, .unset, .unset] [(.int (3 : Int32)), (.int (p1 &&& (2147483647 : Int32)))])) X11 hx rfl (hb hby at_31) rfl (by decide) ?_
          show Steps p.tables e below (T11.setTop (mkF m 32 #[.val (.int p0), .val (.int p1), .val (.int (0 : Int32)), .val (.ref w_Selection_DENY), .unset, .unset, .unset] [(.int ((p1 &&& (2147483647 : Int32)) % (3 : Int32)))])) _
          refine XS.istore X11.here hx rfl (hb hby at_32) rfl (l' := #[.val (.int p0), .val (.int p1), .val (.int (0 : Int32)), .val (.ref w_Selection_DENY), .val (.int ((p1 &&& (2147483647 : Int32)) % (3 : Int32))), .unset, .unset]) rfl ?_
          show Steps p.tables e below (T11.setTop (mkF m 34 #[.val (.int p0), .val (.int p1), .val (.int (0 : Int32)), .val (.ref w_Selection_DENY), .val (.int ((p1 &&& (2147483647 : Int32)) % (3 : Int32))), .unset, .unset] [])) _
          refine XS.iload X11.here hx rfl (hb hby at_34) rfl ?_
          show Steps p.tables e below (T11.setTop (mkF m 36 #[.val (.int p0), .val (.int p1), .val (.int (0 : Int32)), .val (.ref w_Selection_DENY), .val (.int ((p1 &&& (2147483647 : Int32)) % (3 : Int32))), .unset, .unset] [(.int ((p1 &&& (2147483647 : Int32)) % (3 : Int32)))])) _
          refine XS.ifYes X11.here hx rfl (pc0 := 36) (pc' := 47) rfl (hb hby at_36) rfl ((if0 _ _).trans (feq hc12).2) (by decide) (by decide) ?_
          show Steps p.tables e below (T11.setTop (mkF m 47 #[.val (.int p0), .val (.int p1), .val (.int (0 : Int32)), .val (.ref w_Selection_DENY), .val (.int ((p1 &&& (2147483647 : Int32)) % (3 : Int32))), .unset, .unset] [])) _
          refine XS.iload X11.here hx rfl (hb hby at_47) rfl ?_
          show Steps p.tables e below (T11.setTop (mkF m 49 #[.val (.int p0), .val (.int p1), .val (.int (0 : Int32)), .val (.ref w_Selection_DENY), .val (.int ((p1 &&& (2147483647 : Int32)) % (3 : Int32))), .unset, .unset] [(.int ((p1 &&& (2147483647 : Int32)) % (3 : Int32)))])) _
          refine XS.iconst X11.here hx rfl (hb hby at_49) ?_
          show Steps p.tables e below (T11.setTop (mkF m 50 #[.val (.int p0), .val (.int p1), .val (.int (0 : Int32)), .val (.ref w_Selection_DENY), .val (.int ((p1 &&& (2147483647 : Int32)) % (3 : Int32))), .unset, .unset] [(.int (1 : Int32)), (.int ((p1 &&& (2147483647 : Int32)) % (3 : Int32)))])) _
          refine XS.icmpNo X11.here hx rfl (hb hby at_50) rfl (teq hc15).2 ?_
          show Steps p.tables e below (T11.setTop (mkF m 53 #[.val (.int p0), .val (.int p1), .val (.int (0 : Int32)), .val (.ref w_Selection_DENY), .val (.int ((p1 &&& (2147483647 : Int32)) % (3 : Int32))), .unset, .unset] [])) _
          refine st16 _ ?_
          show Steps p.tables e below (T16.setTop (mkF m 56 #[.val (.int p0), .val (.int p1), .val (.int (0 : Int32)), .val (.ref w_Selection_DENY), .val (.int ((p1 &&& (2147483647 : Int32)) % (3 : Int32))), .unset, .unset] [(.ref w_DENY)])) _
          refine XS.astore X16.here hx rfl (hb hby at_56) rfl rfl (l' := #[.val (.int p0), .val (.int p1), .val (.int (0 : Int32)), .val (.ref w_Selection_DENY), .val (.int ((p1 &&& (2147483647 : Int32)) % (3 : Int32))), .val (.ref w_DENY), .unset]) rfl ?_
          show Steps p.tables e below (T16.setTop (mkF m 58 #[.val (.int p0), .val (.int p1), .val (.int (0 : Int32)), .val (.ref w_Selection_DENY), .val (.int ((p1 &&& (2147483647 : Int32)) % (3 : Int32))), .val (.ref w_DENY), .unset] [])) _
          refine XS.goto X16.here hx rfl (pc0 := 58) (pc' := 66) rfl (hb hby at_58) (by decide) (by decide) ?_
          show Steps p.tables e below (T16.setTop (mkF m 66 #[.val (.int p0), .val (.int p1), .val (.int (0 : Int32)), .val (.ref w_Selection_DENY), .val (.int ((p1 &&& (2147483647 : Int32)) % (3 : Int32))), .val (.ref w_DENY), .unset] [])) _
          refine XS.iloadN X16.here hx rfl (hb hby at_66) rfl ?_
          show Steps p.tables e below (T16.setTop (mkF m 67 #[.val (.int p0), .val (.int p1), .val (.int (0 : Int32)), .val (.ref w_Selection_DENY), .val (.int ((p1 &&& (2147483647 : Int32)) % (3 : Int32))), .val (.ref w_DENY), .unset] [(.int (0 : Int32))])) _
          refine XS.ifYes X16.here hx rfl (pc0 := 67) (pc' := 76) rfl (hb hby at_67) rfl ((if0 _ _).trans (teq (by decide : (0 : Int32) = (0 : Int32))).1) (by decide) (by decide) ?_
          show Steps p.tables e below (T16.setTop (mkF m 76 #[.val (.int p0), .val (.int p1), .val (.int (0 : Int32)), .val (.ref w_Selection_DENY), .val (.int ((p1 &&& (2147483647 : Int32)) % (3 : Int32))), .val (.ref w_DENY), .unset] [])) _
          refine XS.iload X16.here hx rfl (hb hby at_76) rfl ?_
          show Steps p.tables e below (T16.setTop (mkF m 78 #[.val (.int p0), .val (.int p1), .val (.int (0 : Int32)), .val (.ref w_Selection_DENY), .val (.int ((p1 &&& (2147483647 : Int32)) % (3 : Int32))), .val (.ref w_DENY), .unset] [(.int ((p1 &&& (2147483647 : Int32)) % (3 : Int32)))])) _
          refine XS.ifYes X16.here hx rfl (pc0 := 78) (pc' := 87) rfl (hb hby at_78) rfl ((if0 _ _).trans (feq hc12).2) (by decide) (by decide) ?_
          show Steps p.tables e below (T16.setTop (mkF m 87 #[.val (.int p0), .val (.int p1), .val (.int (0 : Int32)), .val (.ref w_Selection_DENY), .val (.int ((p1 &&& (2147483647 : Int32)) % (3 : Int32))), .val (.ref w_DENY), .unset] [])) _
          refine XS.iload X16.here hx rfl (hb hby at_87) rfl ?_
          show Steps p.tables e below (T16.setTop (mkF m 89 #[.val (.int p0), .val (.int p1), .val (.int (0 : Int32)), .val (.ref w_Selection_DENY), .val (.int ((p1 &&& (2147483647 : Int32)) % (3 : Int32))), .val (.ref w_DENY), .unset] [(.int ((p1 &&& (2147483647 : Int32)) % (3 : Int32)))])) _
          refine XS.iconst X16.here hx rfl (hb hby at_89) ?_
          show Steps p.tables e below (T16.setTop (mkF m 90 #[.val (.int p0), .val (.int p1), .val (.int (0 : Int32)), .val (.ref w_Selection_DENY), .val (.int ((p1 &&& (2147483647 : Int32)) % (3 : Int32))), .val (.ref w_DENY), .unset] [(.int (1 : Int32)), (.int ((p1 &&& (2147483647 : Int32)) % (3 : Int32)))])) _
          refine XS.icmpNo X16.here hx rfl (hb hby at_90) rfl (teq hc15).2 ?_
          show Steps p.tables e below (T16.setTop (mkF m 93 #[.val (.int p0), .val (.int p1), .val (.int (0 : Int32)), .val (.ref w_Selection_DENY), .val (.int ((p1 &&& (2147483647 : Int32)) % (3 : Int32))), .val (.ref w_DENY), .unset] [])) _
          refine XS.iconst X16.here hx rfl (hb hby at_93) ?_
          show Steps p.tables e below (T16.setTop (mkF m 94 #[.val (.int p0), .val (.int p1), .val (.int (0 : Int32)), .val (.ref w_Selection_DENY), .val (.int ((p1 &&& (2147483647 : Int32)) % (3 : Int32))), .val (.ref w_DENY), .unset] [(.int (1 : Int32))])) _
          refine XS.istore X16.here hx rfl (hb hby at_94) rfl (l' := #[.val (.int p0), .val (.int p1), .val (.int (0 : Int32)), .val (.ref w_Selection_DENY), .val (.int ((p1 &&& (2147483647 : Int32)) % (3 : Int32))), .val (.ref w_DENY), .val (.int (1 : Int32))]) rfl ?_
          show Steps p.tables e below (T16.setTop (mkF m 96 #[.val (.int p0), .val (.int p1), .val (.int (0 : Int32)), .val (.ref w_Selection_DENY), .val (.int ((p1 &&& (2147483647 : Int32)) % (3 : Int32))), .val (.ref w_DENY), .val (.int (1 : Int32))] [])) _
          refine XS.goto X16.here hx rfl (pc0 := 96) (pc' := 102) rfl (hb hby at_96) (by decide) (by decide) ?_
          show Steps p.tables e below (T16.setTop (mkF m 102 #[.val (.int p0), .val (.int p1), .val (.int (0 : Int32)), .val (.ref w_Selection_DENY), .val (.int ((p1 &&& (2147483647 : Int32)) % (3 : Int32))), .val (.ref w_DENY), .val (.int (1 : Int32))] [])) _
          refine XS.aloadN X16.here hx rfl (hb hby at_102) rfl rfl ?_
          show Steps p.tables e below (T16.setTop (mkF m 103 #[.val (.int p0), .val (.int p1), .val (.int (0 : Int32)), .val (.ref w_Selection_DENY), .val (.int ((p1 &&& (2147483647 : Int32)) % (3 : Int32))), .val (.ref w_DENY), .val (.int (1 : Int32))] [(.ref w_Selection_DENY)])) _
          refine XS.aload X16.here hx rfl (hb hby at_103) rfl rfl ?_
          show Steps p.tables e below (T16.setTop (mkF m 105 #[.val (.int p0), .val (.int p1), .val (.int (0 : Int32)), .val (.ref w_Selection_DENY), .val (.int ((p1 &&& (2147483647 : Int32)) % (3 : Int32))), .val (.ref w_DENY), .val (.int (1 : Int32))] [(.ref w_DENY), (.ref w_Selection_DENY)])) _
          refine st17.trans ?_
          show Steps p.tables e below (T17.setTop (mkF m 108 #[.val (.int p0), .val (.int p1), .val (.int (0 : Int32)), .val (.ref w_Selection_DENY), .val (.int ((p1 &&& (2147483647 : Int32)) % (3 : Int32))), .val (.ref w_DENY), .val (.int (1 : Int32))] [(.int (if w_Selection_DENY = w_ALL then (1 : Int32) else if w_DENY = w_ALLOW then 0 else 1))])) _
          refine XS.iload X17.here hx rfl (hb hby at_108) rfl ?_
          show Steps p.tables e below (T17.setTop (mkF m 110 #[.val (.int p0), .val (.int p1), .val (.int (0 : Int32)), .val (.ref w_Selection_DENY), .val (.int ((p1 &&& (2147483647 : Int32)) % (3 : Int32))), .val (.ref w_DENY), .val (.int (1 : Int32))] [(.int (1 : Int32)), (.int (if w_Selection_DENY = w_ALL then (1 : Int32) else if w_DENY = w_ALLOW then 0 else 1))])) _
          refine XS.icmpNo X17.here hx rfl (hb hby at_110) rfl (teq (by simp [ne_Selection_DENY_ALL, ne_DENY_ALLOW, ne_ERROR_ALLOW] : (if w_Selection_DENY = w_ALL then (1 : Int32) else if w_DENY = w_ALLOW then 0 else 1) = (1 : Int32))).2 ?_
          show Steps p.tables e below (T17.setTop (mkF m 113 #[.val (.int p0), .val (.int p1), .val (.int (0 : Int32)), .val (.ref w_Selection_DENY), .val (.int ((p1 &&& (2147483647 : Int32)) % (3 : Int32))), .val (.ref w_DENY), .val (.int (1 : Int32))] [])) _
          refine XS.iconst X17.here hx rfl (hb hby at_113) ?_
          show Steps p.tables e below (T17.setTop (mkF m 114 #[.val (.int p0), .val (.int p1), .val (.int (0 : Int32)), .val (.ref w_Selection_DENY), .val (.int ((p1 &&& (2147483647 : Int32)) % (3 : Int32))), .val (.ref w_DENY), .val (.int (1 : Int32))] [(.int (1 : Int32))])) _
          refine XS.goto X17.here hx rfl (pc0 := 114) (pc' := 118) rfl (hb hby at_114) (by decide) (by decide) ?_
          show Steps p.tables e below (T17.setTop (mkF m 118 #[.val (.int p0), .val (.int p1), .val (.int (0 : Int32)), .val (.ref w_Selection_DENY), .val (.int ((p1 &&& (2147483647 : Int32)) % (3 : Int32))), .val (.ref w_DENY), .val (.int (1 : Int32))] [(.int (1 : Int32))])) _
          exact retN X17 hx (t := .boolean) Bd.returns (by simp) (hb hby at_118) hr
        · show Q_rm0 Z p0 p1 w_ALL w_ALLOW w_DENY w_ERROR w_Selection_DENY h0 n0 _ T17.heap _
          rw [e17]
          exact ⟨rfl, N17, rfl⟩
      · obtain ⟨T18, X18, e18, st18⟩ := getS2 X11 hx hZ hown (host := "") (Or.inl (hw _ (List.mem_of_getElem? (i := 15) rfl))) Via.refl e11 S_ERROR (g := (mkF m 61 #[.val (.int p0), .val (.int p1), .val (.int (0 : Int32)), .val (.ref w_Selection_DENY), .val (.int ((p1 &&& (2147483647 : Int32)) % (3 : Int32))), .unset, .unset] [])) rfl (hb hby at_61)
        obtain ⟨cq19, kq19, q19a, q19b, q19c⟩ := isOf hZ e18 E_Selection_DENY
        obtain ⟨_, _, ⟨T19, L19, k19, n19⟩, -, X19, ⟨Lc19, hQ19, l19, y19, z19⟩, st19⟩ := X18.virtualBack hx (y := (⟨"com/example/label_gate/labelgate/AuditTrail$Selection", "takes", "(Lcom/example/label_gate/labelgate/Outcome;)Z"⟩ : MethodName)) (z := (⟨"com/example/label_gate/labelgate/AuditTrail$Selection", "takes", "(Lcom/example/label_gate/labelgate/Outcome;)Z"⟩ : MethodName)) hown (mvT hZ (hw _ (List.mem_of_getElem? (i := 7) rfl))) (mvT hZ (hw _ (List.mem_of_getElem? (i := 8) rfl))) (notFace_of_selects (args := #[]) (mvT hZ (hw _ (List.mem_of_getElem? (i := 10) rfl)))) (mvT hZ (hw _ (List.mem_of_getElem? (i := 10) rfl))) (mvT hZ (hw _ (List.mem_of_getElem? (i := 9) rfl))) (by decide) (backOf (W := 0) (rm1 l Z a0 hw [] w_Selection_DENY w_ERROR w_ALL w_ALLOW w_DENY w_ERROR w_Selection_DENY h0 n0 Z0 WD) hZ (hw _ (List.mem_of_getElem? (i := 11) rfl)) (hw _ (List.mem_of_getElem? (i := 1) rfl)) (by decide) (by decide)) q19a q19c (g := (mkF m 105 #[.val (.int p0), .val (.int p1), .val (.int (0 : Int32)), .val (.ref w_Selection_DENY), .val (.int ((p1 &&& (2147483647 : Int32)) % (3 : Int32))), .val (.ref w_ERROR), .val (.int (1 : Int32))] [(.ref w_ERROR), (.ref w_Selection_DENY)])) rfl (by rw [hml]; rfl) (Steps.refl _) (argsL := [(.ref w_ERROR)]) (rest := []) (lenOf pd_0 rfl) rfl (by show 2 * 0 + _ ≤ _; exact Nat.le_of_eq rfl) (hb hby at_105) (fun _ _ => ⟨rfl, e18, (by decide : 0 + 0 ≤ _), (by decide : 0 + 0 ≤ _)⟩)
        dsimp only [Pt.U, Pt.locs, Pt.cells, Pt.slots] at X19 l19 y19 z19 st19 hQ19
        subst l19 y19 z19
        obtain ⟨rfl, N19q, e19⟩ := hQ19
        have N19 := Fr.app N0 N19q
        obtain ⟨fs, hr, hrun, hended, hW, hsame⟩ := X19.leave (v := some (.int (1 : Int32))) (fun h => by rw [Bd.returns] at h; cases h)
        refine ⟨_, _, pre0 _ ?_, hrun, hended, _, _, rfl, ?_, ⟨_, rfl⟩, hW, hsame.mono (by decide) (by decide)⟩
        · show Steps p.tables e below (s₁.setTop (mkF m 0 #[.val (.int p0), .val (.int p1), .unset, .unset, .unset, .unset, .unset] [])) _
          refine XS.iloadN X0.here hx rfl (hb hby at_0) rfl ?_
          show Steps p.tables e below (s₁.setTop (mkF m 1 #[.val (.int p0), .val (.int p1), .unset, .unset, .unset, .unset, .unset] [(.int p0)])) _
          refine XS.iconst X0.here hx rfl (hb hby at_1) ?_
          show Steps p.tables e below (s₁.setTop (mkF m 2 #[.val (.int p0), .val (.int p1), .unset, .unset, .unset, .unset, .unset] [(.int (1 : Int32)), (.int p0)])) _
          refine XS.iand X0.here hx rfl (hb hby at_2) rfl ?_
          show Steps p.tables e below (s₁.setTop (mkF m 3 #[.val (.int p0), .val (.int p1), .unset, .unset, .unset, .unset, .unset] [(.int (p0 &&& (1 : Int32)))])) _
          refine XS.ifYes X0.here hx rfl (pc0 := 3) (pc' := 10) rfl (hb hby at_3) rfl ((if0 _ _).trans (feq hc1).2) (by decide) (by decide) ?_
          show Steps p.tables e below (s₁.setTop (mkF m 10 #[.val (.int p0), .val (.int p1), .unset, .unset, .unset, .unset, .unset] [])) _
          refine XS.iconst X0.here hx rfl (hb hby at_10) ?_
          show Steps p.tables e below (s₁.setTop (mkF m 11 #[.val (.int p0), .val (.int p1), .unset, .unset, .unset, .unset, .unset] [(.int (0 : Int32))])) _
          refine XS.istoreN X0.here hx rfl (hb hby at_11) rfl (l' := #[.val (.int p0), .val (.int p1), .val (.int (0 : Int32)), .unset, .unset, .unset, .unset]) rfl ?_
          show Steps p.tables e below (s₁.setTop (mkF m 12 #[.val (.int p0), .val (.int p1), .val (.int (0 : Int32)), .unset, .unset, .unset, .unset] [])) _
          refine XS.iloadN X0.here hx rfl (hb hby at_12) rfl ?_
          show Steps p.tables e below (s₁.setTop (mkF m 13 #[.val (.int p0), .val (.int p1), .val (.int (0 : Int32)), .unset, .unset, .unset, .unset] [(.int (0 : Int32))])) _
          refine XS.ifYes X0.here hx rfl (pc0 := 13) (pc' := 22) rfl (hb hby at_13) rfl ((if0 _ _).trans (teq (by decide : (0 : Int32) = (0 : Int32))).1) (by decide) (by decide) ?_
          show Steps p.tables e below (s₁.setTop (mkF m 22 #[.val (.int p0), .val (.int p1), .val (.int (0 : Int32)), .unset, .unset, .unset, .unset] [])) _
          refine st11 _ ?_
          show Steps p.tables e below (T11.setTop (mkF m 25 #[.val (.int p0), .val (.int p1), .val (.int (0 : Int32)), .unset, .unset, .unset, .unset] [(.ref w_Selection_DENY)])) _
          refine XS.astoreN X11.here hx rfl (hb hby at_25) rfl rfl (l' := #[.val (.int p0), .val (.int p1), .val (.int (0 : Int32)), .val (.ref w_Selection_DENY), .unset, .unset, .unset]) rfl ?_
          show Steps p.tables e below (T11.setTop (mkF m 26 #[.val (.int p0), .val (.int p1), .val (.int (0 : Int32)), .val (.ref w_Selection_DENY), .unset, .unset, .unset] [])) _
          refine XS.iloadN X11.here hx rfl (hb hby at_26) rfl ?_
          show Steps p.tables e below (T11.setTop (mkF m 27 #[.val (.int p0), .val (.int p1), .val (.int (0 : Int32)), .val (.ref w_Selection_DENY), .unset, .unset, .unset] [(.int p1)])) _
          refine X11.ldcInt hx hown (mvT hZ (hw _ (List.mem_of_getElem? (i := 3) rfl))) (g := (mkF m 27 #[.val (.int p0), .val (.int p1), .val (.int (0 : Int32)), .val (.ref w_Selection_DENY), .unset, .unset, .unset] [(.int p1)])) rfl (hb hby at_27) _ ?_
          show Steps p.tables e below (T11.setTop (mkF m 29 #[.val (.int p0), .val (.int p1), .val (.int (0 : Int32)), .val (.ref w_Selection_DENY), .unset, .unset, .unset] [(.int (2147483647 : Int32)), (.int p1)])) _
          refine XS.iand X11.here hx rfl (hb hby at_29) rfl ?_
          show Steps p.tables e below (T11.setTop (mkF m 30 #[.val (.int p0), .val (.int p1), .val (.int (0 : Int32)), .val (.ref w_Selection_DENY), .unset, .unset, .unset] [(.int (p1 &&& (2147483647 : Int32)))])) _
          refine XS.iconst X11.here hx rfl (hb hby at_30) ?_
          show Steps p.tables e below (T11.setTop (mkF m 31 #[.val (.int p0), .val (.int p1), .val (.int (0 : Int32)), .val (.ref w_Selection_DENY), .unset, .unset, .unset] [(.int (3 : Int32)), (.int (p1 &&& (2147483647 : Int32)))])) _
          refine iremM (g := (mkF m 31 #[.val (.int p0), .val (.int p1), .val (.int (0 : Int32)), .val (.ref w_Selection_DENY), .unset, .unset, .unset] [(.int (3 : Int32)), (.int (p1 &&& (2147483647 : Int32)))])) X11 hx rfl (hb hby at_31) rfl (by decide) ?_
          show Steps p.tables e below (T11.setTop (mkF m 32 #[.val (.int p0), .val (.int p1), .val (.int (0 : Int32)), .val (.ref w_Selection_DENY), .unset, .unset, .unset] [(.int ((p1 &&& (2147483647 : Int32)) % (3 : Int32)))])) _
          refine XS.istore X11.here hx rfl (hb hby at_32) rfl (l' := #[.val (.int p0), .val (.int p1), .val (.int (0 : Int32)), .val (.ref w_Selection_DENY), .val (.int ((p1 &&& (2147483647 : Int32)) % (3 : Int32))), .unset, .unset]) rfl ?_
          show Steps p.tables e below (T11.setTop (mkF m 34 #[.val (.int p0), .val (.int p1), .val (.int (0 : Int32)), .val (.ref w_Selection_DENY), .val (.int ((p1 &&& (2147483647 : Int32)) % (3 : Int32))), .unset, .unset] [])) _
          refine XS.iload X11.here hx rfl (hb hby at_34) rfl ?_
          show Steps p.tables e below (T11.setTop (mkF m 36 #[.val (.int p0), .val (.int p1), .val (.int (0 : Int32)), .val (.ref w_Selection_DENY), .val (.int ((p1 &&& (2147483647 : Int32)) % (3 : Int32))), .unset, .unset] [(.int ((p1 &&& (2147483647 : Int32)) % (3 : Int32)))])) _
          refine XS.ifYes X11.here hx rfl (pc0 := 36) (pc' := 47) rfl (hb hby at_36) rfl ((if0 _ _).trans (feq hc12).2) (by decide) (by decide) ?_
          show Steps p.tables e below (T11.setTop (mkF m 47 #[.val (.int p0), .val (.int p1), .val (.int (0 : Int32)), .val (.ref w_Selection_DENY), .val (.int ((p1 &&& (2147483647 : Int32)) % (3 : Int32))), .unset, .unset] [])) _
          refine XS.iload X11.here hx rfl (hb hby at_47) rfl ?_
          show Steps p.tables e below (T11.setTop (mkF m 49 #[.val (.int p0), .val (.int p1), .val (.int (0 : Int32)), .val (.ref w_Selection_DENY), .val (.int ((p1 &&& (2147483647 : Int32)) % (3 : Int32))), .unset, .unset] [(.int ((p1 &&& (2147483647 : Int32)) % (3 : Int32)))])) _
          refine XS.iconst X11.here hx rfl (hb hby at_49) ?_
          show Steps p.tables e below (T11.setTop (mkF m 50 #[.val (.int p0), .val (.int p1), .val (.int (0 : Int32)), .val (.ref w_Selection_DENY), .val (.int ((p1 &&& (2147483647 : Int32)) % (3 : Int32))), .unset, .unset] [(.int (1 : Int32)), (.int ((p1 &&& (2147483647 : Int32)) % (3 : Int32)))])) _
          refine XS.icmpYes X11.here hx rfl (pc0 := 50) (pc' := 61) rfl (hb hby at_50) rfl (feq hc15).2 (by decide) (by decide) ?_
          show Steps p.tables e below (T11.setTop (mkF m 61 #[.val (.int p0), .val (.int p1), .val (.int (0 : Int32)), .val (.ref w_Selection_DENY), .val (.int ((p1 &&& (2147483647 : Int32)) % (3 : Int32))), .unset, .unset] [])) _
          refine st18 _ ?_
          show Steps p.tables e below (T18.setTop (mkF m 64 #[.val (.int p0), .val (.int p1), .val (.int (0 : Int32)), .val (.ref w_Selection_DENY), .val (.int ((p1 &&& (2147483647 : Int32)) % (3 : Int32))), .unset, .unset] [(.ref w_ERROR)])) _
          refine XS.astore X18.here hx rfl (hb hby at_64) rfl rfl (l' := #[.val (.int p0), .val (.int p1), .val (.int (0 : Int32)), .val (.ref w_Selection_DENY), .val (.int ((p1 &&& (2147483647 : Int32)) % (3 : Int32))), .val (.ref w_ERROR), .unset]) rfl ?_
          show Steps p.tables e below (T18.setTop (mkF m 66 #[.val (.int p0), .val (.int p1), .val (.int (0 : Int32)), .val (.ref w_Selection_DENY), .val (.int ((p1 &&& (2147483647 : Int32)) % (3 : Int32))), .val (.ref w_ERROR), .unset] [])) _
          refine XS.iloadN X18.here hx rfl (hb hby at_66) rfl ?_
          show Steps p.tables e below (T18.setTop (mkF m 67 #[.val (.int p0), .val (.int p1), .val (.int (0 : Int32)), .val (.ref w_Selection_DENY), .val (.int ((p1 &&& (2147483647 : Int32)) % (3 : Int32))), .val (.ref w_ERROR), .unset] [(.int (0 : Int32))])) _
          refine XS.ifYes X18.here hx rfl (pc0 := 67) (pc' := 76) rfl (hb hby at_67) rfl ((if0 _ _).trans (teq (by decide : (0 : Int32) = (0 : Int32))).1) (by decide) (by decide) ?_
          show Steps p.tables e below (T18.setTop (mkF m 76 #[.val (.int p0), .val (.int p1), .val (.int (0 : Int32)), .val (.ref w_Selection_DENY), .val (.int ((p1 &&& (2147483647 : Int32)) % (3 : Int32))), .val (.ref w_ERROR), .unset] [])) _
          refine XS.iload X18.here hx rfl (hb hby at_76) rfl ?_
          show Steps p.tables e below (T18.setTop (mkF m 78 #[.val (.int p0), .val (.int p1), .val (.int (0 : Int32)), .val (.ref w_Selection_DENY), .val (.int ((p1 &&& (2147483647 : Int32)) % (3 : Int32))), .val (.ref w_ERROR), .unset] [(.int ((p1 &&& (2147483647 : Int32)) % (3 : Int32)))])) _
          refine XS.ifYes X18.here hx rfl (pc0 := 78) (pc' := 87) rfl (hb hby at_78) rfl ((if0 _ _).trans (feq hc12).2) (by decide) (by decide) ?_
          show Steps p.tables e below (T18.setTop (mkF m 87 #[.val (.int p0), .val (.int p1), .val (.int (0 : Int32)), .val (.ref w_Selection_DENY), .val (.int ((p1 &&& (2147483647 : Int32)) % (3 : Int32))), .val (.ref w_ERROR), .unset] [])) _
          refine XS.iload X18.here hx rfl (hb hby at_87) rfl ?_
          show Steps p.tables e below (T18.setTop (mkF m 89 #[.val (.int p0), .val (.int p1), .val (.int (0 : Int32)), .val (.ref w_Selection_DENY), .val (.int ((p1 &&& (2147483647 : Int32)) % (3 : Int32))), .val (.ref w_ERROR), .unset] [(.int ((p1 &&& (2147483647 : Int32)) % (3 : Int32)))])) _
          refine XS.iconst X18.here hx rfl (hb hby at_89) ?_
          show Steps p.tables e below (T18.setTop (mkF m 90 #[.val (.int p0), .val (.int p1), .val (.int (0 : Int32)), .val (.ref w_Selection_DENY), .val (.int ((p1 &&& (2147483647 : Int32)) % (3 : Int32))), .val (.ref w_ERROR), .unset] [(.int (1 : Int32)), (.int ((p1 &&& (2147483647 : Int32)) % (3 : Int32)))])) _
          refine XS.icmpYes X18.here hx rfl (pc0 := 90) (pc' := 99) rfl (hb hby at_90) rfl (feq hc15).2 (by decide) (by decide) ?_
          show Steps p.tables e below (T18.setTop (mkF m 99 #[.val (.int p0), .val (.int p1), .val (.int (0 : Int32)), .val (.ref w_Selection_DENY), .val (.int ((p1 &&& (2147483647 : Int32)) % (3 : Int32))), .val (.ref w_ERROR), .unset] [])) _
          refine XS.iconst X18.here hx rfl (hb hby at_99) ?_
          show Steps p.tables e below (T18.setTop (mkF m 100 #[.val (.int p0), .val (.int p1), .val (.int (0 : Int32)), .val (.ref w_Selection_DENY), .val (.int ((p1 &&& (2147483647 : Int32)) % (3 : Int32))), .val (.ref w_ERROR), .unset] [(.int (1 : Int32))])) _
          refine XS.istore X18.here hx rfl (hb hby at_100) rfl (l' := #[.val (.int p0), .val (.int p1), .val (.int (0 : Int32)), .val (.ref w_Selection_DENY), .val (.int ((p1 &&& (2147483647 : Int32)) % (3 : Int32))), .val (.ref w_ERROR), .val (.int (1 : Int32))]) rfl ?_
          show Steps p.tables e below (T18.setTop (mkF m 102 #[.val (.int p0), .val (.int p1), .val (.int (0 : Int32)), .val (.ref w_Selection_DENY), .val (.int ((p1 &&& (2147483647 : Int32)) % (3 : Int32))), .val (.ref w_ERROR), .val (.int (1 : Int32))] [])) _
          refine XS.aloadN X18.here hx rfl (hb hby at_102) rfl rfl ?_
          show Steps p.tables e below (T18.setTop (mkF m 103 #[.val (.int p0), .val (.int p1), .val (.int (0 : Int32)), .val (.ref w_Selection_DENY), .val (.int ((p1 &&& (2147483647 : Int32)) % (3 : Int32))), .val (.ref w_ERROR), .val (.int (1 : Int32))] [(.ref w_Selection_DENY)])) _
          refine XS.aload X18.here hx rfl (hb hby at_103) rfl rfl ?_
          show Steps p.tables e below (T18.setTop (mkF m 105 #[.val (.int p0), .val (.int p1), .val (.int (0 : Int32)), .val (.ref w_Selection_DENY), .val (.int ((p1 &&& (2147483647 : Int32)) % (3 : Int32))), .val (.ref w_ERROR), .val (.int (1 : Int32))] [(.ref w_ERROR), (.ref w_Selection_DENY)])) _
          refine st19.trans ?_
          show Steps p.tables e below (T19.setTop (mkF m 108 #[.val (.int p0), .val (.int p1), .val (.int (0 : Int32)), .val (.ref w_Selection_DENY), .val (.int ((p1 &&& (2147483647 : Int32)) % (3 : Int32))), .val (.ref w_ERROR), .val (.int (1 : Int32))] [(.int (if w_Selection_DENY = w_ALL then (1 : Int32) else if w_ERROR = w_ALLOW then 0 else 1))])) _
          refine XS.iload X19.here hx rfl (hb hby at_108) rfl ?_
          show Steps p.tables e below (T19.setTop (mkF m 110 #[.val (.int p0), .val (.int p1), .val (.int (0 : Int32)), .val (.ref w_Selection_DENY), .val (.int ((p1 &&& (2147483647 : Int32)) % (3 : Int32))), .val (.ref w_ERROR), .val (.int (1 : Int32))] [(.int (1 : Int32)), (.int (if w_Selection_DENY = w_ALL then (1 : Int32) else if w_ERROR = w_ALLOW then 0 else 1))])) _
          refine XS.icmpNo X19.here hx rfl (hb hby at_110) rfl (teq (by simp [ne_Selection_DENY_ALL, ne_DENY_ALLOW, ne_ERROR_ALLOW] : (if w_Selection_DENY = w_ALL then (1 : Int32) else if w_ERROR = w_ALLOW then 0 else 1) = (1 : Int32))).2 ?_
          show Steps p.tables e below (T19.setTop (mkF m 113 #[.val (.int p0), .val (.int p1), .val (.int (0 : Int32)), .val (.ref w_Selection_DENY), .val (.int ((p1 &&& (2147483647 : Int32)) % (3 : Int32))), .val (.ref w_ERROR), .val (.int (1 : Int32))] [])) _
          refine XS.iconst X19.here hx rfl (hb hby at_113) ?_
          show Steps p.tables e below (T19.setTop (mkF m 114 #[.val (.int p0), .val (.int p1), .val (.int (0 : Int32)), .val (.ref w_Selection_DENY), .val (.int ((p1 &&& (2147483647 : Int32)) % (3 : Int32))), .val (.ref w_ERROR), .val (.int (1 : Int32))] [(.int (1 : Int32))])) _
          refine XS.goto X19.here hx rfl (pc0 := 114) (pc' := 118) rfl (hb hby at_114) (by decide) (by decide) ?_
          show Steps p.tables e below (T19.setTop (mkF m 118 #[.val (.int p0), .val (.int p1), .val (.int (0 : Int32)), .val (.ref w_Selection_DENY), .val (.int ((p1 &&& (2147483647 : Int32)) % (3 : Int32))), .val (.ref w_ERROR), .val (.int (1 : Int32))] [(.int (1 : Int32))])) _
          exact retN X19 hx (t := .boolean) Bd.returns (by simp) (hb hby at_118) hr
        · show Q_rm0 Z p0 p1 w_ALL w_ALLOW w_DENY w_ERROR w_Selection_DENY h0 n0 _ T19.heap _
          rw [e19]
          exact ⟨rfl, N19, rfl⟩
set_option maxRecDepth 65536 in
set_option maxHeartbeats 40000000 in
theorem comes_1 {Post : Tables → Env → Array Value → State → Outcome → State → Prop} (hpost : ∀ tb e args s v u, (limb_1_1.after args s (.returned v) u = true ∧ limb_1_2.after args s (.returned v) u = true ∧ True) → FrameEnd s (.returned v) u (Jvm.fieldLocs frame_1_writes args s ++ Jvm.arrayLocs frame_1_arrays args s ++ Jvm.staticLocs frame_1_statics s) 0 0 → Post tb e args s (.returned v) u) :
    ArmFor flags0 classFile x code maxLocals ret World_1 tables_1 room_1 Calls_1 rest_1 Pre_1 Post := by
  intro l hfl _ _ p e ha hc hk s m args below hf hA hF happ hP
  obtain ⟨hcalls, hrest, hpre⟩ := hP
  obtain ⟨-, -, -, hnamed, -, -, -, hat⟩ := (Spec.applies_iff hf).mp happ
  obtain ⟨hg, hn⟩ := and_e (Cond.before_iff.mp (show (Jvm.Cond.and given_1 narrow_1).before args s = true from hpre))
  obtain ⟨hg1a, hg1b⟩ := and_e hg
  obtain ⟨hg2a, hg2b⟩ := and_e hg1b
  obtain ⟨w0, w1, rfl⟩ : ∃ w0 w1 : Value, args = #[w0, w1] := by
    have hs : args.size = 2 := by simpa [Cond.value, given_1] using hg1a
    obtain ⟨L⟩ := args
    match L, hs with
    | [w0, w1], _ => exact ⟨w0, w1, rfl⟩
  have hw := fun d (hd : d ∈ tables_1) => atoms_spec (ws := Jvm.Cond.code x code maxLocals ret :: tables_1) hat d (List.mem_cons_of_mem _ hd)
  have hfit : Fit s := fun {y c} hc i hi => by
    obtain ⟨ha, rfl⟩ := Array.getElem?_eq_some_iff.mp hc
    have q := List.all_eq_true.mp ((Array.all_eq_true_iff_forall_mem.mp hF) _ (Array.getElem_mem ha)) i (List.mem_range.mpr hi)
    simpa [Array.getElem?_eq_getElem hi] using q
  obtain ⟨i0, ei0⟩ := is_v hg2a
  obtain rfl : w0 = (.int i0) := Option.some.inj ei0
  obtain ⟨i1, ei1⟩ := is_v hg2b
  obtain rfl : w1 = (.int i1) := Option.some.inj ei1
  obtain ⟨hn1a, hn1b⟩ := and_e hn
  obtain ⟨hn2a, hn2b⟩ := and_e hn1b
  obtain ⟨hn3a, hn3b⟩ := and_e hn2b
  obtain ⟨hn4a, hn4b⟩ := and_e hn3b
  obtain ⟨hn5a, hn5b⟩ := and_e hn4b
  obtain ⟨hn6a, hn6b⟩ := and_e hn5b
  obtain ⟨hn7a, hn7b⟩ := and_e hn6b
  obtain ⟨hn8a, hn8b⟩ := and_e hn7b
  obtain ⟨hn9a, hn9b⟩ := and_e hn8b
  obtain ⟨w_ALL, evw_ALL⟩ := exa_v hn1a
  have E_ALL := Exa.start evw_ALL hn1a
  have S_ALL := Sta.start evw_ALL (Or.inr ⟨(hw _ (List.mem_of_getElem? (i := 1) rfl)), (hw _ (List.mem_of_getElem? (i := 2) rfl))⟩)
  obtain ⟨w_ALLOW, evw_ALLOW⟩ := exa_v hn2a
  have E_ALLOW := Exa.start evw_ALLOW hn2a
  have S_ALLOW := Sta.start evw_ALLOW (Or.inr ⟨(hw _ (List.mem_of_getElem? (i := 5) rfl)), (hw _ (List.mem_of_getElem? (i := 6) rfl))⟩)
  obtain ⟨w_DENY, evw_DENY⟩ := exa_v hn3a
  have E_DENY := Exa.start evw_DENY hn3a
  have S_DENY := Sta.start evw_DENY (Or.inr ⟨(hw _ (List.mem_of_getElem? (i := 5) rfl)), (hw _ (List.mem_of_getElem? (i := 14) rfl))⟩)
  obtain ⟨w_ERROR, evw_ERROR⟩ := exa_v hn4a
  have E_ERROR := Exa.start evw_ERROR hn4a
  have S_ERROR := Sta.start evw_ERROR (Or.inr ⟨(hw _ (List.mem_of_getElem? (i := 5) rfl)), (hw _ (List.mem_of_getElem? (i := 16) rfl))⟩)
  obtain ⟨w_Selection_DENY, evw_Selection_DENY⟩ := exa_v hn5a
  have E_Selection_DENY := Exa.start evw_Selection_DENY hn5a
  have S_Selection_DENY := Sta.start evw_Selection_DENY (Or.inr ⟨(hw _ (List.mem_of_getElem? (i := 1) rfl)), (hw _ (List.mem_of_getElem? (i := 18) rfl))⟩)
  have F_Selection_DENY_ordinal := own_fldI evw_Selection_DENY hn6a
  have F_ALL_ordinal := own_fldI evw_ALL hn7a
  have F_DENY_ordinal := own_fldI evw_DENY hn8a
  have F_ALLOW_ordinal := own_fldI evw_ALLOW hn9a
  have F_ERROR_ordinal := own_fldI evw_ERROR hn9b
  have WD : World s s.heap w_ALL w_ALLOW w_DENY w_ERROR w_Selection_DENY := ⟨S_ALL, E_ALL, S_ALLOW, E_ALLOW, S_DENY, E_DENY, S_ERROR, E_ERROR, S_Selection_DENY, E_Selection_DENY, F_Selection_DENY_ordinal, F_ALL_ordinal, F_DENY_ordinal, F_ALLOW_ordinal, F_ERROR_ordinal⟩
  obtain ⟨n, o, h1, h2, h3, _, L, rfl, ⟨rfl, N, -⟩, hq⟩ := rm0 l s _ hw tables_1 i0 i1 w_ALL w_ALLOW w_DENY w_ERROR w_Selection_DENY s.heap s.heap.size (Nat.le_refl _) WD p e ha hc hk s m _ below hf ((Spec.applies_iff_loose hf).mp happ).1 ⟨rfl, State.Warmed39.refl s, rfl⟩ trivial
  refine ⟨n, _, h1, h2, h3, hpost _ _ _ _ _ _ ⟨Cond.after_iff.mpr rfl, Cond.after_iff.mpr (eq_i res_at (Term.int_eval (1)) rfl), trivial⟩ ⟨hq.1, hq.2.1, (hq.2.2.sift fun y hy => Or.inr (N y hy)).mono (by decide) (by decide)⟩⟩
theorem main_1_1 : Claimed_1_1 := comes_1 fun _ _ _ _ _ _ h hF => ⟨h.1, hF⟩
theorem main_1_2 : Claimed_1_2 := comes_1 fun _ _ _ _ _ _ h hF => ⟨h.2.1, hF⟩
end Jvm.Pilot.@@N@@
namespace Jvm.Pilot.@@N@@
open Jvm Jvm.ClassFile Sem Op Lib Jvm.Free Jvm.Stand Jvm.Pilot.@@N@@.Jvm.D
/-! MADE BY PROGRAM (witnessworld.py) out of the Statement's table words and the real class files: 11 classes; the members and pool entries that the words name. The judged class is class 1, her method 1. -/
namespace start1
open Jvm.ClassFile
def u (s : String) : CpInfo := .utf8 (stringToUtf16 s)
/-- a pool by its gaps: so many unusable entries, then the entry; so many at the end -/
def gap : Nat → List CpInfo → List CpInfo
  | 0, r => r
  | n + 1, r => .unusable :: gap n r
def poolList (es : List (Nat × CpInfo)) (last : Nat) : List CpInfo := es.foldr (fun e r => gap e.1 (e.2 :: r)) (gap last [])
def pool (es : List (Nat × CpInfo)) (last : Nat) : Array CpInfo := ⟨poolList es last⟩
def fileOf (pool : Array CpInfo) (this : Nat) (attrs : Array Attribute := #[]) (ms : Array MethodInfo := #[]) (fl : Nat := 33) (sup : Nat := 0) (ifs : Array Nat := #[]) (fds : Array FieldInfo := #[]) : ClassFile where
  minorVersion := 0
  majorVersion := 65
  constantPool := pool
  accessFlags := fl
  thisClass := this
  superClass := sup
  interfaces := ifs
  fields := fds
  methods := ms
  attributes := attrs
def plain (name : String) (sup : Option ClassId) : Class where
  name := name
  kind := .ordinary
  loader := none
  accessFlags := 33
  super := sup
  interfaces := #[]
  cf := none
  fields := #[]
  methods := #[]
  instanceTypes := #[]
  staticTypes := #[]
  resolved := #[]
  callSites := []
  init := .initialized
  statics := none
  mirror := none

def pool0 : Array CpInfo := pool [(5, u "<init>"), (0, u "()V"), (1, .class_ 10), (1, u "java/lang/Object")] 113

def k0m0 : Method := { name := "<init>", desc := "()V", sig := { parameters := [], returnType := none }, accessFlags := 1, code := none }
/-- java/lang/Object -/
def k0 : Class := { plain "java/lang/Object" none with
  accessFlags := 33
  interfaces := #[]
  cf := some (fileOf pool0 8 #[] #[{ accessFlags := 1, nameIndex := 5, descriptorIndex := 6, attributes := #[] }] 33 0 #[] #[])
  fields := #[]
  methods := #[k0m0]
  instanceTypes := #[]
  staticTypes := #[]
  resolved := Array.replicate 124 none
  statics := none }

def pool1 : Array CpInfo := pool [(2, .class_ 4), (1, u "java/lang/Object"), (0, u "<init>"), (0, u "()V"), (0, .fieldref 8 9), (0, .class_ 10), (0, .nameAndType 11 12), (0, u "com/example/label_gate/labelgate/AuditTrail$Selection"), (0, u "ALL"), (0, u "Lcom/example/label_gate/labelgate/AuditTrail$Selection;"), (0, .fieldref 8 14), (0, .nameAndType 15 12), (0, u "DENY"), (0, .integer 2147483647), (0, .fieldref 18 19), (0, .class_ 20), (0, .nameAndType 21 22), (0, u "com/example/label_gate/labelgate/Outcome"), (0, u "ALLOW"), (0, u "Lcom/example/label_gate/labelgate/Outcome;"), (0, .fieldref 18 24), (0, .nameAndType 15 22), (0, .fieldref 18 26), (0, .nameAndType 27 22), (0, u "ERROR"), (0, .methodref 8 29), (0, .nameAndType 30 31), (0, u "takes"), (0, u "(Lcom/example/label_gate/labelgate/Outcome;)Z"), (0, .class_ 33), (0, u "com/example/label_gate/labelgate/SelectionTakesPinLaw"), (2, u "law"), (0, u "(II)Z")] 7

def k1m0 : Method := { name := "<init>", desc := "()V", sig := { parameters := [], returnType := none }, accessFlags := 2, code := none }
def k1c1 : Code := { maxStack := 2, maxLocals := 7, code := code, exceptionTable := #[], attributes := #[] }
def k1m1 : Method := { name := "law", desc := "(II)Z", sig := { parameters := [.int, .int], returnType := some .boolean }, accessFlags := 9, code := some k1c1 }
/-- com/example/label_gate/labelgate/SelectionTakesPinLaw -/
def k1 : Class := { plain "com/example/label_gate/labelgate/SelectionTakesPinLaw" (some 0) with
  accessFlags := 49
  interfaces := #[]
  cf := some (fileOf pool1 32 #[] #[{ accessFlags := 2, nameIndex := 5, descriptorIndex := 6, attributes := #[] }, { accessFlags := 9, nameIndex := 36, descriptorIndex := 37, attributes := #[] }] 49 2 #[] #[])
  fields := #[]
  methods := #[k1m0, k1m1]
  instanceTypes := #[]
  staticTypes := #[]
  resolved := Array.replicate 45 none
  statics := none }

def pool2 : Array CpInfo := pool [(1, .class_ 2), (0, u "java/lang/constant/Constable"), (0, .class_ 4), (0, u "java/lang/Object")] 6

/-- java/lang/constant/Constable -/
def k2 : Class := { plain "java/lang/constant/Constable" (some 0) with
  accessFlags := 1537
  interfaces := #[]
  cf := some (fileOf pool2 1 #[] #[] 1537 3 #[] #[])
  fields := #[]
  methods := #[]
  instanceTypes := #[]
  staticTypes := #[]
  resolved := Array.replicate 11 none
  statics := none }

def pool3 : Array CpInfo := pool [(1, .class_ 2), (0, u "java/lang/Comparable"), (0, .class_ 4), (0, u "java/lang/Object")] 7

/-- java/lang/Comparable -/
def k3 : Class := { plain "java/lang/Comparable" (some 0) with
  accessFlags := 1537
  interfaces := #[]
  cf := some (fileOf pool3 1 #[] #[] 1537 3 #[] #[])
  fields := #[]
  methods := #[]
  instanceTypes := #[]
  staticTypes := #[]
  resolved := Array.replicate 12 none
  statics := none }

def pool4 : Array CpInfo := pool [(1, .class_ 2), (0, u "java/io/Serializable"), (0, .class_ 4), (0, u "java/lang/Object")] 2

/-- java/io/Serializable -/
def k4 : Class := { plain "java/io/Serializable" (some 0) with
  accessFlags := 1537
  interfaces := #[]
  cf := some (fileOf pool4 1 #[] #[] 1537 3 #[] #[])
  fields := #[]
  methods := #[]
  instanceTypes := #[]
  staticTypes := #[]
  resolved := Array.replicate 7 none
  statics := none }

def pool5 : Array CpInfo := pool [(2, .class_ 4), (1, u "java/lang/Enum"), (0, u "name"), (0, u "Ljava/lang/String;"), (2, u "ordinal"), (0, u "I"), (1, .class_ 14), (1, u "java/lang/Object"), (4, u "hash"), (86, .class_ 108), (1, u "java/lang/Enum$EnumDesc"), (2, .class_ 112), (0, u "java/lang/constant/Constable"), (0, .class_ 114), (0, u "java/lang/Comparable"), (0, .class_ 116), (0, u "java/io/Serializable")] 87

/-- java/lang/Enum -/
def k5 : Class := { plain "java/lang/Enum" (some 0) with
  accessFlags := 1057
  interfaces := #[2, 3, 4]
  cf := some (fileOf pool5 2 #[.nestMembers #[106]] #[] 1057 12 #[111, 113, 115] #[{ accessFlags := 18, nameIndex := 5, descriptorIndex := 6, attributes := #[] }, { accessFlags := 18, nameIndex := 9, descriptorIndex := 10, attributes := #[] }, { accessFlags := 2, nameIndex := 19, descriptorIndex := 10, attributes := #[] }])
  fields := #[{ name := "name", type := (.object "java/lang/String"), accessFlags := 18, slot := 0, constantValue := 0 }, { name := "ordinal", type := .int, accessFlags := 18, slot := 1, constantValue := 0 }, { name := "hash", type := .int, accessFlags := 2, slot := 2, constantValue := 0 }]
  methods := #[]
  instanceTypes := #[(.object "java/lang/String"), .int, .int]
  staticTypes := #[]
  resolved := Array.replicate 204 none
  statics := none }

def pool6 : Array CpInfo := pool [(1, .class_ 2), (0, u "com/example/label_gate/labelgate/AuditTrail$Selection"), (0, .fieldref 1 4), (0, .nameAndType 5 6), (0, u "ALL"), (0, u "Lcom/example/label_gate/labelgate/AuditTrail$Selection;"), (2, u "DENY"), (2, u "$VALUES"), (0, u "[Lcom/example/label_gate/labelgate/AuditTrail$Selection;"), (6, .class_ 22), (1, u "java/lang/Enum"), (6, .fieldref 30 31), (0, .class_ 32), (0, .nameAndType 33 34), (0, u "com/example/label_gate/labelgate/Outcome"), (0, u "ALLOW"), (0, u "Lcom/example/label_gate/labelgate/Outcome;"), (14, u "takes"), (0, u "(Lcom/example/label_gate/labelgate/Outcome;)Z"), (6, .class_ 58), (0, u "com/example/label_gate/labelgate/AuditTrail")] 2

def k6c0 : Code := { maxStack := 2, maxLocals := 2, code := prog_7_method_4_code, exceptionTable := #[], attributes := #[] }
def k6m0 : Method := { name := "takes", desc := "(Lcom/example/label_gate/labelgate/Outcome;)Z", sig := { parameters := [(.object "com/example/label_gate/labelgate/Outcome")], returnType := some .boolean }, accessFlags := 0, code := some k6c0 }
/-- com/example/label_gate/labelgate/AuditTrail$Selection -/
def k6 : Class := { plain "com/example/label_gate/labelgate/AuditTrail$Selection" (some 5) with
  accessFlags := 16433
  interfaces := #[]
  cf := some (fileOf pool6 1 #[.nestHost 57] #[{ accessFlags := 0, nameIndex := 49, descriptorIndex := 50, attributes := #[] }] 16433 20 #[] #[{ accessFlags := 16409, nameIndex := 5, descriptorIndex := 6, attributes := #[] }, { accessFlags := 16409, nameIndex := 9, descriptorIndex := 6, attributes := #[] }, { accessFlags := 4122, nameIndex := 12, descriptorIndex := 13, attributes := #[] }])
  fields := #[{ name := "ALL", type := (.object "com/example/label_gate/labelgate/AuditTrail$Selection"), accessFlags := 16409, slot := 0, constantValue := 0 }, { name := "DENY", type := (.object "com/example/label_gate/labelgate/AuditTrail$Selection"), accessFlags := 16409, slot := 1, constantValue := 0 }, { name := "$VALUES", type := (.array (.object "com/example/label_gate/labelgate/AuditTrail$Selection")), accessFlags := 4122, slot := 2, constantValue := 0 }]
  methods := #[k6m0]
  instanceTypes := #[(.object "java/lang/String"), .int, .int]
  staticTypes := #[(.object "com/example/label_gate/labelgate/AuditTrail$Selection"), (.object "com/example/label_gate/labelgate/AuditTrail$Selection"), (.array (.object "com/example/label_gate/labelgate/AuditTrail$Selection"))]
  resolved := Array.replicate 61 none
  statics := some 0 }

def pool7 : Array CpInfo := pool [(1, .class_ 2), (0, u "com/example/label_gate/labelgate/Outcome"), (2, u "ALLOW"), (0, u "Lcom/example/label_gate/labelgate/Outcome;"), (2, u "DENY"), (2, u "ERROR"), (2, u "$VALUES"), (0, u "[Lcom/example/label_gate/labelgate/Outcome;"), (6, .class_ 25), (1, u "java/lang/Enum"), (7, .class_ 35), (1, u "com/example/label_gate/labelgate/Outcome$1")] 37

/-- com/example/label_gate/labelgate/Outcome -/
def k7 : Class := { plain "com/example/label_gate/labelgate/Outcome" (some 5) with
  accessFlags := 16432
  interfaces := #[]
  cf := some (fileOf pool7 1 #[.nestMembers #[33]] #[] 16432 23 #[] #[{ accessFlags := 16409, nameIndex := 5, descriptorIndex := 6, attributes := #[] }, { accessFlags := 16409, nameIndex := 9, descriptorIndex := 6, attributes := #[] }, { accessFlags := 16409, nameIndex := 12, descriptorIndex := 6, attributes := #[] }, { accessFlags := 4122, nameIndex := 15, descriptorIndex := 16, attributes := #[] }])
  fields := #[{ name := "ALLOW", type := (.object "com/example/label_gate/labelgate/Outcome"), accessFlags := 16409, slot := 0, constantValue := 0 }, { name := "DENY", type := (.object "com/example/label_gate/labelgate/Outcome"), accessFlags := 16409, slot := 1, constantValue := 0 }, { name := "ERROR", type := (.object "com/example/label_gate/labelgate/Outcome"), accessFlags := 16409, slot := 2, constantValue := 0 }, { name := "$VALUES", type := (.array (.object "com/example/label_gate/labelgate/Outcome")), accessFlags := 4122, slot := 3, constantValue := 0 }]
  methods := #[]
  instanceTypes := #[(.object "java/lang/String"), .int, .int]
  staticTypes := #[(.object "com/example/label_gate/labelgate/Outcome"), (.object "com/example/label_gate/labelgate/Outcome"), (.object "com/example/label_gate/labelgate/Outcome"), (.array (.object "com/example/label_gate/labelgate/Outcome"))]
  resolved := Array.replicate 73 none
  statics := some 1 }

def pool8 : Array CpInfo := pool [(1, u "java/lang/Cloneable"), (0, .class_ 1), (0, u "java/lang/Object"), (0, .class_ 3)] 3

/-- java/lang/Cloneable -/
def k8 : Class := { plain "java/lang/Cloneable" (some 0) with
  accessFlags := 1537
  interfaces := #[]
  cf := some (fileOf pool8 2 #[] #[] 1537 4 #[] #[])
  fields := #[]
  methods := #[]
  instanceTypes := #[]
  staticTypes := #[]
  resolved := Array.replicate 8 none
  statics := none }

/-- the primitive byte -/
def k9 : Class := { plain "byte" none with kind := .primitive 'B', accessFlags := 0x411 }
/-- [B -/
def k10 : Class := { plain "[B" (some 0) with kind := .array 9 .byte, interfaces := #[8, 4], accessFlags := 1041 }

def heap : Heap := #[{ cls := 6, slots := #[.ref 2, .ref 6, .null], vm := .statics 6 },
  { cls := 7, slots := #[.ref 3, .ref 4, .ref 5, .null], vm := .statics 7 },
  { cls := 6, slots := #[.null, .int 0, .int 0], vm := .none },
  { cls := 7, slots := #[.null, .int 0, .int 0], vm := .none },
  { cls := 7, slots := #[.null, .int 1, .int 0], vm := .none },
  { cls := 7, slots := #[.null, .int 2, .int 0], vm := .none },
  { cls := 6, slots := #[.null, .int 1, .int 0], vm := .none }]
def classes : Array Class := #[k0, k1, k2, k3, k4, k5, k6, k7, k8, k9, k10]
def interned : List (Array UInt16 × Addr) := []
def slotsUsed : Nat := 22
def theMethod : MethodId := ⟨1, 1⟩
def args0 : Array Value := #[.int 5, .int 7]
def aboutOver (below : List Frame) : State where
  vm := { classes := classes, interned := interned.toArray }
  heap := heap
  slotsUsed := slotsUsed
  threads := #[{ frames := .invoking theMethod args0 :: below }]
def below0 : List Frame := [.native { method := ⟨0, 0⟩, args := #[] }]
def about1 : State := aboutOver below0
def p0 : Program := .bare "" "" ""
def e0 : Env := launch0.env 0 0 0
theorem w_frames : about1.frames = Frame.invoking theMethod args0 :: below0 := rfl
set_option maxRecDepth 65536 in
theorem w_args : argsFit about1.vm theMethod args0 = true := by decide +kernel
set_option maxRecDepth 65536 in
theorem w_heap : heapFits about1 = true := by decide +kernel
set_option maxRecDepth 65536 in
theorem w_runnable : about1.curStatus? = some .runnable := by decide +kernel
set_option maxRecDepth 65536 in
theorem w_alone : about1.alone = true := by decide +kernel
set_option maxRecDepth 65536 in
theorem w_named : about1.methodNamed? x = some theMethod := by decide +kernel
set_option maxRecDepth 65536 in
theorem w_hears : about1.hears theMethod below0 = true := by decide +kernel
set_option maxRecDepth 65536 in
theorem w_ripe : about1.ripe theMethod args0 below0 = true := by decide +kernel
theorem w_running : about1.status = .running := rfl
set_option maxRecDepth 65536 in
theorem w_room : about1.hasRoom e0.platform room_1 = true :=
  launch0.hasRoom_least _ room_1 (by decide +kernel) (by decide +kernel) (by decide +kernel) (by decide +kernel) (by decide +kernel) (by decide +kernel)
theorem allAtoms_all (ts : List Jvm.Cond) (a : Array Jvm.Value) (st : Jvm.State) : (allAtoms ts).before a st = ts.all (fun c => c.before a st) := by
  induction ts with
  | nil => rfl
  | cons c t ih =>
    show (Jvm.Cond.and c (allAtoms t)).before a st = _
    rw [Jvm.Cond.before_and, ih, List.all_cons]
def words1 : List Jvm.Cond := Jvm.Cond.code x code maxLocals ret :: tables_1
/-- a 'code' word, met by the world's own term for the bytes: nothing is compared byte by byte -/
theorem code_word {y : MethodName} {bytes : ByteArray} {mx : Nat} {rt : Option FieldType} {a : Array Value} {s : State} {m : MethodId} {meth : Method} {c : Code} (h1 : s.methodNamed? y = some m) (h2 : s.vm.method? m = some meth) (h3 : meth.code = some c) (h4 : c.code = bytes)
    (h5 : (c.maxLocals == mx && c.exceptionTable.isEmpty && decide (c.maxStack ≤ mostOperands) && decide (meth.sig.returnType = rt) && !meth.locks && decide (parseMethodDescriptor y.desc = some meth.sig)) = true) : (Jvm.Cond.code y bytes mx rt).before a s = true := by
  simp only [Bool.and_eq_true, beq_iff_eq, Bool.not_eq_true', decide_eq_true_eq] at h5
  obtain ⟨⟨⟨⟨⟨g1, g2⟩, g3⟩, g4⟩, g5⟩, g6⟩ := h5
  simp [Cond.before, Cond.holds, Cond.value, h1, h2, h3, h4, g1, g2, g3, g4, g5, g6]
def isCode : Jvm.Cond → Bool
  | .code _ _ _ _ => true
  | _ => false
theorem all_split {L : List Jvm.Cond} {P : Jvm.Cond → Bool} (h1 : L.all (fun c => isCode c || P c) = true) (h2 : ∀ c ∈ L.filter isCode, P c = true) : L.all P = true := by
  refine List.all_eq_true.mpr fun c hc => ?_
  have h := List.all_eq_true.mp h1 c hc
  rcases Bool.eq_false_or_eq_true (isCode c) with hi | hi
  · exact h2 c (List.mem_filter.mpr ⟨hc, hi⟩)
  · simpa [hi] using h
set_option maxRecDepth 65536 in
theorem w_c0 : (Jvm.Cond.code x code maxLocals ret).before args0 about1 = true := code_word (m := ⟨1, 1⟩) (meth := k1m1) (c := k1c1) (by decide +kernel) rfl rfl rfl (by decide +kernel)
set_option maxRecDepth 65536 in
theorem w_c1 : (Jvm.Cond.code ({ cls := "com/example/label_gate/labelgate/AuditTrail$Selection", name := "takes", desc := "(Lcom/example/label_gate/labelgate/Outcome;)Z" } : Jvm.MethodName) prog_7_method_4_code (2 : Nat) (Option.some Jvm.ClassFile.FieldType.boolean)).before args0 about1 = true := code_word (m := ⟨6, 0⟩) (meth := k6m0) (c := k6c0) (by decide +kernel) rfl rfl rfl (by decide +kernel)
def codes1 : List Jvm.Cond := [Jvm.Cond.code x code maxLocals ret, Jvm.Cond.code ({ cls := "com/example/label_gate/labelgate/AuditTrail$Selection", name := "takes", desc := "(Lcom/example/label_gate/labelgate/Outcome;)Z" } : Jvm.MethodName) prog_7_method_4_code (2 : Nat) (Option.some Jvm.ClassFile.FieldType.boolean)]
set_option maxRecDepth 65536 in
theorem codes_eq : words1.filter isCode = codes1 := rfl
theorem w_codes : ∀ c ∈ words1.filter isCode, c.before args0 about1 = true := by
  rw [codes_eq]
  intro c hc
  simp only [codes1, List.mem_cons, List.not_mem_nil, or_false] at hc
  rcases hc with rfl | rfl
  · exact w_c0
  · exact w_c1
set_option maxRecDepth 65536 in
theorem w_t1 : words1.all (fun c => isCode c || c.before args0 about1) = true := by decide +kernel
theorem w_tables : (allAtoms (Jvm.Cond.code x code maxLocals ret :: tables_1)).before args0 about1 = true := by
  rw [allAtoms_all]
  show words1.all (fun c => c.before args0 about1) = true
  refine all_split ?_ w_codes
  rw [w_t1]
set_option maxRecDepth 65536 in
theorem w_case : (Jvm.Cond.and given_1 narrow_1).before args0 about1 = true := by decide +kernel
theorem w_applies : (headSpec (Jvm.Cond.code x code maxLocals ret :: tables_1) room_1).applies x e0.platform about1 = true :=
  (Spec.applies_iff w_frames).mpr ⟨w_running, w_runnable, w_alone, w_named, w_hears, w_ripe, w_room, w_tables⟩
theorem atStart : AtStart classFile x code maxLocals ret World_1 tables_1 room_1 Calls_1 rest_1 Pre_1 launch0 p0 e0 about1 theMethod args0 below0 :=
  ⟨lists_1, trivial, launch0.admits_env _ _ _, launch0.least_env, fairChoices_fair.cas, fairChoices_fair.clock, w_frames, w_args, w_heap, w_applies, trivial, trivial, w_case⟩
end start1
theorem witness_1 : WitnessClaimed_1 := ⟨start1.p0, start1.e0, start1.about1, start1.theMethod, start1.args0, start1.below0, start1.atStart⟩
end Jvm.Pilot.@@N@@
