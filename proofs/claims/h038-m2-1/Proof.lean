import JvmDerived
import JvmDerived.Pilot.@@N@@Statement
import JvmDerived.Pilot.@@N@@Code
set_option linter.unusedVariables false
set_option linter.unusedSimpArgs false
namespace Jvm.Pilot.@@N@@
open Jvm Jvm.ClassFile Sem Op Lib Jvm.Free Jvm.Stand Jvm.LawKit Jvm.RoadKit Bundle Jvm.Pilot.@@N@@.Jvm.D
theorem own_fldI {t : Term} {C n d : String} {args : Array Value} {s : State} {a : Addr} {z : Int32} (ev : t.eval args s none [] s = some (.ref a)) (h : (Jvm.Cond.eq (Term.field t C n d) (Term.int z)).value args s none s [] = some true) : Fld s s.heap a C n d (.int z) := by
  obtain ⟨x, y, hx, hy, k1, k2⟩ := cmp_v (Or.inl h)
  cases (Term.int_eval z).symm.trans hy
  obtain ⟨q, rfl⟩ := k2
  have hq : q = z := by
    have h' := h
    simp only [Cond.value, hx, Term.int_eval] at h'
    simpa using h'
  subst hq
  exact Fld.start ((fld_at ev).symm.trans hx)
theorem own_fldR {t u : Term} {C n d : String} {args : Array Value} {s : State} {a b : Addr} (ev : t.eval args s none [] s = some (.ref a)) (eu : u.eval args s none [] s = some (.ref b)) (h : (Jvm.Cond.eq (Term.field t C n d) u).value args s none s [] = some true) : Fld s s.heap a C n d (.ref b) := by
  obtain ⟨x, y, hx, hy, k1, k2⟩ := cmp_v (Or.inl h)
  cases eu.symm.trans hy
  have hxr : x.isRef = true := k2.2
  have hq : x = .ref b := gotT (eq_R hx eu hxr rfl) h
  subst hq
  exact Fld.start ((fld_at ev).symm.trans hx)
theorem own_fldN {t : Term} {C n d : String} {args : Array Value} {s : State} {a : Addr} (ev : t.eval args s none [] s = some (.ref a)) (h : (Jvm.Cond.eq (Term.field t C n d) .null).value args s none s [] = some true) : Fld s s.heap a C n d .null :=
  Fld.start ((fld_at ev).symm.trans (null_v h))
theorem own_inj {Z : State} {h : Heap} {a : Addr} {C n d : String} {v w : Value} (F : Fld Z h a C n d v) (G : Fld Z h a C n d w) : v = w := by
  obtain ⟨c1, cf, k, i, f, h1, h2, -, -, -, -, h7⟩ := F
  obtain ⟨c2, cf', k', i', f', g1, g2, -, -, -, -, g7⟩ := G
  cases h1.symm.trans g1
  cases h2.symm.trans g2
  exact Option.some.inj (h7.symm.trans g7)
theorem own_ne {Z : State} {h : Heap} {a b : Addr} {C n d : String} {x y : Int32} (F : Fld Z h a C n d (.int x)) (G : Fld Z h b C n d (.int y)) (hn : x ≠ y) : ¬ (a = b) := fun e => by
  subst e
  exact hn (Value.int.inj (own_inj F G))
def World (Z : State) (h : Heap) (w_FALSE w_TRUE w_UNKNOWN : Addr) : Prop := Sta Z h "com/example/consent/consent/model/Truth" "FALSE" "Lcom/example/consent/consent/model/Truth;" (.ref w_FALSE) ∧ Exa Z h w_FALSE "com/example/consent/consent/model/Truth" ∧ Sta Z h "com/example/consent/consent/model/Truth" "TRUE" "Lcom/example/consent/consent/model/Truth;" (.ref w_TRUE) ∧ Exa Z h w_TRUE "com/example/consent/consent/model/Truth" ∧ Sta Z h "com/example/consent/consent/model/Truth" "UNKNOWN" "Lcom/example/consent/consent/model/Truth;" (.ref w_UNKNOWN) ∧ Exa Z h w_UNKNOWN "com/example/consent/consent/model/Truth" ∧ Fld Z h w_FALSE "java/lang/Enum" "ordinal" "I" (.int (1 : Int32)) ∧ Fld Z h w_UNKNOWN "java/lang/Enum" "ordinal" "I" (.int (2 : Int32)) ∧ Fld Z h w_TRUE "java/lang/Enum" "ordinal" "I" (.int (0 : Int32))
def own_and (a b f u t : Addr) : Addr := if a = f then f else if b = f then f else if a = u then u else if b = u then u else t
theorem d1_0 : decode prog_38_method_4_code 0 = .ok (.iload_n 0, 1) := by decide +kernel
theorem d1_1 : decode prog_38_method_4_code 1 = .ok (.ifCond .eq 9, 3) := by decide +kernel
theorem d1_4 : decode prog_38_method_4_code 4 = .ok (.getstatic 3, 3) := by decide +kernel
theorem d1_7 : decode prog_38_method_4_code 7 = .ok (.goto 6, 3) := by decide +kernel
theorem d1_10 : decode prog_38_method_4_code 10 = .ok (.getstatic 7, 3) := by decide +kernel
theorem d1_13 : decode prog_38_method_4_code 13 = .ok (.areturn, 1) := by decide +kernel
theorem pn_0 : plainName "com/example/consent/consent/model/Truth" = true := by first | (simp [plainName, overriddenIn]; done) | decide +kernel
theorem ef_rm1_0 (m : MethodId) (x0 : Int32) : entryFrame m #[(.int x0)] 1 = mkF m 0 #[.val (.int x0)] [] := by first | (simp [entryFrame, mkF, argsToLocals, Value.category]; done) | rfl
def Q_rm1_0 (Z : State) (w_FALSE : Addr) (w_TRUE : Addr) (w_UNKNOWN : Addr) (h0 : Heap) (n0 : Nat) (v : Option Value) (h : Heap) (L : List Loc) : Prop := v = some (.ref w_FALSE) ∧ Fr n0 L ∧ h = h0
set_option maxRecDepth 65536 in
set_option maxHeartbeats 40000000 in
theorem rm1_0 (l : Launch) (Z : State) (a0 : Array Value) (hw : ∀ d ∈ tables_1, d.before a0 Z = true) (ws : List Jvm.Cond) (w_FALSE : Addr) (w_TRUE : Addr) (w_UNKNOWN : Addr) (h0 : Heap) (n0 : Nat) (Z0 : n0 ≤ h0.size) (WD : World Z h0 w_FALSE w_TRUE w_UNKNOWN) :
    MetFree l (⟨"com/example/consent/consent/model/Truth", "of", "(Z)Lcom/example/consent/consent/model/Truth;"⟩ : MethodName) (head1 (Jvm.Cond.code (⟨"com/example/consent/consent/model/Truth", "of", "(Z)Lcom/example/consent/consent/model/Truth;"⟩ : MethodName) prog_38_method_4_code 1 (some (.object "com/example/consent/consent/model/Truth")) :: ws) ({ frames := 0, cells := 0, slots := 0, locals := 0 } : Room)) (fun a U => a = #[(.int (0 : Int32))] ∧ Z.Warmed39 U.vm ∧ U.heap = h0) (fun _ _ _ _ _ => True) (fun _ U o U' => ∃ v L, o = .returned v ∧ Q_rm1_0 Z w_FALSE w_TRUE w_UNKNOWN h0 n0 v U'.heap L ∧ FrameEnd U o U' L ({ frames := 0, cells := 0, slots := 0, locals := 0 } : Room).cells ({ frames := 0, cells := 0, slots := 0, locals := 0 } : Room).slots) := by
  refine MetFree.of_bodySF (plainFor_of_name pn_0) hisR ?_
  intro p e s m args below meth c s₁ Bd hml0 hP hK
  obtain ⟨rfl, hZ, hh⟩ := hP
  have hx := Bd.exec
  have hby := Bd.bytes
  have hml : c.maxLocals = 1 := hml0
  have hown : s.vm.findClass "com/example/consent/consent/model/Truth" = some m.cls := findClass_of_methodNamed Bd.named
  have hnm := (name_of_methodNamed Bd.named Bd.method).1
  have X0 : Stand p l e ({ frames := 0, cells := 0, slots := 0, locals := 0 } : Room) s m #[(.int (0 : Int32))] below meth c s₁ [] 0 0 := Stand.of_body Bd
  have e0 : s₁.heap = h0 := by rw [← hh, Bd.state]; rfl
  have N0 := Fr.nil n0
  have pre0 : ∀ t, Steps p.tables e below (s₁.setTop (mkF m 0 #[.val (.int (0 : Int32))] [])) t → Steps p.tables e below (s₁.setTop (entryFrame m #[(.int (0 : Int32))] 1)) t := fun t k => castTop (ef_rm1_0 m ((0 : Int32))) k
  obtain ⟨S_FALSE, E_FALSE, S_TRUE, E_TRUE, S_UNKNOWN, E_UNKNOWN, F_FALSE_ordinal, F_UNKNOWN_ordinal, F_TRUE_ordinal⟩ := WD
  obtain ⟨T1, X1, e1, st1⟩ := getS2 X0 hx hZ hown (host := "") (Or.inl (hw _ (List.mem_of_getElem? (i := 4) rfl))) Via.refl e0 S_FALSE (g := (mkF m 10 #[.val (.int (0 : Int32))] [])) rfl (hb hby d1_10)
  obtain ⟨fs, hr, hrun, hended, hW, hsame⟩ := X1.leave (v := some (.ref w_FALSE)) (fun h => by rw [Bd.returns] at h; cases h)
  refine ⟨_, _, pre0 _ ?_, hrun, hended, _, _, rfl, ?_, ⟨_, rfl⟩, hW, hsame.mono (by decide) (by decide)⟩
  · show Steps p.tables e below (s₁.setTop (mkF m 0 #[.val (.int (0 : Int32))] [])) _
    refine XS.iloadN X0.here hx rfl (hb hby d1_0) rfl ?_
    show Steps p.tables e below (s₁.setTop (mkF m 1 #[.val (.int (0 : Int32))] [(.int (0 : Int32))])) _
    refine XS.ifYes X0.here hx rfl (pc0 := 1) (pc' := 10) rfl (hb hby d1_1) rfl ((if0 _ _).trans (teq (by decide : (0 : Int32) = (0 : Int32))).1) (by decide) (by decide) ?_
    show Steps p.tables e below (s₁.setTop (mkF m 10 #[.val (.int (0 : Int32))] [])) _
    refine st1 _ ?_
    show Steps p.tables e below (T1.setTop (mkF m 13 #[.val (.int (0 : Int32))] [(.ref w_FALSE)])) _
    jvm_step X1.here [X1.here.top, hx, (hb hby d1_13), X1.method', Bd.returns, Value.isRef, FieldType.isReference]
    first | (intro acts; rw [hr _ acts rfl rfl rfl]) | rw [hr _ _ rfl rfl rfl]
    exact Steps.refl _
  · show Q_rm1_0 Z w_FALSE w_TRUE w_UNKNOWN h0 n0 _ T1.heap _
    rw [e1]
    exact ⟨rfl, N0, rfl⟩
theorem ef_rm1_1 (m : MethodId) (x0 : Int32) : entryFrame m #[(.int x0)] 1 = mkF m 0 #[.val (.int x0)] [] := by first | (simp [entryFrame, mkF, argsToLocals, Value.category]; done) | rfl
def Q_rm1_1 (Z : State) (w_FALSE : Addr) (w_TRUE : Addr) (w_UNKNOWN : Addr) (h0 : Heap) (n0 : Nat) (v : Option Value) (h : Heap) (L : List Loc) : Prop := v = some (.ref w_TRUE) ∧ Fr n0 L ∧ h = h0
set_option maxRecDepth 65536 in
set_option maxHeartbeats 40000000 in
theorem rm1_1 (l : Launch) (Z : State) (a0 : Array Value) (hw : ∀ d ∈ tables_1, d.before a0 Z = true) (ws : List Jvm.Cond) (w_FALSE : Addr) (w_TRUE : Addr) (w_UNKNOWN : Addr) (h0 : Heap) (n0 : Nat) (Z0 : n0 ≤ h0.size) (WD : World Z h0 w_FALSE w_TRUE w_UNKNOWN) :
    MetFree l (⟨"com/example/consent/consent/model/Truth", "of", "(Z)Lcom/example/consent/consent/model/Truth;"⟩ : MethodName) (head1 (Jvm.Cond.code (⟨"com/example/consent/consent/model/Truth", "of", "(Z)Lcom/example/consent/consent/model/Truth;"⟩ : MethodName) prog_38_method_4_code 1 (some (.object "com/example/consent/consent/model/Truth")) :: ws) ({ frames := 0, cells := 0, slots := 0, locals := 0 } : Room)) (fun a U => a = #[(.int (1 : Int32))] ∧ Z.Warmed39 U.vm ∧ U.heap = h0) (fun _ _ _ _ _ => True) (fun _ U o U' => ∃ v L, o = .returned v ∧ Q_rm1_1 Z w_FALSE w_TRUE w_UNKNOWN h0 n0 v U'.heap L ∧ FrameEnd U o U' L ({ frames := 0, cells := 0, slots := 0, locals := 0 } : Room).cells ({ frames := 0, cells := 0, slots := 0, locals := 0 } : Room).slots) := by
  refine MetFree.of_bodySF (plainFor_of_name pn_0) hisR ?_
  intro p e s m args below meth c s₁ Bd hml0 hP hK
  obtain ⟨rfl, hZ, hh⟩ := hP
  have hx := Bd.exec
  have hby := Bd.bytes
  have hml : c.maxLocals = 1 := hml0
  have hown : s.vm.findClass "com/example/consent/consent/model/Truth" = some m.cls := findClass_of_methodNamed Bd.named
  have hnm := (name_of_methodNamed Bd.named Bd.method).1
  have X0 : Stand p l e ({ frames := 0, cells := 0, slots := 0, locals := 0 } : Room) s m #[(.int (1 : Int32))] below meth c s₁ [] 0 0 := Stand.of_body Bd
  have e0 : s₁.heap = h0 := by rw [← hh, Bd.state]; rfl
  have N0 := Fr.nil n0
  have pre0 : ∀ t, Steps p.tables e below (s₁.setTop (mkF m 0 #[.val (.int (1 : Int32))] [])) t → Steps p.tables e below (s₁.setTop (entryFrame m #[(.int (1 : Int32))] 1)) t := fun t k => castTop (ef_rm1_1 m ((1 : Int32))) k
  obtain ⟨S_FALSE, E_FALSE, S_TRUE, E_TRUE, S_UNKNOWN, E_UNKNOWN, F_FALSE_ordinal, F_UNKNOWN_ordinal, F_TRUE_ordinal⟩ := WD
  obtain ⟨T1, X1, e1, st1⟩ := getS2 X0 hx hZ hown (host := "") (Or.inl (hw _ (List.mem_of_getElem? (i := 6) rfl))) Via.refl e0 S_TRUE (g := (mkF m 4 #[.val (.int (1 : Int32))] [])) rfl (hb hby d1_4)
  obtain ⟨fs, hr, hrun, hended, hW, hsame⟩ := X1.leave (v := some (.ref w_TRUE)) (fun h => by rw [Bd.returns] at h; cases h)
  refine ⟨_, _, pre0 _ ?_, hrun, hended, _, _, rfl, ?_, ⟨_, rfl⟩, hW, hsame.mono (by decide) (by decide)⟩
  · show Steps p.tables e below (s₁.setTop (mkF m 0 #[.val (.int (1 : Int32))] [])) _
    refine XS.iloadN X0.here hx rfl (hb hby d1_0) rfl ?_
    show Steps p.tables e below (s₁.setTop (mkF m 1 #[.val (.int (1 : Int32))] [(.int (1 : Int32))])) _
    refine XS.ifNo X0.here hx rfl (hb hby d1_1) rfl ((if0 _ _).trans (feq (by decide : ¬ ((1 : Int32) = (0 : Int32)))).1) ?_
    show Steps p.tables e below (s₁.setTop (mkF m 4 #[.val (.int (1 : Int32))] [])) _
    refine st1 _ ?_
    show Steps p.tables e below (T1.setTop (mkF m 7 #[.val (.int (1 : Int32))] [(.ref w_TRUE)])) _
    refine XS.goto X1.here hx rfl (pc0 := 7) (pc' := 13) rfl (hb hby d1_7) (by decide) (by decide) ?_
    show Steps p.tables e below (T1.setTop (mkF m 13 #[.val (.int (1 : Int32))] [(.ref w_TRUE)])) _
    jvm_step X1.here [X1.here.top, hx, (hb hby d1_13), X1.method', Bd.returns, Value.isRef, FieldType.isReference]
    first | (intro acts; rw [hr _ acts rfl rfl rfl]) | rw [hr _ _ rfl rfl rfl]
    exact Steps.refl _
  · show Q_rm1_1 Z w_FALSE w_TRUE w_UNKNOWN h0 n0 _ T1.heap _
    rw [e1]
    exact ⟨rfl, N0, rfl⟩
theorem d2_0 : decode prog_38_method_5_code 0 = .ok (.aload_n 0, 1) := by decide +kernel
theorem d2_1 : decode prog_38_method_5_code 1 = .ok (.getstatic 7, 3) := by decide +kernel
theorem d2_4 : decode prog_38_method_5_code 4 = .ok (.if_acmp .eq 10, 3) := by decide +kernel
theorem d2_7 : decode prog_38_method_5_code 7 = .ok (.aload_n 1, 1) := by decide +kernel
theorem d2_8 : decode prog_38_method_5_code 8 = .ok (.getstatic 7, 3) := by decide +kernel
theorem d2_11 : decode prog_38_method_5_code 11 = .ok (.if_acmp .ne 10, 3) := by decide +kernel
theorem d2_14 : decode prog_38_method_5_code 14 = .ok (.getstatic 7, 3) := by decide +kernel
theorem d2_17 : decode prog_38_method_5_code 17 = .ok (.astore_n 2, 1) := by decide +kernel
theorem d2_18 : decode prog_38_method_5_code 18 = .ok (.goto 28, 3) := by decide +kernel
theorem d2_21 : decode prog_38_method_5_code 21 = .ok (.aload_n 0, 1) := by decide +kernel
theorem d2_22 : decode prog_38_method_5_code 22 = .ok (.getstatic 10, 3) := by decide +kernel
theorem d2_25 : decode prog_38_method_5_code 25 = .ok (.if_acmp .eq 10, 3) := by decide +kernel
theorem d2_28 : decode prog_38_method_5_code 28 = .ok (.aload_n 1, 1) := by decide +kernel
theorem d2_29 : decode prog_38_method_5_code 29 = .ok (.getstatic 10, 3) := by decide +kernel
theorem d2_32 : decode prog_38_method_5_code 32 = .ok (.if_acmp .ne 10, 3) := by decide +kernel
theorem d2_35 : decode prog_38_method_5_code 35 = .ok (.getstatic 10, 3) := by decide +kernel
theorem d2_38 : decode prog_38_method_5_code 38 = .ok (.astore_n 2, 1) := by decide +kernel
theorem d2_39 : decode prog_38_method_5_code 39 = .ok (.goto 7, 3) := by decide +kernel
theorem d2_42 : decode prog_38_method_5_code 42 = .ok (.getstatic 3, 3) := by decide +kernel
theorem d2_45 : decode prog_38_method_5_code 45 = .ok (.astore_n 2, 1) := by decide +kernel
theorem d2_46 : decode prog_38_method_5_code 46 = .ok (.aload_n 2, 1) := by decide +kernel
theorem d2_47 : decode prog_38_method_5_code 47 = .ok (.areturn, 1) := by decide +kernel
theorem ef_rm2 (m : MethodId) (x0 : Addr) (x1 : Addr) : entryFrame m #[(.ref x0), (.ref x1)] 3 = mkF m 0 #[.val (.ref x0), .val (.ref x1), .unset] [] := by first | (simp [entryFrame, mkF, argsToLocals, Value.category]; done) | rfl
def Q_rm2 (Z : State) (a1 : Addr) (a2 : Addr) (w_FALSE : Addr) (w_TRUE : Addr) (w_UNKNOWN : Addr) (h0 : Heap) (n0 : Nat) (v : Option Value) (h : Heap) (L : List Loc) : Prop := v = some (.ref (own_and a1 a2 w_FALSE w_UNKNOWN w_TRUE)) ∧ Fr n0 L ∧ h = h0
set_option maxRecDepth 65536 in
set_option maxHeartbeats 40000000 in
theorem rm2 (l : Launch) (Z : State) (a0 : Array Value) (hw : ∀ d ∈ tables_1, d.before a0 Z = true) (ws : List Jvm.Cond) (a1 : Addr) (a2 : Addr) (w_FALSE : Addr) (w_TRUE : Addr) (w_UNKNOWN : Addr) (h0 : Heap) (n0 : Nat) (Z0 : n0 ≤ h0.size) (WD : World Z h0 w_FALSE w_TRUE w_UNKNOWN) :
    MetFree l (⟨"com/example/consent/consent/model/Truth", "and", "(Lcom/example/consent/consent/model/Truth;)Lcom/example/consent/consent/model/Truth;"⟩ : MethodName) (head1 (Jvm.Cond.code (⟨"com/example/consent/consent/model/Truth", "and", "(Lcom/example/consent/consent/model/Truth;)Lcom/example/consent/consent/model/Truth;"⟩ : MethodName) prog_38_method_5_code 3 (some (.object "com/example/consent/consent/model/Truth")) :: ws) ({ frames := 0, cells := 0, slots := 0, locals := 0 } : Room)) (fun a U => a = #[(.ref a1), (.ref a2)] ∧ Z.Warmed39 U.vm ∧ U.heap = h0) (fun _ _ _ _ _ => True) (fun _ U o U' => ∃ v L, o = .returned v ∧ Q_rm2 Z a1 a2 w_FALSE w_TRUE w_UNKNOWN h0 n0 v U'.heap L ∧ FrameEnd U o U' L ({ frames := 0, cells := 0, slots := 0, locals := 0 } : Room).cells ({ frames := 0, cells := 0, slots := 0, locals := 0 } : Room).slots) := by
  refine MetFree.of_bodySF (plainFor_of_name pn_0) hisR ?_
  intro p e s m args below meth c s₁ Bd hml0 hP hK
  obtain ⟨rfl, hZ, hh⟩ := hP
  have hx := Bd.exec
  have hby := Bd.bytes
  have hml : c.maxLocals = 3 := hml0
  have hown : s.vm.findClass "com/example/consent/consent/model/Truth" = some m.cls := findClass_of_methodNamed Bd.named
  have hnm := (name_of_methodNamed Bd.named Bd.method).1
  have X0 : Stand p l e ({ frames := 0, cells := 0, slots := 0, locals := 0 } : Room) s m #[(.ref a1), (.ref a2)] below meth c s₁ [] 0 0 := Stand.of_body Bd
  have e0 : s₁.heap = h0 := by rw [← hh, Bd.state]; rfl
  have N0 := Fr.nil n0
  have pre0 : ∀ t, Steps p.tables e below (s₁.setTop (mkF m 0 #[.val (.ref a1), .val (.ref a2), .unset] [])) t → Steps p.tables e below (s₁.setTop (entryFrame m #[(.ref a1), (.ref a2)] 3)) t := fun t k => castTop (ef_rm2 m (a1) (a2)) k
  obtain ⟨S_FALSE, E_FALSE, S_TRUE, E_TRUE, S_UNKNOWN, E_UNKNOWN, F_FALSE_ordinal, F_UNKNOWN_ordinal, F_TRUE_ordinal⟩ := WD
  obtain ⟨T1, X1, e1, st1⟩ := getS2 X0 hx hZ hown (host := "") (Or.inl (hw _ (List.mem_of_getElem? (i := 4) rfl))) Via.refl e0 S_FALSE (g := (mkF m 1 #[.val (.ref a1), .val (.ref a2), .unset] [(.ref a1)])) rfl (hb hby d2_1)
  by_cases hc2 : a1 = w_FALSE
  · obtain ⟨T3, X3, e3, st3⟩ := getS2 X1 hx hZ hown (host := "") (Or.inl (hw _ (List.mem_of_getElem? (i := 4) rfl))) Via.refl e1 S_FALSE (g := (mkF m 14 #[.val (.ref a1), .val (.ref a2), .unset] [])) rfl (hb hby d2_14)
    obtain ⟨fs, hr, hrun, hended, hW, hsame⟩ := X3.leave (v := some (.ref w_FALSE)) (fun h => by rw [Bd.returns] at h; cases h)
    refine ⟨_, _, pre0 _ ?_, hrun, hended, _, _, rfl, ?_, ⟨_, rfl⟩, hW, hsame.mono (by decide) (by decide)⟩
    · show Steps p.tables e below (s₁.setTop (mkF m 0 #[.val (.ref a1), .val (.ref a2), .unset] [])) _
      refine XS.aloadN X0.here hx rfl (hb hby d2_0) rfl rfl ?_
      show Steps p.tables e below (s₁.setTop (mkF m 1 #[.val (.ref a1), .val (.ref a2), .unset] [(.ref a1)])) _
      refine st1 _ ?_
      show Steps p.tables e below (T1.setTop (mkF m 4 #[.val (.ref a1), .val (.ref a2), .unset] [(.ref w_FALSE), (.ref a1)])) _
      refine Jvm.RoadKit.acmp (g := (mkF m 4 #[.val (.ref a1), .val (.ref a2), .unset] [(.ref w_FALSE), (.ref a1)])) X1 hx rfl rfl rfl (pc0 := 4) (pc' := 14) (same := true) rfl (hb hby d2_4) rfl (decide_eq_true (congrArg Value.ref hc2)) (by decide) (by decide) ?_
      show Steps p.tables e below (T1.setTop (mkF m 14 #[.val (.ref a1), .val (.ref a2), .unset] [])) _
      refine st3 _ ?_
      show Steps p.tables e below (T3.setTop (mkF m 17 #[.val (.ref a1), .val (.ref a2), .unset] [(.ref w_FALSE)])) _
      refine XS.astoreN X3.here hx rfl (hb hby d2_17) rfl rfl (l' := #[.val (.ref a1), .val (.ref a2), .val (.ref w_FALSE)]) rfl ?_
      show Steps p.tables e below (T3.setTop (mkF m 18 #[.val (.ref a1), .val (.ref a2), .val (.ref w_FALSE)] [])) _
      refine XS.goto X3.here hx rfl (pc0 := 18) (pc' := 46) rfl (hb hby d2_18) (by decide) (by decide) ?_
      show Steps p.tables e below (T3.setTop (mkF m 46 #[.val (.ref a1), .val (.ref a2), .val (.ref w_FALSE)] [])) _
      refine XS.aloadN X3.here hx rfl (hb hby d2_46) rfl rfl ?_
      show Steps p.tables e below (T3.setTop (mkF m 47 #[.val (.ref a1), .val (.ref a2), .val (.ref w_FALSE)] [(.ref w_FALSE)])) _
      jvm_step X3.here [X3.here.top, hx, (hb hby d2_47), X3.method', Bd.returns, Value.isRef, FieldType.isReference]
      first | (intro acts; rw [hr _ acts rfl rfl rfl]) | rw [hr _ _ rfl rfl rfl]
      exact Steps.refl _
    · show Q_rm2 Z a1 a2 w_FALSE w_TRUE w_UNKNOWN h0 n0 _ T3.heap _
      rw [e3]
      exact ⟨(by simp [own_and, hc2]), N0, rfl⟩
  · obtain ⟨T4, X4, e4, st4⟩ := getS2 X1 hx hZ hown (host := "") (Or.inl (hw _ (List.mem_of_getElem? (i := 4) rfl))) Via.refl e1 S_FALSE (g := (mkF m 8 #[.val (.ref a1), .val (.ref a2), .unset] [(.ref a2)])) rfl (hb hby d2_8)
    by_cases hc5 : a2 = w_FALSE
    · obtain ⟨T6, X6, e6, st6⟩ := getS2 X4 hx hZ hown (host := "") (Or.inl (hw _ (List.mem_of_getElem? (i := 4) rfl))) Via.refl e4 S_FALSE (g := (mkF m 14 #[.val (.ref a1), .val (.ref a2), .unset] [])) rfl (hb hby d2_14)
      obtain ⟨fs, hr, hrun, hended, hW, hsame⟩ := X6.leave (v := some (.ref w_FALSE)) (fun h => by rw [Bd.returns] at h; cases h)
      refine ⟨_, _, pre0 _ ?_, hrun, hended, _, _, rfl, ?_, ⟨_, rfl⟩, hW, hsame.mono (by decide) (by decide)⟩
      · show Steps p.tables e below (s₁.setTop (mkF m 0 #[.val (.ref a1), .val (.ref a2), .unset] [])) _
        refine XS.aloadN X0.here hx rfl (hb hby d2_0) rfl rfl ?_
        show Steps p.tables e below (s₁.setTop (mkF m 1 #[.val (.ref a1), .val (.ref a2), .unset] [(.ref a1)])) _
        refine st1 _ ?_
        show Steps p.tables e below (T1.setTop (mkF m 4 #[.val (.ref a1), .val (.ref a2), .unset] [(.ref w_FALSE), (.ref a1)])) _
        refine Jvm.RoadKit.acmp (g := (mkF m 4 #[.val (.ref a1), .val (.ref a2), .unset] [(.ref w_FALSE), (.ref a1)])) X1 hx rfl rfl rfl (pc0 := 4) (pc' := 7) (same := false) rfl (hb hby d2_4) rfl (decide_eq_false fun q => hc2 (Value.ref.inj q)) (by decide) (by decide) ?_
        show Steps p.tables e below (T1.setTop (mkF m 7 #[.val (.ref a1), .val (.ref a2), .unset] [])) _
        refine XS.aloadN X1.here hx rfl (hb hby d2_7) rfl rfl ?_
        show Steps p.tables e below (T1.setTop (mkF m 8 #[.val (.ref a1), .val (.ref a2), .unset] [(.ref a2)])) _
        refine st4 _ ?_
        show Steps p.tables e below (T4.setTop (mkF m 11 #[.val (.ref a1), .val (.ref a2), .unset] [(.ref w_FALSE), (.ref a2)])) _
        refine Jvm.RoadKit.acmp (g := (mkF m 11 #[.val (.ref a1), .val (.ref a2), .unset] [(.ref w_FALSE), (.ref a2)])) X4 hx rfl rfl rfl (pc0 := 11) (pc' := 14) (same := true) rfl (hb hby d2_11) rfl (decide_eq_true (congrArg Value.ref hc5)) (by decide) (by decide) ?_
        show Steps p.tables e below (T4.setTop (mkF m 14 #[.val (.ref a1), .val (.ref a2), .unset] [])) _
        refine st6 _ ?_
        show Steps p.tables e below (T6.setTop (mkF m 17 #[.val (.ref a1), .val (.ref a2), .unset] [(.ref w_FALSE)])) _
        refine XS.astoreN X6.here hx rfl (hb hby d2_17) rfl rfl (l' := #[.val (.ref a1), .val (.ref a2), .val (.ref w_FALSE)]) rfl ?_
        show Steps p.tables e below (T6.setTop (mkF m 18 #[.val (.ref a1), .val (.ref a2), .val (.ref w_FALSE)] [])) _
        refine XS.goto X6.here hx rfl (pc0 := 18) (pc' := 46) rfl (hb hby d2_18) (by decide) (by decide) ?_
        show Steps p.tables e below (T6.setTop (mkF m 46 #[.val (.ref a1), .val (.ref a2), .val (.ref w_FALSE)] [])) _
        refine XS.aloadN X6.here hx rfl (hb hby d2_46) rfl rfl ?_
        show Steps p.tables e below (T6.setTop (mkF m 47 #[.val (.ref a1), .val (.ref a2), .val (.ref w_FALSE)] [(.ref w_FALSE)])) _
        jvm_step X6.here [X6.here.top, hx, (hb hby d2_47), X6.method', Bd.returns, Value.isRef, FieldType.isReference]
        first | (intro acts; rw [hr _ acts rfl rfl rfl]) | rw [hr _ _ rfl rfl rfl]
        exact Steps.refl _
      · show Q_rm2 Z a1 a2 w_FALSE w_TRUE w_UNKNOWN h0 n0 _ T6.heap _
        rw [e6]
        exact ⟨(by simp [own_and, hc2, hc5]), N0, rfl⟩
    · obtain ⟨T7, X7, e7, st7⟩ := getS2 X4 hx hZ hown (host := "") (Or.inl (hw _ (List.mem_of_getElem? (i := 16) rfl))) Via.refl e4 S_UNKNOWN (g := (mkF m 22 #[.val (.ref a1), .val (.ref a2), .unset] [(.ref a1)])) rfl (hb hby d2_22)
      by_cases hc8 : a1 = w_UNKNOWN
      · obtain ⟨T9, X9, e9, st9⟩ := getS2 X7 hx hZ hown (host := "") (Or.inl (hw _ (List.mem_of_getElem? (i := 16) rfl))) Via.refl e7 S_UNKNOWN (g := (mkF m 35 #[.val (.ref a1), .val (.ref a2), .unset] [])) rfl (hb hby d2_35)
        obtain ⟨fs, hr, hrun, hended, hW, hsame⟩ := X9.leave (v := some (.ref w_UNKNOWN)) (fun h => by rw [Bd.returns] at h; cases h)
        refine ⟨_, _, pre0 _ ?_, hrun, hended, _, _, rfl, ?_, ⟨_, rfl⟩, hW, hsame.mono (by decide) (by decide)⟩
        · show Steps p.tables e below (s₁.setTop (mkF m 0 #[.val (.ref a1), .val (.ref a2), .unset] [])) _
          refine XS.aloadN X0.here hx rfl (hb hby d2_0) rfl rfl ?_
          show Steps p.tables e below (s₁.setTop (mkF m 1 #[.val (.ref a1), .val (.ref a2), .unset] [(.ref a1)])) _
          refine st1 _ ?_
          show Steps p.tables e below (T1.setTop (mkF m 4 #[.val (.ref a1), .val (.ref a2), .unset] [(.ref w_FALSE), (.ref a1)])) _
          refine Jvm.RoadKit.acmp (g := (mkF m 4 #[.val (.ref a1), .val (.ref a2), .unset] [(.ref w_FALSE), (.ref a1)])) X1 hx rfl rfl rfl (pc0 := 4) (pc' := 7) (same := false) rfl (hb hby d2_4) rfl (decide_eq_false fun q => hc2 (Value.ref.inj q)) (by decide) (by decide) ?_
          show Steps p.tables e below (T1.setTop (mkF m 7 #[.val (.ref a1), .val (.ref a2), .unset] [])) _
          refine XS.aloadN X1.here hx rfl (hb hby d2_7) rfl rfl ?_
          show Steps p.tables e below (T1.setTop (mkF m 8 #[.val (.ref a1), .val (.ref a2), .unset] [(.ref a2)])) _
          refine st4 _ ?_
          show Steps p.tables e below (T4.setTop (mkF m 11 #[.val (.ref a1), .val (.ref a2), .unset] [(.ref w_FALSE), (.ref a2)])) _
          refine Jvm.RoadKit.acmp (g := (mkF m 11 #[.val (.ref a1), .val (.ref a2), .unset] [(.ref w_FALSE), (.ref a2)])) X4 hx rfl rfl rfl (pc0 := 11) (pc' := 21) (same := false) rfl (hb hby d2_11) rfl (decide_eq_false fun q => hc5 (Value.ref.inj q)) (by decide) (by decide) ?_
          show Steps p.tables e below (T4.setTop (mkF m 21 #[.val (.ref a1), .val (.ref a2), .unset] [])) _
          refine XS.aloadN X4.here hx rfl (hb hby d2_21) rfl rfl ?_
          show Steps p.tables e below (T4.setTop (mkF m 22 #[.val (.ref a1), .val (.ref a2), .unset] [(.ref a1)])) _
          refine st7 _ ?_
          show Steps p.tables e below (T7.setTop (mkF m 25 #[.val (.ref a1), .val (.ref a2), .unset] [(.ref w_UNKNOWN), (.ref a1)])) _
          refine Jvm.RoadKit.acmp (g := (mkF m 25 #[.val (.ref a1), .val (.ref a2), .unset] [(.ref w_UNKNOWN), (.ref a1)])) X7 hx rfl rfl rfl (pc0 := 25) (pc' := 35) (same := true) rfl (hb hby d2_25) rfl (decide_eq_true (congrArg Value.ref hc8)) (by decide) (by decide) ?_
          show Steps p.tables e below (T7.setTop (mkF m 35 #[.val (.ref a1), .val (.ref a2), .unset] [])) _
          refine st9 _ ?_
          show Steps p.tables e below (T9.setTop (mkF m 38 #[.val (.ref a1), .val (.ref a2), .unset] [(.ref w_UNKNOWN)])) _
          refine XS.astoreN X9.here hx rfl (hb hby d2_38) rfl rfl (l' := #[.val (.ref a1), .val (.ref a2), .val (.ref w_UNKNOWN)]) rfl ?_
          show Steps p.tables e below (T9.setTop (mkF m 39 #[.val (.ref a1), .val (.ref a2), .val (.ref w_UNKNOWN)] [])) _
          refine XS.goto X9.here hx rfl (pc0 := 39) (pc' := 46) rfl (hb hby d2_39) (by decide) (by decide) ?_
          show Steps p.tables e below (T9.setTop (mkF m 46 #[.val (.ref a1), .val (.ref a2), .val (.ref w_UNKNOWN)] [])) _
          refine XS.aloadN X9.here hx rfl (hb hby d2_46) rfl rfl ?_
          show Steps p.tables e below (T9.setTop (mkF m 47 #[.val (.ref a1), .val (.ref a2), .val (.ref w_UNKNOWN)] [(.ref w_UNKNOWN)])) _
          jvm_step X9.here [X9.here.top, hx, (hb hby d2_47), X9.method', Bd.returns, Value.isRef, FieldType.isReference]
          first | (intro acts; rw [hr _ acts rfl rfl rfl]) | rw [hr _ _ rfl rfl rfl]
          exact Steps.refl _
        · show Q_rm2 Z a1 a2 w_FALSE w_TRUE w_UNKNOWN h0 n0 _ T9.heap _
          rw [e9]
          exact ⟨(by simp [own_and, hc2, hc5, hc8]), N0, rfl⟩
      · obtain ⟨T10, X10, e10, st10⟩ := getS2 X7 hx hZ hown (host := "") (Or.inl (hw _ (List.mem_of_getElem? (i := 16) rfl))) Via.refl e7 S_UNKNOWN (g := (mkF m 29 #[.val (.ref a1), .val (.ref a2), .unset] [(.ref a2)])) rfl (hb hby d2_29)
        by_cases hc11 : a2 = w_UNKNOWN
        · obtain ⟨T12, X12, e12, st12⟩ := getS2 X10 hx hZ hown (host := "") (Or.inl (hw _ (List.mem_of_getElem? (i := 16) rfl))) Via.refl e10 S_UNKNOWN (g := (mkF m 35 #[.val (.ref a1), .val (.ref a2), .unset] [])) rfl (hb hby d2_35)
          obtain ⟨fs, hr, hrun, hended, hW, hsame⟩ := X12.leave (v := some (.ref w_UNKNOWN)) (fun h => by rw [Bd.returns] at h; cases h)
          refine ⟨_, _, pre0 _ ?_, hrun, hended, _, _, rfl, ?_, ⟨_, rfl⟩, hW, hsame.mono (by decide) (by decide)⟩
          · show Steps p.tables e below (s₁.setTop (mkF m 0 #[.val (.ref a1), .val (.ref a2), .unset] [])) _
            refine XS.aloadN X0.here hx rfl (hb hby d2_0) rfl rfl ?_
            show Steps p.tables e below (s₁.setTop (mkF m 1 #[.val (.ref a1), .val (.ref a2), .unset] [(.ref a1)])) _
            refine st1 _ ?_
            show Steps p.tables e below (T1.setTop (mkF m 4 #[.val (.ref a1), .val (.ref a2), .unset] [(.ref w_FALSE), (.ref a1)])) _
            refine Jvm.RoadKit.acmp (g := (mkF m 4 #[.val (.ref a1), .val (.ref a2), .unset] [(.ref w_FALSE), (.ref a1)])) X1 hx rfl rfl rfl (pc0 := 4) (pc' := 7) (same := false) rfl (hb hby d2_4) rfl (decide_eq_false fun q => hc2 (Value.ref.inj q)) (by decide) (by decide) ?_
            show Steps p.tables e below (T1.setTop (mkF m 7 #[.val (.ref a1), .val (.ref a2), .unset] [])) _
            refine XS.aloadN X1.here hx rfl (hb hby d2_7) rfl rfl ?_
            show Steps p.tables e below (T1.setTop (mkF m 8 #[.val (.ref a1), .val (.ref a2), .unset] [(.ref a2)])) _
            refine st4 _ ?_
            show Steps p.tables e below (T4.setTop (mkF m 11 #[.val (.ref a1), .val (.ref a2), .unset] [(.ref w_FALSE), (.ref a2)])) _
            refine Jvm.RoadKit.acmp (g := (mkF m 11 #[.val (.ref a1), .val (.ref a2), .unset] [(.ref w_FALSE), (.ref a2)])) X4 hx rfl rfl rfl (pc0 := 11) (pc' := 21) (same := false) rfl (hb hby d2_11) rfl (decide_eq_false fun q => hc5 (Value.ref.inj q)) (by decide) (by decide) ?_
            show Steps p.tables e below (T4.setTop (mkF m 21 #[.val (.ref a1), .val (.ref a2), .unset] [])) _
            refine XS.aloadN X4.here hx rfl (hb hby d2_21) rfl rfl ?_
            show Steps p.tables e below (T4.setTop (mkF m 22 #[.val (.ref a1), .val (.ref a2), .unset] [(.ref a1)])) _
            refine st7 _ ?_
            show Steps p.tables e below (T7.setTop (mkF m 25 #[.val (.ref a1), .val (.ref a2), .unset] [(.ref w_UNKNOWN), (.ref a1)])) _
            refine Jvm.RoadKit.acmp (g := (mkF m 25 #[.val (.ref a1), .val (.ref a2), .unset] [(.ref w_UNKNOWN), (.ref a1)])) X7 hx rfl rfl rfl (pc0 := 25) (pc' := 28) (same := false) rfl (hb hby d2_25) rfl (decide_eq_false fun q => hc8 (Value.ref.inj q)) (by decide) (by decide) ?_
            show Steps p.tables e below (T7.setTop (mkF m 28 #[.val (.ref a1), .val (.ref a2), .unset] [])) _
            refine XS.aloadN X7.here hx rfl (hb hby d2_28) rfl rfl ?_
            show Steps p.tables e below (T7.setTop (mkF m 29 #[.val (.ref a1), .val (.ref a2), .unset] [(.ref a2)])) _
            refine st10 _ ?_
            show Steps p.tables e below (T10.setTop (mkF m 32 #[.val (.ref a1), .val (.ref a2), .unset] [(.ref w_UNKNOWN), (.ref a2)])) _
            refine Jvm.RoadKit.acmp (g := (mkF m 32 #[.val (.ref a1), .val (.ref a2), .unset] [(.ref w_UNKNOWN), (.ref a2)])) X10 hx rfl rfl rfl (pc0 := 32) (pc' := 35) (same := true) rfl (hb hby d2_32) rfl (decide_eq_true (congrArg Value.ref hc11)) (by decide) (by decide) ?_
            show Steps p.tables e below (T10.setTop (mkF m 35 #[.val (.ref a1), .val (.ref a2), .unset] [])) _
            refine st12 _ ?_
            show Steps p.tables e below (T12.setTop (mkF m 38 #[.val (.ref a1), .val (.ref a2), .unset] [(.ref w_UNKNOWN)])) _
            refine XS.astoreN X12.here hx rfl (hb hby d2_38) rfl rfl (l' := #[.val (.ref a1), .val (.ref a2), .val (.ref w_UNKNOWN)]) rfl ?_
            show Steps p.tables e below (T12.setTop (mkF m 39 #[.val (.ref a1), .val (.ref a2), .val (.ref w_UNKNOWN)] [])) _
            refine XS.goto X12.here hx rfl (pc0 := 39) (pc' := 46) rfl (hb hby d2_39) (by decide) (by decide) ?_
            show Steps p.tables e below (T12.setTop (mkF m 46 #[.val (.ref a1), .val (.ref a2), .val (.ref w_UNKNOWN)] [])) _
            refine XS.aloadN X12.here hx rfl (hb hby d2_46) rfl rfl ?_
            show Steps p.tables e below (T12.setTop (mkF m 47 #[.val (.ref a1), .val (.ref a2), .val (.ref w_UNKNOWN)] [(.ref w_UNKNOWN)])) _
            jvm_step X12.here [X12.here.top, hx, (hb hby d2_47), X12.method', Bd.returns, Value.isRef, FieldType.isReference]
            first | (intro acts; rw [hr _ acts rfl rfl rfl]) | rw [hr _ _ rfl rfl rfl]
            exact Steps.refl _
          · show Q_rm2 Z a1 a2 w_FALSE w_TRUE w_UNKNOWN h0 n0 _ T12.heap _
            rw [e12]
            exact ⟨(by simp [own_and, hc2, hc5, hc8, hc11]), N0, rfl⟩
        · obtain ⟨T13, X13, e13, st13⟩ := getS2 X10 hx hZ hown (host := "") (Or.inl (hw _ (List.mem_of_getElem? (i := 6) rfl))) Via.refl e10 S_TRUE (g := (mkF m 42 #[.val (.ref a1), .val (.ref a2), .unset] [])) rfl (hb hby d2_42)
          obtain ⟨fs, hr, hrun, hended, hW, hsame⟩ := X13.leave (v := some (.ref w_TRUE)) (fun h => by rw [Bd.returns] at h; cases h)
          refine ⟨_, _, pre0 _ ?_, hrun, hended, _, _, rfl, ?_, ⟨_, rfl⟩, hW, hsame.mono (by decide) (by decide)⟩
          · show Steps p.tables e below (s₁.setTop (mkF m 0 #[.val (.ref a1), .val (.ref a2), .unset] [])) _
            refine XS.aloadN X0.here hx rfl (hb hby d2_0) rfl rfl ?_
            show Steps p.tables e below (s₁.setTop (mkF m 1 #[.val (.ref a1), .val (.ref a2), .unset] [(.ref a1)])) _
            refine st1 _ ?_
            show Steps p.tables e below (T1.setTop (mkF m 4 #[.val (.ref a1), .val (.ref a2), .unset] [(.ref w_FALSE), (.ref a1)])) _
            refine Jvm.RoadKit.acmp (g := (mkF m 4 #[.val (.ref a1), .val (.ref a2), .unset] [(.ref w_FALSE), (.ref a1)])) X1 hx rfl rfl rfl (pc0 := 4) (pc' := 7) (same := false) rfl (hb hby d2_4) rfl (decide_eq_false fun q => hc2 (Value.ref.inj q)) (by decide) (by decide) ?_
            show Steps p.tables e below (T1.setTop (mkF m 7 #[.val (.ref a1), .val (.ref a2), .unset] [])) _
            refine XS.aloadN X1.here hx rfl (hb hby d2_7) rfl rfl ?_
            show Steps p.tables e below (T1.setTop (mkF m 8 #[.val (.ref a1), .val (.ref a2), .unset] [(.ref a2)])) _
            refine st4 _ ?_
            show Steps p.tables e below (T4.setTop (mkF m 11 #[.val (.ref a1), .val (.ref a2), .unset] [(.ref w_FALSE), (.ref a2)])) _
            refine Jvm.RoadKit.acmp (g := (mkF m 11 #[.val (.ref a1), .val (.ref a2), .unset] [(.ref w_FALSE), (.ref a2)])) X4 hx rfl rfl rfl (pc0 := 11) (pc' := 21) (same := false) rfl (hb hby d2_11) rfl (decide_eq_false fun q => hc5 (Value.ref.inj q)) (by decide) (by decide) ?_
            show Steps p.tables e below (T4.setTop (mkF m 21 #[.val (.ref a1), .val (.ref a2), .unset] [])) _
            refine XS.aloadN X4.here hx rfl (hb hby d2_21) rfl rfl ?_
            show Steps p.tables e below (T4.setTop (mkF m 22 #[.val (.ref a1), .val (.ref a2), .unset] [(.ref a1)])) _
            refine st7 _ ?_
            show Steps p.tables e below (T7.setTop (mkF m 25 #[.val (.ref a1), .val (.ref a2), .unset] [(.ref w_UNKNOWN), (.ref a1)])) _
            refine Jvm.RoadKit.acmp (g := (mkF m 25 #[.val (.ref a1), .val (.ref a2), .unset] [(.ref w_UNKNOWN), (.ref a1)])) X7 hx rfl rfl rfl (pc0 := 25) (pc' := 28) (same := false) rfl (hb hby d2_25) rfl (decide_eq_false fun q => hc8 (Value.ref.inj q)) (by decide) (by decide) ?_
            show Steps p.tables e below (T7.setTop (mkF m 28 #[.val (.ref a1), .val (.ref a2), .unset] [])) _
            refine XS.aloadN X7.here hx rfl (hb hby d2_28) rfl rfl ?_
            show Steps p.tables e below (T7.setTop (mkF m 29 #[.val (.ref a1), .val (.ref a2), .unset] [(.ref a2)])) _
            refine st10 _ ?_
            show Steps p.tables e below (T10.setTop (mkF m 32 #[.val (.ref a1), .val (.ref a2), .unset] [(.ref w_UNKNOWN), (.ref a2)])) _
            refine Jvm.RoadKit.acmp (g := (mkF m 32 #[.val (.ref a1), .val (.ref a2), .unset] [(.ref w_UNKNOWN), (.ref a2)])) X10 hx rfl rfl rfl (pc0 := 32) (pc' := 42) (same := false) rfl (hb hby d2_32) rfl (decide_eq_false fun q => hc11 (Value.ref.inj q)) (by decide) (by decide) ?_
            show Steps p.tables e below (T10.setTop (mkF m 42 #[.val (.ref a1), .val (.ref a2), .unset] [])) _
            refine st13 _ ?_
            show Steps p.tables e below (T13.setTop (mkF m 45 #[.val (.ref a1), .val (.ref a2), .unset] [(.ref w_TRUE)])) _
            refine XS.astoreN X13.here hx rfl (hb hby d2_45) rfl rfl (l' := #[.val (.ref a1), .val (.ref a2), .val (.ref w_TRUE)]) rfl ?_
            show Steps p.tables e below (T13.setTop (mkF m 46 #[.val (.ref a1), .val (.ref a2), .val (.ref w_TRUE)] [])) _
            refine XS.aloadN X13.here hx rfl (hb hby d2_46) rfl rfl ?_
            show Steps p.tables e below (T13.setTop (mkF m 47 #[.val (.ref a1), .val (.ref a2), .val (.ref w_TRUE)] [(.ref w_TRUE)])) _
            jvm_step X13.here [X13.here.top, hx, (hb hby d2_47), X13.method', Bd.returns, Value.isRef, FieldType.isReference]
            first | (intro acts; rw [hr _ acts rfl rfl rfl]) | rw [hr _ _ rfl rfl rfl]
            exact Steps.refl _
          · show Q_rm2 Z a1 a2 w_FALSE w_TRUE w_UNKNOWN h0 n0 _ T13.heap _
            rw [e13]
            exact ⟨(by simp [own_and, hc2, hc5, hc8, hc11]), N0, rfl⟩
theorem pd_0 : parseMethodDescriptor "(Z)Lcom/example/consent/consent/model/Truth;" = some ⟨[.boolean], some (.object "com/example/consent/consent/model/Truth")⟩ := by decide +kernel
theorem pd_1 : parseMethodDescriptor "(Lcom/example/consent/consent/model/Truth;)Lcom/example/consent/consent/model/Truth;" = some ⟨[(.object "com/example/consent/consent/model/Truth")], some (.object "com/example/consent/consent/model/Truth")⟩ := by decide +kernel
theorem pn_1 : plainName "com/example/consent/consent/model/TruthOfPinLaw" = true := by first | (simp [plainName, overriddenIn]; done) | decide +kernel
theorem ef_rm0 (m : MethodId) (x0 : Int32) (x1 : Int32) : entryFrame m #[(.int x0), (.int x1)] maxLocals = mkF m 0 #[.val (.int x0), .val (.int x1), .unset, .unset, .unset, .unset, .unset] [] := by first | (simp [entryFrame, mkF, argsToLocals, Value.category, maxLocals]; done) | rfl
def Q_rm0 (Z : State) (p0 : Int32) (p1 : Int32) (w_FALSE : Addr) (w_TRUE : Addr) (w_UNKNOWN : Addr) (h0 : Heap) (n0 : Nat) (v : Option Value) (h : Heap) (L : List Loc) : Prop := v = some (.int (1 : Int32)) ∧ Fr n0 L ∧ h = h0
set_option maxRecDepth 65536 in
set_option maxHeartbeats 40000000 in
theorem rm0 (l : Launch) (Z : State) (a0 : Array Value) (hw : ∀ d ∈ tables_1, d.before a0 Z = true) (ws : List Jvm.Cond) (p0 : Int32) (p1 : Int32) (w_FALSE : Addr) (w_TRUE : Addr) (w_UNKNOWN : Addr) (h0 : Heap) (n0 : Nat) (Z0 : n0 ≤ h0.size) (WD : World Z h0 w_FALSE w_TRUE w_UNKNOWN) :
    MetFree l x (head1 (Jvm.Cond.code x code maxLocals ret :: ws) room_1) (fun a U => a = #[(.int p0), (.int p1)] ∧ Z.Warmed39 U.vm ∧ U.heap = h0) (fun _ _ _ _ _ => True) (fun _ U o U' => ∃ v L, o = .returned v ∧ Q_rm0 Z p0 p1 w_FALSE w_TRUE w_UNKNOWN h0 n0 v U'.heap L ∧ FrameEnd U o U' L room_1.cells room_1.slots) := by
  refine MetFree.of_bodySF (plainFor_of_name pn_1) hisR ?_
  intro p e s m args below meth c s₁ Bd hml0 hP hK
  obtain ⟨rfl, hZ, hh⟩ := hP
  have hx := Bd.exec
  have hby := Bd.bytes
  have hml : c.maxLocals = 7 := hml0
  have hown : s.vm.findClass "com/example/consent/consent/model/TruthOfPinLaw" = some m.cls := findClass_of_methodNamed Bd.named
  have hnm := (name_of_methodNamed Bd.named Bd.method).1
  have X0 : Stand p l e room_1 s m #[(.int p0), (.int p1)] below meth c s₁ [] 0 0 := Stand.of_body Bd
  have e0 : s₁.heap = h0 := by rw [← hh, Bd.state]; rfl
  have N0 := Fr.nil n0
  have pre0 : ∀ t, Steps p.tables e below (s₁.setTop (mkF m 0 #[.val (.int p0), .val (.int p1), .unset, .unset, .unset, .unset, .unset] [])) t → Steps p.tables e below (s₁.setTop (entryFrame m #[(.int p0), (.int p1)] maxLocals)) t := fun t k => castTop (ef_rm0 m (p0) (p1)) k
  obtain ⟨S_FALSE, E_FALSE, S_TRUE, E_TRUE, S_UNKNOWN, E_UNKNOWN, F_FALSE_ordinal, F_UNKNOWN_ordinal, F_TRUE_ordinal⟩ := id WD
  have ne_FALSE_UNKNOWN : ¬ (w_FALSE = w_UNKNOWN) := own_ne F_FALSE_ordinal F_UNKNOWN_ordinal (by decide)
  have ne_FALSE_TRUE : ¬ (w_FALSE = w_TRUE) := own_ne F_FALSE_ordinal F_TRUE_ordinal (by decide)
  have ne_UNKNOWN_FALSE : ¬ (w_UNKNOWN = w_FALSE) := own_ne F_UNKNOWN_ordinal F_FALSE_ordinal (by decide)
  have ne_UNKNOWN_TRUE : ¬ (w_UNKNOWN = w_TRUE) := own_ne F_UNKNOWN_ordinal F_TRUE_ordinal (by decide)
  have ne_TRUE_FALSE : ¬ (w_TRUE = w_FALSE) := own_ne F_TRUE_ordinal F_FALSE_ordinal (by decide)
  have ne_TRUE_UNKNOWN : ¬ (w_TRUE = w_UNKNOWN) := own_ne F_TRUE_ordinal F_UNKNOWN_ordinal (by decide)
  by_cases hc1 : (p0 &&& (1 : Int32)) = (0 : Int32)
  · by_cases hc2 : (p1 &&& (1 : Int32)) = (0 : Int32)
    · obtain ⟨_, _, ⟨T3, L3, k3, n3⟩, -, X3, ⟨Lc3, hQ3, l3, y3, z3⟩, st3⟩ := Jvm.LawKit.callS X0 hx (y := (⟨"com/example/consent/consent/model/Truth", "of", "(Z)Lcom/example/consent/consent/model/Truth;"⟩ : MethodName)) hown (mvT hZ (hw _ (List.mem_of_getElem? (i := 0) rfl))) (mvT hZ (hw _ (List.mem_of_getElem? (i := 1) rfl))) (mvT hZ (hw _ (List.mem_of_getElem? (i := 2) rfl))) (mvT hZ (hw _ (List.mem_of_getElem? (i := 3) rfl))) (by decide) (backOf (W := 0) (rm1_0 l Z a0 hw [] w_FALSE w_TRUE w_UNKNOWN h0 n0 Z0 WD) hZ (hw _ (List.mem_of_getElem? (i := 3) rfl)) (hw _ (List.mem_of_getElem? (i := 2) rfl)) (by decide) (by decide)) (g := (mkF m 25 #[.val (.int p0), .val (.int p1), .val (.int (0 : Int32)), .val (.int (0 : Int32)), .unset, .unset, .unset] [(.int (0 : Int32))])) rfl (by rw [hml]; rfl) (argsL := [(.int (0 : Int32))]) (rest := []) (lenOf pd_0 rfl) rfl (by show 2 * 0 + _ ≤ _; exact Nat.le_of_eq rfl) (hb hby at_25) (fun _ _ => ⟨rfl, e0, (by decide : 0 + 0 ≤ _), (by decide : 0 + 0 ≤ _)⟩)
      dsimp only [Pt.U, Pt.locs, Pt.cells, Pt.slots] at X3 l3 y3 z3 st3 hQ3
      subst l3 y3 z3
      obtain ⟨rfl, N3q, e3⟩ := hQ3
      have N3 := Fr.app N0 N3q
      obtain ⟨_, _, ⟨T4, L4, k4, n4⟩, -, X4, ⟨Lc4, hQ4, l4, y4, z4⟩, st4⟩ := Jvm.LawKit.callS X3 hx (y := (⟨"com/example/consent/consent/model/Truth", "of", "(Z)Lcom/example/consent/consent/model/Truth;"⟩ : MethodName)) hown (mvT hZ (hw _ (List.mem_of_getElem? (i := 0) rfl))) (mvT hZ (hw _ (List.mem_of_getElem? (i := 1) rfl))) (mvT hZ (hw _ (List.mem_of_getElem? (i := 2) rfl))) (mvT hZ (hw _ (List.mem_of_getElem? (i := 3) rfl))) (by decide) (backOf (W := 0) (rm1_0 l Z a0 hw [] w_FALSE w_TRUE w_UNKNOWN h0 n0 Z0 WD) hZ (hw _ (List.mem_of_getElem? (i := 3) rfl)) (hw _ (List.mem_of_getElem? (i := 2) rfl)) (by decide) (by decide)) (g := (mkF m 31 #[.val (.int p0), .val (.int p1), .val (.int (0 : Int32)), .val (.int (0 : Int32)), .val (.ref w_FALSE), .unset, .unset] [(.int (0 : Int32))])) rfl (by rw [hml]; rfl) (argsL := [(.int (0 : Int32))]) (rest := []) (lenOf pd_0 rfl) rfl (by show 2 * 0 + _ ≤ _; exact Nat.le_of_eq rfl) (hb hby at_31) (fun _ _ => ⟨rfl, e3, (by decide : 0 + 0 ≤ _), (by decide : 0 + 0 ≤ _)⟩)
      dsimp only [Pt.U, Pt.locs, Pt.cells, Pt.slots] at X4 l4 y4 z4 st4 hQ4
      subst l4 y4 z4
      obtain ⟨rfl, N4q, e4⟩ := hQ4
      have N4 := Fr.app N3 N4q
      obtain ⟨_, _, ⟨T5, L5, k5, n5⟩, -, X5, ⟨Lc5, hQ5, l5, y5, z5⟩, st5⟩ := Jvm.LawKit.callS X4 hx (y := (⟨"com/example/consent/consent/model/Truth", "of", "(Z)Lcom/example/consent/consent/model/Truth;"⟩ : MethodName)) hown (mvT hZ (hw _ (List.mem_of_getElem? (i := 0) rfl))) (mvT hZ (hw _ (List.mem_of_getElem? (i := 1) rfl))) (mvT hZ (hw _ (List.mem_of_getElem? (i := 2) rfl))) (mvT hZ (hw _ (List.mem_of_getElem? (i := 3) rfl))) (by decide) (backOf (W := 0) (rm1_0 l Z a0 hw [] w_FALSE w_TRUE w_UNKNOWN h0 n0 Z0 WD) hZ (hw _ (List.mem_of_getElem? (i := 3) rfl)) (hw _ (List.mem_of_getElem? (i := 2) rfl)) (by decide) (by decide)) (g := (mkF m 49 #[.val (.int p0), .val (.int p1), .val (.int (0 : Int32)), .val (.int (0 : Int32)), .val (.ref w_FALSE), .val (.ref w_FALSE), .unset] [(.int (0 : Int32))])) rfl (by rw [hml]; rfl) (argsL := [(.int (0 : Int32))]) (rest := []) (lenOf pd_0 rfl) rfl (by show 2 * 0 + _ ≤ _; exact Nat.le_of_eq rfl) (hb hby at_49) (fun _ _ => ⟨rfl, e4, (by decide : 0 + 0 ≤ _), (by decide : 0 + 0 ≤ _)⟩)
      dsimp only [Pt.U, Pt.locs, Pt.cells, Pt.slots] at X5 l5 y5 z5 st5 hQ5
      subst l5 y5 z5
      obtain ⟨rfl, N5q, e5⟩ := hQ5
      have N5 := Fr.app N4 N5q
      obtain ⟨T6, X6, e6, st6⟩ := getS2 X5 hx hZ hown (host := "") (Or.inl (hw _ (List.mem_of_getElem? (i := 8) rfl))) Via.refl e5 S_UNKNOWN (g := (mkF m 73 #[.val (.int p0), .val (.int p1), .val (.int (0 : Int32)), .val (.int (0 : Int32)), .val (.ref w_FALSE), .val (.ref w_FALSE), .val (.ref w_FALSE)] [(.ref w_FALSE)])) rfl (hb hby at_73)
      obtain ⟨T7, X7, e7, st7⟩ := getS2 X6 hx hZ hown (host := "") (Or.inl (hw _ (List.mem_of_getElem? (i := 8) rfl))) Via.refl e6 S_UNKNOWN (g := (mkF m 81 #[.val (.int p0), .val (.int p1), .val (.int (0 : Int32)), .val (.int (0 : Int32)), .val (.ref w_FALSE), .val (.ref w_FALSE), .val (.ref w_FALSE)] [(.ref w_FALSE)])) rfl (hb hby at_81)
      obtain ⟨T8, X8, e8, st8⟩ := getS2 X7 hx hZ hown (host := "") (Or.inl (hw _ (List.mem_of_getElem? (i := 8) rfl))) Via.refl e7 S_UNKNOWN (g := (mkF m 89 #[.val (.int p0), .val (.int p1), .val (.int (0 : Int32)), .val (.int (0 : Int32)), .val (.ref w_FALSE), .val (.ref w_FALSE), .val (.ref w_FALSE)] [(.ref w_FALSE)])) rfl (hb hby at_89)
      obtain ⟨T9, X9, e9, st9⟩ := getS2 X8 hx hZ hown (host := "") (Or.inl (hw _ (List.mem_of_getElem? (i := 10) rfl))) Via.refl e8 S_TRUE (g := (mkF m 99 #[.val (.int p0), .val (.int p1), .val (.int (0 : Int32)), .val (.int (0 : Int32)), .val (.ref w_FALSE), .val (.ref w_FALSE), .val (.ref w_FALSE)] [(.ref w_FALSE)])) rfl (hb hby at_99)
      obtain ⟨T10, X10, e10, st10⟩ := getS2 X9 hx hZ hown (host := "") (Or.inl (hw _ (List.mem_of_getElem? (i := 10) rfl))) Via.refl e9 S_TRUE (g := (mkF m 118 #[.val (.int p0), .val (.int p1), .val (.int (0 : Int32)), .val (.int (0 : Int32)), .val (.ref w_FALSE), .val (.ref w_FALSE), .val (.ref w_FALSE)] [(.ref w_FALSE)])) rfl (hb hby at_118)
      obtain ⟨cq11, kq11, q11a, q11b, q11c⟩ := isOf hZ e10 E_FALSE
      obtain ⟨_, _, ⟨T11, L11, k11, n11⟩, -, X11, ⟨Lc11, hQ11, l11, y11, z11⟩, st11⟩ := X10.virtualBack hx (y := (⟨"com/example/consent/consent/model/Truth", "and", "(Lcom/example/consent/consent/model/Truth;)Lcom/example/consent/consent/model/Truth;"⟩ : MethodName)) (z := (⟨"com/example/consent/consent/model/Truth", "and", "(Lcom/example/consent/consent/model/Truth;)Lcom/example/consent/consent/model/Truth;"⟩ : MethodName)) hown (mvT hZ (hw _ (List.mem_of_getElem? (i := 11) rfl))) (mvT hZ (hw _ (List.mem_of_getElem? (i := 12) rfl))) (notFace_of_selects (args := #[]) (mvT hZ (hw _ (List.mem_of_getElem? (i := 14) rfl)))) (mvT hZ (hw _ (List.mem_of_getElem? (i := 14) rfl))) (mvT hZ (hw _ (List.mem_of_getElem? (i := 13) rfl))) (by decide) (backOf (W := 0) (rm2 l Z a0 hw [] w_FALSE w_FALSE w_FALSE w_TRUE w_UNKNOWN h0 n0 Z0 WD) hZ (hw _ (List.mem_of_getElem? (i := 15) rfl)) (hw _ (List.mem_of_getElem? (i := 2) rfl)) (by decide) (by decide)) q11a q11c (g := (mkF m 139 #[.val (.int p0), .val (.int p1), .val (.int (0 : Int32)), .val (.int (0 : Int32)), .val (.ref w_FALSE), .val (.ref w_FALSE), .val (.ref w_FALSE)] [(.ref w_FALSE), (.ref w_FALSE)])) rfl (by rw [hml]; rfl) (Steps.refl _) (argsL := [(.ref w_FALSE)]) (rest := []) (lenOf pd_1 rfl) rfl (by show 2 * 0 + _ ≤ _; exact Nat.le_of_eq rfl) (hb hby at_139) (fun _ _ => ⟨rfl, e10, (by decide : 0 + 0 ≤ _), (by decide : 0 + 0 ≤ _)⟩)
      dsimp only [Pt.U, Pt.locs, Pt.cells, Pt.slots] at X11 l11 y11 z11 st11 hQ11
      subst l11 y11 z11
      obtain ⟨rfl, N11q, e11⟩ := hQ11
      have N11 := Fr.app N5 N11q
      obtain ⟨fs, hr, hrun, hended, hW, hsame⟩ := X11.leave (v := some (.int (1 : Int32))) (fun h => by rw [Bd.returns] at h; cases h)
      refine ⟨_, _, pre0 _ ?_, hrun, hended, _, _, rfl, ?_, ⟨_, rfl⟩, hW, hsame.mono (by decide) (by decide)⟩
      · show Steps p.tables e below (s₁.setTop (mkF m 0 #[.val (.int p0), .val (.int p1), .unset, .unset, .unset, .unset, .unset] [])) _
        refine XS.iloadN X0.here hx rfl (hb hby at_0) rfl ?_
        show Steps p.tables e below (s₁.setTop (mkF m 1 #[.val (.int p0), .val (.int p1), .unset, .unset, .unset, .unset, .unset] [(.int p0)])) _
        refine XS.iconst X0.here hx rfl (hb hby at_1) ?_
        show Steps p.tables e below (s₁.setTop (mkF m 2 #[.val (.int p0), .val (.int p1), .unset, .unset, .unset, .unset, .unset] [(.int (1 : Int32)), (.int p0)])) _
        refine XS.iand X0.here hx rfl (hb hby at_2) rfl ?_
        show Steps p.tables e below (s₁.setTop (mkF m 3 #[.val (.int p0), .val (.int p1), .unset, .unset, .unset, .unset, .unset] [(.int (p0 &&& (1 : Int32)))])) _
        refine XS.ifYes X0.here hx rfl (pc0 := 3) (pc' := 10) rfl (hb hby at_3) rfl ((if0 _ _).trans (teq hc1).1) (by decide) (by decide) ?_
        show Steps p.tables e below (s₁.setTop (mkF m 10 #[.val (.int p0), .val (.int p1), .unset, .unset, .unset, .unset, .unset] [])) _
        refine XS.iconst X0.here hx rfl (hb hby at_10) ?_
        show Steps p.tables e below (s₁.setTop (mkF m 11 #[.val (.int p0), .val (.int p1), .unset, .unset, .unset, .unset, .unset] [(.int (0 : Int32))])) _
        refine XS.istoreN X0.here hx rfl (hb hby at_11) rfl (l' := #[.val (.int p0), .val (.int p1), .val (.int (0 : Int32)), .unset, .unset, .unset, .unset]) rfl ?_
        show Steps p.tables e below (s₁.setTop (mkF m 12 #[.val (.int p0), .val (.int p1), .val (.int (0 : Int32)), .unset, .unset, .unset, .unset] [])) _
        refine XS.iloadN X0.here hx rfl (hb hby at_12) rfl ?_
        show Steps p.tables e below (s₁.setTop (mkF m 13 #[.val (.int p0), .val (.int p1), .val (.int (0 : Int32)), .unset, .unset, .unset, .unset] [(.int p1)])) _
        refine XS.iconst X0.here hx rfl (hb hby at_13) ?_
        show Steps p.tables e below (s₁.setTop (mkF m 14 #[.val (.int p0), .val (.int p1), .val (.int (0 : Int32)), .unset, .unset, .unset, .unset] [(.int (1 : Int32)), (.int p1)])) _
        refine XS.iand X0.here hx rfl (hb hby at_14) rfl ?_
        show Steps p.tables e below (s₁.setTop (mkF m 15 #[.val (.int p0), .val (.int p1), .val (.int (0 : Int32)), .unset, .unset, .unset, .unset] [(.int (p1 &&& (1 : Int32)))])) _
        refine XS.ifYes X0.here hx rfl (pc0 := 15) (pc' := 22) rfl (hb hby at_15) rfl ((if0 _ _).trans (teq hc2).1) (by decide) (by decide) ?_
        show Steps p.tables e below (s₁.setTop (mkF m 22 #[.val (.int p0), .val (.int p1), .val (.int (0 : Int32)), .unset, .unset, .unset, .unset] [])) _
        refine XS.iconst X0.here hx rfl (hb hby at_22) ?_
        show Steps p.tables e below (s₁.setTop (mkF m 23 #[.val (.int p0), .val (.int p1), .val (.int (0 : Int32)), .unset, .unset, .unset, .unset] [(.int (0 : Int32))])) _
        refine XS.istoreN X0.here hx rfl (hb hby at_23) rfl (l' := #[.val (.int p0), .val (.int p1), .val (.int (0 : Int32)), .val (.int (0 : Int32)), .unset, .unset, .unset]) rfl ?_
        show Steps p.tables e below (s₁.setTop (mkF m 24 #[.val (.int p0), .val (.int p1), .val (.int (0 : Int32)), .val (.int (0 : Int32)), .unset, .unset, .unset] [])) _
        refine XS.iloadN X0.here hx rfl (hb hby at_24) rfl ?_
        show Steps p.tables e below (s₁.setTop (mkF m 25 #[.val (.int p0), .val (.int p1), .val (.int (0 : Int32)), .val (.int (0 : Int32)), .unset, .unset, .unset] [(.int (0 : Int32))])) _
        refine st3 _ ?_
        show Steps p.tables e below (T3.setTop (mkF m 28 #[.val (.int p0), .val (.int p1), .val (.int (0 : Int32)), .val (.int (0 : Int32)), .unset, .unset, .unset] [(.ref w_FALSE)])) _
        refine XS.astore X3.here hx rfl (hb hby at_28) rfl rfl (l' := #[.val (.int p0), .val (.int p1), .val (.int (0 : Int32)), .val (.int (0 : Int32)), .val (.ref w_FALSE), .unset, .unset]) rfl ?_
        show Steps p.tables e below (T3.setTop (mkF m 30 #[.val (.int p0), .val (.int p1), .val (.int (0 : Int32)), .val (.int (0 : Int32)), .val (.ref w_FALSE), .unset, .unset] [])) _
        refine XS.iloadN X3.here hx rfl (hb hby at_30) rfl ?_
        show Steps p.tables e below (T3.setTop (mkF m 31 #[.val (.int p0), .val (.int p1), .val (.int (0 : Int32)), .val (.int (0 : Int32)), .val (.ref w_FALSE), .unset, .unset] [(.int (0 : Int32))])) _
        refine st4 _ ?_
        show Steps p.tables e below (T4.setTop (mkF m 34 #[.val (.int p0), .val (.int p1), .val (.int (0 : Int32)), .val (.int (0 : Int32)), .val (.ref w_FALSE), .unset, .unset] [(.ref w_FALSE)])) _
        refine XS.astore X4.here hx rfl (hb hby at_34) rfl rfl (l' := #[.val (.int p0), .val (.int p1), .val (.int (0 : Int32)), .val (.int (0 : Int32)), .val (.ref w_FALSE), .val (.ref w_FALSE), .unset]) rfl ?_
        show Steps p.tables e below (T4.setTop (mkF m 36 #[.val (.int p0), .val (.int p1), .val (.int (0 : Int32)), .val (.int (0 : Int32)), .val (.ref w_FALSE), .val (.ref w_FALSE), .unset] [])) _
        refine XS.iloadN X4.here hx rfl (hb hby at_36) rfl ?_
        show Steps p.tables e below (T4.setTop (mkF m 37 #[.val (.int p0), .val (.int p1), .val (.int (0 : Int32)), .val (.int (0 : Int32)), .val (.ref w_FALSE), .val (.ref w_FALSE), .unset] [(.int (0 : Int32))])) _
        refine XS.ifYes X4.here hx rfl (pc0 := 37) (pc' := 48) rfl (hb hby at_37) rfl ((if0 _ _).trans (teq (by decide : (0 : Int32) = (0 : Int32))).1) (by decide) (by decide) ?_
        show Steps p.tables e below (T4.setTop (mkF m 48 #[.val (.int p0), .val (.int p1), .val (.int (0 : Int32)), .val (.int (0 : Int32)), .val (.ref w_FALSE), .val (.ref w_FALSE), .unset] [])) _
        refine XS.iconst X4.here hx rfl (hb hby at_48) ?_
        show Steps p.tables e below (T4.setTop (mkF m 49 #[.val (.int p0), .val (.int p1), .val (.int (0 : Int32)), .val (.int (0 : Int32)), .val (.ref w_FALSE), .val (.ref w_FALSE), .unset] [(.int (0 : Int32))])) _
        refine st5 _ ?_
        show Steps p.tables e below (T5.setTop (mkF m 52 #[.val (.int p0), .val (.int p1), .val (.int (0 : Int32)), .val (.int (0 : Int32)), .val (.ref w_FALSE), .val (.ref w_FALSE), .unset] [(.ref w_FALSE)])) _
        refine XS.astore X5.here hx rfl (hb hby at_52) rfl rfl (l' := #[.val (.int p0), .val (.int p1), .val (.int (0 : Int32)), .val (.int (0 : Int32)), .val (.ref w_FALSE), .val (.ref w_FALSE), .val (.ref w_FALSE)]) rfl ?_
        show Steps p.tables e below (T5.setTop (mkF m 54 #[.val (.int p0), .val (.int p1), .val (.int (0 : Int32)), .val (.int (0 : Int32)), .val (.ref w_FALSE), .val (.ref w_FALSE), .val (.ref w_FALSE)] [])) _
        refine XS.aload X5.here hx rfl (hb hby at_54) rfl rfl ?_
        show Steps p.tables e below (T5.setTop (mkF m 56 #[.val (.int p0), .val (.int p1), .val (.int (0 : Int32)), .val (.int (0 : Int32)), .val (.ref w_FALSE), .val (.ref w_FALSE), .val (.ref w_FALSE)] [(.ref w_FALSE)])) _
        refine XS.ifnullNo X5.here hx rfl (hb hby at_56) rfl ?_
        show Steps p.tables e below (T5.setTop (mkF m 59 #[.val (.int p0), .val (.int p1), .val (.int (0 : Int32)), .val (.int (0 : Int32)), .val (.ref w_FALSE), .val (.ref w_FALSE), .val (.ref w_FALSE)] [])) _
        refine XS.aload X5.here hx rfl (hb hby at_59) rfl rfl ?_
        show Steps p.tables e below (T5.setTop (mkF m 61 #[.val (.int p0), .val (.int p1), .val (.int (0 : Int32)), .val (.int (0 : Int32)), .val (.ref w_FALSE), .val (.ref w_FALSE), .val (.ref w_FALSE)] [(.ref w_FALSE)])) _
        refine XS.ifnullNo X5.here hx rfl (hb hby at_61) rfl ?_
        show Steps p.tables e below (T5.setTop (mkF m 64 #[.val (.int p0), .val (.int p1), .val (.int (0 : Int32)), .val (.int (0 : Int32)), .val (.ref w_FALSE), .val (.ref w_FALSE), .val (.ref w_FALSE)] [])) _
        refine XS.aload X5.here hx rfl (hb hby at_64) rfl rfl ?_
        show Steps p.tables e below (T5.setTop (mkF m 66 #[.val (.int p0), .val (.int p1), .val (.int (0 : Int32)), .val (.int (0 : Int32)), .val (.ref w_FALSE), .val (.ref w_FALSE), .val (.ref w_FALSE)] [(.ref w_FALSE)])) _
        refine XS.ifnonnullYes X5.here hx rfl (pc0 := 66) (pc' := 71) rfl (hb hby at_66) rfl (by decide) (by decide) ?_
        show Steps p.tables e below (T5.setTop (mkF m 71 #[.val (.int p0), .val (.int p1), .val (.int (0 : Int32)), .val (.int (0 : Int32)), .val (.ref w_FALSE), .val (.ref w_FALSE), .val (.ref w_FALSE)] [])) _
        refine XS.aload X5.here hx rfl (hb hby at_71) rfl rfl ?_
        show Steps p.tables e below (T5.setTop (mkF m 73 #[.val (.int p0), .val (.int p1), .val (.int (0 : Int32)), .val (.int (0 : Int32)), .val (.ref w_FALSE), .val (.ref w_FALSE), .val (.ref w_FALSE)] [(.ref w_FALSE)])) _
        refine st6 _ ?_
        show Steps p.tables e below (T6.setTop (mkF m 76 #[.val (.int p0), .val (.int p1), .val (.int (0 : Int32)), .val (.int (0 : Int32)), .val (.ref w_FALSE), .val (.ref w_FALSE), .val (.ref w_FALSE)] [(.ref w_UNKNOWN), (.ref w_FALSE)])) _
        refine Jvm.RoadKit.acmp (g := (mkF m 76 #[.val (.int p0), .val (.int p1), .val (.int (0 : Int32)), .val (.int (0 : Int32)), .val (.ref w_FALSE), .val (.ref w_FALSE), .val (.ref w_FALSE)] [(.ref w_UNKNOWN), (.ref w_FALSE)])) X6 hx rfl rfl rfl (pc0 := 76) (pc' := 79) (same := false) rfl (hb hby at_76) rfl (decide_eq_false fun q => ne_FALSE_UNKNOWN (Value.ref.inj q)) (by decide) (by decide) ?_
        show Steps p.tables e below (T6.setTop (mkF m 79 #[.val (.int p0), .val (.int p1), .val (.int (0 : Int32)), .val (.int (0 : Int32)), .val (.ref w_FALSE), .val (.ref w_FALSE), .val (.ref w_FALSE)] [])) _
        refine XS.aload X6.here hx rfl (hb hby at_79) rfl rfl ?_
        show Steps p.tables e below (T6.setTop (mkF m 81 #[.val (.int p0), .val (.int p1), .val (.int (0 : Int32)), .val (.int (0 : Int32)), .val (.ref w_FALSE), .val (.ref w_FALSE), .val (.ref w_FALSE)] [(.ref w_FALSE)])) _
        refine st7 _ ?_
        show Steps p.tables e below (T7.setTop (mkF m 84 #[.val (.int p0), .val (.int p1), .val (.int (0 : Int32)), .val (.int (0 : Int32)), .val (.ref w_FALSE), .val (.ref w_FALSE), .val (.ref w_FALSE)] [(.ref w_UNKNOWN), (.ref w_FALSE)])) _
        refine Jvm.RoadKit.acmp (g := (mkF m 84 #[.val (.int p0), .val (.int p1), .val (.int (0 : Int32)), .val (.int (0 : Int32)), .val (.ref w_FALSE), .val (.ref w_FALSE), .val (.ref w_FALSE)] [(.ref w_UNKNOWN), (.ref w_FALSE)])) X7 hx rfl rfl rfl (pc0 := 84) (pc' := 87) (same := false) rfl (hb hby at_84) rfl (decide_eq_false fun q => ne_FALSE_UNKNOWN (Value.ref.inj q)) (by decide) (by decide) ?_
        show Steps p.tables e below (T7.setTop (mkF m 87 #[.val (.int p0), .val (.int p1), .val (.int (0 : Int32)), .val (.int (0 : Int32)), .val (.ref w_FALSE), .val (.ref w_FALSE), .val (.ref w_FALSE)] [])) _
        refine XS.aload X7.here hx rfl (hb hby at_87) rfl rfl ?_
        show Steps p.tables e below (T7.setTop (mkF m 89 #[.val (.int p0), .val (.int p1), .val (.int (0 : Int32)), .val (.int (0 : Int32)), .val (.ref w_FALSE), .val (.ref w_FALSE), .val (.ref w_FALSE)] [(.ref w_FALSE)])) _
        refine st8 _ ?_
        show Steps p.tables e below (T8.setTop (mkF m 92 #[.val (.int p0), .val (.int p1), .val (.int (0 : Int32)), .val (.int (0 : Int32)), .val (.ref w_FALSE), .val (.ref w_FALSE), .val (.ref w_FALSE)] [(.ref w_UNKNOWN), (.ref w_FALSE)])) _
        refine Jvm.RoadKit.acmp (g := (mkF m 92 #[.val (.int p0), .val (.int p1), .val (.int (0 : Int32)), .val (.int (0 : Int32)), .val (.ref w_FALSE), .val (.ref w_FALSE), .val (.ref w_FALSE)] [(.ref w_UNKNOWN), (.ref w_FALSE)])) X8 hx rfl rfl rfl (pc0 := 92) (pc' := 97) (same := false) rfl (hb hby at_92) rfl (decide_eq_false fun q => ne_FALSE_UNKNOWN (Value.ref.inj q)) (by decide) (by decide) ?_
        show Steps p.tables e below (T8.setTop (mkF m 97 #[.val (.int p0), .val (.int p1), .val (.int (0 : Int32)), .val (.int (0 : Int32)), .val (.ref w_FALSE), .val (.ref w_FALSE), .val (.ref w_FALSE)] [])) _
        refine XS.aload X8.here hx rfl (hb hby at_97) rfl rfl ?_
        show Steps p.tables e below (T8.setTop (mkF m 99 #[.val (.int p0), .val (.int p1), .val (.int (0 : Int32)), .val (.int (0 : Int32)), .val (.ref w_FALSE), .val (.ref w_FALSE), .val (.ref w_FALSE)] [(.ref w_FALSE)])) _
        refine st9 _ ?_
        show Steps p.tables e below (T9.setTop (mkF m 102 #[.val (.int p0), .val (.int p1), .val (.int (0 : Int32)), .val (.int (0 : Int32)), .val (.ref w_FALSE), .val (.ref w_FALSE), .val (.ref w_FALSE)] [(.ref w_TRUE), (.ref w_FALSE)])) _
        refine Jvm.RoadKit.acmp (g := (mkF m 102 #[.val (.int p0), .val (.int p1), .val (.int (0 : Int32)), .val (.int (0 : Int32)), .val (.ref w_FALSE), .val (.ref w_FALSE), .val (.ref w_FALSE)] [(.ref w_TRUE), (.ref w_FALSE)])) X9 hx rfl rfl rfl (pc0 := 102) (pc' := 109) (same := false) rfl (hb hby at_102) rfl (decide_eq_false fun q => ne_FALSE_TRUE (Value.ref.inj q)) (by decide) (by decide) ?_
        show Steps p.tables e below (T9.setTop (mkF m 109 #[.val (.int p0), .val (.int p1), .val (.int (0 : Int32)), .val (.int (0 : Int32)), .val (.ref w_FALSE), .val (.ref w_FALSE), .val (.ref w_FALSE)] [])) _
        refine XS.iconst X9.here hx rfl (hb hby at_109) ?_
        show Steps p.tables e below (T9.setTop (mkF m 110 #[.val (.int p0), .val (.int p1), .val (.int (0 : Int32)), .val (.int (0 : Int32)), .val (.ref w_FALSE), .val (.ref w_FALSE), .val (.ref w_FALSE)] [(.int (0 : Int32))])) _
        refine XS.iloadN X9.here hx rfl (hb hby at_110) rfl ?_
        show Steps p.tables e below (T9.setTop (mkF m 111 #[.val (.int p0), .val (.int p1), .val (.int (0 : Int32)), .val (.int (0 : Int32)), .val (.ref w_FALSE), .val (.ref w_FALSE), .val (.ref w_FALSE)] [(.int (0 : Int32)), (.int (0 : Int32))])) _
        refine XS.icmpYes X9.here hx rfl (pc0 := 111) (pc' := 116) rfl (hb hby at_111) rfl (teq (by decide : (0 : Int32) = (0 : Int32))).1 (by decide) (by decide) ?_
        show Steps p.tables e below (T9.setTop (mkF m 116 #[.val (.int p0), .val (.int p1), .val (.int (0 : Int32)), .val (.int (0 : Int32)), .val (.ref w_FALSE), .val (.ref w_FALSE), .val (.ref w_FALSE)] [])) _
        refine XS.aload X9.here hx rfl (hb hby at_116) rfl rfl ?_
        show Steps p.tables e below (T9.setTop (mkF m 118 #[.val (.int p0), .val (.int p1), .val (.int (0 : Int32)), .val (.int (0 : Int32)), .val (.ref w_FALSE), .val (.ref w_FALSE), .val (.ref w_FALSE)] [(.ref w_FALSE)])) _
        refine st10 _ ?_
        show Steps p.tables e below (T10.setTop (mkF m 121 #[.val (.int p0), .val (.int p1), .val (.int (0 : Int32)), .val (.int (0 : Int32)), .val (.ref w_FALSE), .val (.ref w_FALSE), .val (.ref w_FALSE)] [(.ref w_TRUE), (.ref w_FALSE)])) _
        refine Jvm.RoadKit.acmp (g := (mkF m 121 #[.val (.int p0), .val (.int p1), .val (.int (0 : Int32)), .val (.int (0 : Int32)), .val (.ref w_FALSE), .val (.ref w_FALSE), .val (.ref w_FALSE)] [(.ref w_TRUE), (.ref w_FALSE)])) X10 hx rfl rfl rfl (pc0 := 121) (pc' := 128) (same := false) rfl (hb hby at_121) rfl (decide_eq_false fun q => ne_FALSE_TRUE (Value.ref.inj q)) (by decide) (by decide) ?_
        show Steps p.tables e below (T10.setTop (mkF m 128 #[.val (.int p0), .val (.int p1), .val (.int (0 : Int32)), .val (.int (0 : Int32)), .val (.ref w_FALSE), .val (.ref w_FALSE), .val (.ref w_FALSE)] [])) _
        refine XS.iconst X10.here hx rfl (hb hby at_128) ?_
        show Steps p.tables e below (T10.setTop (mkF m 129 #[.val (.int p0), .val (.int p1), .val (.int (0 : Int32)), .val (.int (0 : Int32)), .val (.ref w_FALSE), .val (.ref w_FALSE), .val (.ref w_FALSE)] [(.int (0 : Int32))])) _
        refine XS.iloadN X10.here hx rfl (hb hby at_129) rfl ?_
        show Steps p.tables e below (T10.setTop (mkF m 130 #[.val (.int p0), .val (.int p1), .val (.int (0 : Int32)), .val (.int (0 : Int32)), .val (.ref w_FALSE), .val (.ref w_FALSE), .val (.ref w_FALSE)] [(.int (0 : Int32)), (.int (0 : Int32))])) _
        refine XS.icmpYes X10.here hx rfl (pc0 := 130) (pc' := 135) rfl (hb hby at_130) rfl (teq (by decide : (0 : Int32) = (0 : Int32))).1 (by decide) (by decide) ?_
        show Steps p.tables e below (T10.setTop (mkF m 135 #[.val (.int p0), .val (.int p1), .val (.int (0 : Int32)), .val (.int (0 : Int32)), .val (.ref w_FALSE), .val (.ref w_FALSE), .val (.ref w_FALSE)] [])) _
        refine XS.aload X10.here hx rfl (hb hby at_135) rfl rfl ?_
        show Steps p.tables e below (T10.setTop (mkF m 137 #[.val (.int p0), .val (.int p1), .val (.int (0 : Int32)), .val (.int (0 : Int32)), .val (.ref w_FALSE), .val (.ref w_FALSE), .val (.ref w_FALSE)] [(.ref w_FALSE)])) _
        refine XS.aload X10.here hx rfl (hb hby at_137) rfl rfl ?_
        show Steps p.tables e below (T10.setTop (mkF m 139 #[.val (.int p0), .val (.int p1), .val (.int (0 : Int32)), .val (.int (0 : Int32)), .val (.ref w_FALSE), .val (.ref w_FALSE), .val (.ref w_FALSE)] [(.ref w_FALSE), (.ref w_FALSE)])) _
        refine st11.trans ?_
        show Steps p.tables e below (T11.setTop (mkF m 142 #[.val (.int p0), .val (.int p1), .val (.int (0 : Int32)), .val (.int (0 : Int32)), .val (.ref w_FALSE), .val (.ref w_FALSE), .val (.ref w_FALSE)] [(.ref (own_and w_FALSE w_FALSE w_FALSE w_UNKNOWN w_TRUE))])) _
        refine XS.aload X11.here hx rfl (hb hby at_142) rfl rfl ?_
        show Steps p.tables e below (T11.setTop (mkF m 144 #[.val (.int p0), .val (.int p1), .val (.int (0 : Int32)), .val (.int (0 : Int32)), .val (.ref w_FALSE), .val (.ref w_FALSE), .val (.ref w_FALSE)] [(.ref w_FALSE), (.ref (own_and w_FALSE w_FALSE w_FALSE w_UNKNOWN w_TRUE))])) _
        refine Jvm.RoadKit.acmp (g := (mkF m 144 #[.val (.int p0), .val (.int p1), .val (.int (0 : Int32)), .val (.int (0 : Int32)), .val (.ref w_FALSE), .val (.ref w_FALSE), .val (.ref w_FALSE)] [(.ref w_FALSE), (.ref (own_and w_FALSE w_FALSE w_FALSE w_UNKNOWN w_TRUE))])) X11 hx rfl rfl rfl (pc0 := 144) (pc' := 147) (same := true) rfl (hb hby at_144) rfl (decide_eq_true (congrArg Value.ref (by simp [own_and, ne_FALSE_UNKNOWN, ne_FALSE_TRUE, ne_UNKNOWN_FALSE, ne_UNKNOWN_TRUE, ne_TRUE_FALSE, ne_TRUE_UNKNOWN] : (own_and w_FALSE w_FALSE w_FALSE w_UNKNOWN w_TRUE) = w_FALSE))) (by decide) (by decide) ?_
        show Steps p.tables e below (T11.setTop (mkF m 147 #[.val (.int p0), .val (.int p1), .val (.int (0 : Int32)), .val (.int (0 : Int32)), .val (.ref w_FALSE), .val (.ref w_FALSE), .val (.ref w_FALSE)] [])) _
        refine XS.iconst X11.here hx rfl (hb hby at_147) ?_
        show Steps p.tables e below (T11.setTop (mkF m 148 #[.val (.int p0), .val (.int p1), .val (.int (0 : Int32)), .val (.int (0 : Int32)), .val (.ref w_FALSE), .val (.ref w_FALSE), .val (.ref w_FALSE)] [(.int (1 : Int32))])) _
        refine XS.goto X11.here hx rfl (pc0 := 148) (pc' := 152) rfl (hb hby at_148) (by decide) (by decide) ?_
        show Steps p.tables e below (T11.setTop (mkF m 152 #[.val (.int p0), .val (.int p1), .val (.int (0 : Int32)), .val (.int (0 : Int32)), .val (.ref w_FALSE), .val (.ref w_FALSE), .val (.ref w_FALSE)] [(.int (1 : Int32))])) _
        exact retN X11 hx (t := .boolean) Bd.returns (by simp) (hb hby at_152) hr
      · show Q_rm0 Z p0 p1 w_FALSE w_TRUE w_UNKNOWN h0 n0 _ T11.heap _
        rw [e11]
        exact ⟨rfl, N11, rfl⟩
    · obtain ⟨_, _, ⟨T12, L12, k12, n12⟩, -, X12, ⟨Lc12, hQ12, l12, y12, z12⟩, st12⟩ := Jvm.LawKit.callS X0 hx (y := (⟨"com/example/consent/consent/model/Truth", "of", "(Z)Lcom/example/consent/consent/model/Truth;"⟩ : MethodName)) hown (mvT hZ (hw _ (List.mem_of_getElem? (i := 0) rfl))) (mvT hZ (hw _ (List.mem_of_getElem? (i := 1) rfl))) (mvT hZ (hw _ (List.mem_of_getElem? (i := 2) rfl))) (mvT hZ (hw _ (List.mem_of_getElem? (i := 3) rfl))) (by decide) (backOf (W := 0) (rm1_0 l Z a0 hw [] w_FALSE w_TRUE w_UNKNOWN h0 n0 Z0 WD) hZ (hw _ (List.mem_of_getElem? (i := 3) rfl)) (hw _ (List.mem_of_getElem? (i := 2) rfl)) (by decide) (by decide)) (g := (mkF m 25 #[.val (.int p0), .val (.int p1), .val (.int (0 : Int32)), .val (.int (1 : Int32)), .unset, .unset, .unset] [(.int (0 : Int32))])) rfl (by rw [hml]; rfl) (argsL := [(.int (0 : Int32))]) (rest := []) (lenOf pd_0 rfl) rfl (by show 2 * 0 + _ ≤ _; exact Nat.le_of_eq rfl) (hb hby at_25) (fun _ _ => ⟨rfl, e0, (by decide : 0 + 0 ≤ _), (by decide : 0 + 0 ≤ _)⟩)
      dsimp only [Pt.U, Pt.locs, Pt.cells, Pt.slots] at X12 l12 y12 z12 st12 hQ12
      subst l12 y12 z12
      obtain ⟨rfl, N12q, e12⟩ := hQ12
      have N12 := Fr.app N0 N12q
      obtain ⟨_, _, ⟨T13, L13, k13, n13⟩, -, X13, ⟨Lc13, hQ13, l13, y13, z13⟩, st13⟩ := Jvm.LawKit.callS X12 hx (y := (⟨"com/example/consent/consent/model/Truth", "of", "(Z)Lcom/example/consent/consent/model/Truth;"⟩ : MethodName)) hown (mvT hZ (hw _ (List.mem_of_getElem? (i := 0) rfl))) (mvT hZ (hw _ (List.mem_of_getElem? (i := 1) rfl))) (mvT hZ (hw _ (List.mem_of_getElem? (i := 2) rfl))) (mvT hZ (hw _ (List.mem_of_getElem? (i := 3) rfl))) (by decide) (backOf (W := 0) (rm1_1 l Z a0 hw [] w_FALSE w_TRUE w_UNKNOWN h0 n0 Z0 WD) hZ (hw _ (List.mem_of_getElem? (i := 3) rfl)) (hw _ (List.mem_of_getElem? (i := 2) rfl)) (by decide) (by decide)) (g := (mkF m 31 #[.val (.int p0), .val (.int p1), .val (.int (0 : Int32)), .val (.int (1 : Int32)), .val (.ref w_FALSE), .unset, .unset] [(.int (1 : Int32))])) rfl (by rw [hml]; rfl) (argsL := [(.int (1 : Int32))]) (rest := []) (lenOf pd_0 rfl) rfl (by show 2 * 0 + _ ≤ _; exact Nat.le_of_eq rfl) (hb hby at_31) (fun _ _ => ⟨rfl, e12, (by decide : 0 + 0 ≤ _), (by decide : 0 + 0 ≤ _)⟩)
      dsimp only [Pt.U, Pt.locs, Pt.cells, Pt.slots] at X13 l13 y13 z13 st13 hQ13
      subst l13 y13 z13
      obtain ⟨rfl, N13q, e13⟩ := hQ13
      have N13 := Fr.app N12 N13q
      obtain ⟨_, _, ⟨T14, L14, k14, n14⟩, -, X14, ⟨Lc14, hQ14, l14, y14, z14⟩, st14⟩ := Jvm.LawKit.callS X13 hx (y := (⟨"com/example/consent/consent/model/Truth", "of", "(Z)Lcom/example/consent/consent/model/Truth;"⟩ : MethodName)) hown (mvT hZ (hw _ (List.mem_of_getElem? (i := 0) rfl))) (mvT hZ (hw _ (List.mem_of_getElem? (i := 1) rfl))) (mvT hZ (hw _ (List.mem_of_getElem? (i := 2) rfl))) (mvT hZ (hw _ (List.mem_of_getElem? (i := 3) rfl))) (by decide) (backOf (W := 0) (rm1_0 l Z a0 hw [] w_FALSE w_TRUE w_UNKNOWN h0 n0 Z0 WD) hZ (hw _ (List.mem_of_getElem? (i := 3) rfl)) (hw _ (List.mem_of_getElem? (i := 2) rfl)) (by decide) (by decide)) (g := (mkF m 49 #[.val (.int p0), .val (.int p1), .val (.int (0 : Int32)), .val (.int (1 : Int32)), .val (.ref w_FALSE), .val (.ref w_TRUE), .unset] [(.int (0 : Int32))])) rfl (by rw [hml]; rfl) (argsL := [(.int (0 : Int32))]) (rest := []) (lenOf pd_0 rfl) rfl (by show 2 * 0 + _ ≤ _; exact Nat.le_of_eq rfl) (hb hby at_49) (fun _ _ => ⟨rfl, e13, (by decide : 0 + 0 ≤ _), (by decide : 0 + 0 ≤ _)⟩)
      dsimp only [Pt.U, Pt.locs, Pt.cells, Pt.slots] at X14 l14 y14 z14 st14 hQ14
      subst l14 y14 z14
      obtain ⟨rfl, N14q, e14⟩ := hQ14
      have N14 := Fr.app N13 N14q
      obtain ⟨T15, X15, e15, st15⟩ := getS2 X14 hx hZ hown (host := "") (Or.inl (hw _ (List.mem_of_getElem? (i := 8) rfl))) Via.refl e14 S_UNKNOWN (g := (mkF m 73 #[.val (.int p0), .val (.int p1), .val (.int (0 : Int32)), .val (.int (1 : Int32)), .val (.ref w_FALSE), .val (.ref w_TRUE), .val (.ref w_FALSE)] [(.ref w_FALSE)])) rfl (hb hby at_73)
      obtain ⟨T16, X16, e16, st16⟩ := getS2 X15 hx hZ hown (host := "") (Or.inl (hw _ (List.mem_of_getElem? (i := 8) rfl))) Via.refl e15 S_UNKNOWN (g := (mkF m 81 #[.val (.int p0), .val (.int p1), .val (.int (0 : Int32)), .val (.int (1 : Int32)), .val (.ref w_FALSE), .val (.ref w_TRUE), .val (.ref w_FALSE)] [(.ref w_TRUE)])) rfl (hb hby at_81)
      obtain ⟨T17, X17, e17, st17⟩ := getS2 X16 hx hZ hown (host := "") (Or.inl (hw _ (List.mem_of_getElem? (i := 8) rfl))) Via.refl e16 S_UNKNOWN (g := (mkF m 89 #[.val (.int p0), .val (.int p1), .val (.int (0 : Int32)), .val (.int (1 : Int32)), .val (.ref w_FALSE), .val (.ref w_TRUE), .val (.ref w_FALSE)] [(.ref w_FALSE)])) rfl (hb hby at_89)
      obtain ⟨T18, X18, e18, st18⟩ := getS2 X17 hx hZ hown (host := "") (Or.inl (hw _ (List.mem_of_getElem? (i := 10) rfl))) Via.refl e17 S_TRUE (g := (mkF m 99 #[.val (.int p0), .val (.int p1), .val (.int (0 : Int32)), .val (.int (1 : Int32)), .val (.ref w_FALSE), .val (.ref w_TRUE), .val (.ref w_FALSE)] [(.ref w_FALSE)])) rfl (hb hby at_99)
      obtain ⟨T19, X19, e19, st19⟩ := getS2 X18 hx hZ hown (host := "") (Or.inl (hw _ (List.mem_of_getElem? (i := 10) rfl))) Via.refl e18 S_TRUE (g := (mkF m 118 #[.val (.int p0), .val (.int p1), .val (.int (0 : Int32)), .val (.int (1 : Int32)), .val (.ref w_FALSE), .val (.ref w_TRUE), .val (.ref w_FALSE)] [(.ref w_TRUE)])) rfl (hb hby at_118)
      obtain ⟨cq20, kq20, q20a, q20b, q20c⟩ := isOf hZ e19 E_FALSE
      obtain ⟨_, _, ⟨T20, L20, k20, n20⟩, -, X20, ⟨Lc20, hQ20, l20, y20, z20⟩, st20⟩ := X19.virtualBack hx (y := (⟨"com/example/consent/consent/model/Truth", "and", "(Lcom/example/consent/consent/model/Truth;)Lcom/example/consent/consent/model/Truth;"⟩ : MethodName)) (z := (⟨"com/example/consent/consent/model/Truth", "and", "(Lcom/example/consent/consent/model/Truth;)Lcom/example/consent/consent/model/Truth;"⟩ : MethodName)) hown (mvT hZ (hw _ (List.mem_of_getElem? (i := 11) rfl))) (mvT hZ (hw _ (List.mem_of_getElem? (i := 12) rfl))) (notFace_of_selects (args := #[]) (mvT hZ (hw _ (List.mem_of_getElem? (i := 14) rfl)))) (mvT hZ (hw _ (List.mem_of_getElem? (i := 14) rfl))) (mvT hZ (hw _ (List.mem_of_getElem? (i := 13) rfl))) (by decide) (backOf (W := 0) (rm2 l Z a0 hw [] w_FALSE w_TRUE w_FALSE w_TRUE w_UNKNOWN h0 n0 Z0 WD) hZ (hw _ (List.mem_of_getElem? (i := 15) rfl)) (hw _ (List.mem_of_getElem? (i := 2) rfl)) (by decide) (by decide)) q20a q20c (g := (mkF m 139 #[.val (.int p0), .val (.int p1), .val (.int (0 : Int32)), .val (.int (1 : Int32)), .val (.ref w_FALSE), .val (.ref w_TRUE), .val (.ref w_FALSE)] [(.ref w_TRUE), (.ref w_FALSE)])) rfl (by rw [hml]; rfl) (Steps.refl _) (argsL := [(.ref w_TRUE)]) (rest := []) (lenOf pd_1 rfl) rfl (by show 2 * 0 + _ ≤ _; exact Nat.le_of_eq rfl) (hb hby at_139) (fun _ _ => ⟨rfl, e19, (by decide : 0 + 0 ≤ _), (by decide : 0 + 0 ≤ _)⟩)
      dsimp only [Pt.U, Pt.locs, Pt.cells, Pt.slots] at X20 l20 y20 z20 st20 hQ20
      subst l20 y20 z20
      obtain ⟨rfl, N20q, e20⟩ := hQ20
      have N20 := Fr.app N14 N20q
      obtain ⟨fs, hr, hrun, hended, hW, hsame⟩ := X20.leave (v := some (.int (1 : Int32))) (fun h => by rw [Bd.returns] at h; cases h)
      refine ⟨_, _, pre0 _ ?_, hrun, hended, _, _, rfl, ?_, ⟨_, rfl⟩, hW, hsame.mono (by decide) (by decide)⟩
      · show Steps p.tables e below (s₁.setTop (mkF m 0 #[.val (.int p0), .val (.int p1), .unset, .unset, .unset, .unset, .unset] [])) _
        refine XS.iloadN X0.here hx rfl (hb hby at_0) rfl ?_
        show Steps p.tables e below (s₁.setTop (mkF m 1 #[.val (.int p0), .val (.int p1), .unset, .unset, .unset, .unset, .unset] [(.int p0)])) _
        refine XS.iconst X0.here hx rfl (hb hby at_1) ?_
        show Steps p.tables e below (s₁.setTop (mkF m 2 #[.val (.int p0), .val (.int p1), .unset, .unset, .unset, .unset, .unset] [(.int (1 : Int32)), (.int p0)])) _
        refine XS.iand X0.here hx rfl (hb hby at_2) rfl ?_
        show Steps p.tables e below (s₁.setTop (mkF m 3 #[.val (.int p0), .val (.int p1), .unset, .unset, .unset, .unset, .unset] [(.int (p0 &&& (1 : Int32)))])) _
        refine XS.ifYes X0.here hx rfl (pc0 := 3) (pc' := 10) rfl (hb hby at_3) rfl ((if0 _ _).trans (teq hc1).1) (by decide) (by decide) ?_
        show Steps p.tables e below (s₁.setTop (mkF m 10 #[.val (.int p0), .val (.int p1), .unset, .unset, .unset, .unset, .unset] [])) _
        refine XS.iconst X0.here hx rfl (hb hby at_10) ?_
        show Steps p.tables e below (s₁.setTop (mkF m 11 #[.val (.int p0), .val (.int p1), .unset, .unset, .unset, .unset, .unset] [(.int (0 : Int32))])) _
        refine XS.istoreN X0.here hx rfl (hb hby at_11) rfl (l' := #[.val (.int p0), .val (.int p1), .val (.int (0 : Int32)), .unset, .unset, .unset, .unset]) rfl ?_
        show Steps p.tables e below (s₁.setTop (mkF m 12 #[.val (.int p0), .val (.int p1), .val (.int (0 : Int32)), .unset, .unset, .unset, .unset] [])) _
        refine XS.iloadN X0.here hx rfl (hb hby at_12) rfl ?_
        show Steps p.tables e below (s₁.setTop (mkF m 13 #[.val (.int p0), .val (.int p1), .val (.int (0 : Int32)), .unset, .unset, .unset, .unset] [(.int p1)])) _
        refine XS.iconst X0.here hx rfl (hb hby at_13) ?_
        show Steps p.tables e below (s₁.setTop (mkF m 14 #[.val (.int p0), .val (.int p1), .val (.int (0 : Int32)), .unset, .unset, .unset, .unset] [(.int (1 : Int32)), (.int p1)])) _
        refine XS.iand X0.here hx rfl (hb hby at_14) rfl ?_
        show Steps p.tables e below (s₁.setTop (mkF m 15 #[.val (.int p0), .val (.int p1), .val (.int (0 : Int32)), .unset, .unset, .unset, .unset] [(.int (p1 &&& (1 : Int32)))])) _
        refine XS.ifNo X0.here hx rfl (hb hby at_15) rfl ((if0 _ _).trans (feq hc2).1) ?_
        show Steps p.tables e below (s₁.setTop (mkF m 18 #[.val (.int p0), .val (.int p1), .val (.int (0 : Int32)), .unset, .unset, .unset, .unset] [])) _
        refine XS.iconst X0.here hx rfl (hb hby at_18) ?_
        show Steps p.tables e below (s₁.setTop (mkF m 19 #[.val (.int p0), .val (.int p1), .val (.int (0 : Int32)), .unset, .unset, .unset, .unset] [(.int (1 : Int32))])) _
        refine XS.goto X0.here hx rfl (pc0 := 19) (pc' := 23) rfl (hb hby at_19) (by decide) (by decide) ?_
        show Steps p.tables e below (s₁.setTop (mkF m 23 #[.val (.int p0), .val (.int p1), .val (.int (0 : Int32)), .unset, .unset, .unset, .unset] [(.int (1 : Int32))])) _
        refine XS.istoreN X0.here hx rfl (hb hby at_23) rfl (l' := #[.val (.int p0), .val (.int p1), .val (.int (0 : Int32)), .val (.int (1 : Int32)), .unset, .unset, .unset]) rfl ?_
        show Steps p.tables e below (s₁.setTop (mkF m 24 #[.val (.int p0), .val (.int p1), .val (.int (0 : Int32)), .val (.int (1 : Int32)), .unset, .unset, .unset] [])) _
        refine XS.iloadN X0.here hx rfl (hb hby at_24) rfl ?_
        show Steps p.tables e below (s₁.setTop (mkF m 25 #[.val (.int p0), .val (.int p1), .val (.int (0 : Int32)), .val (.int (1 : Int32)), .unset, .unset, .unset] [(.int (0 : Int32))])) _
        refine st12 _ ?_
        show Steps p.tables e below (T12.setTop (mkF m 28 #[.val (.int p0), .val (.int p1), .val (.int (0 : Int32)), .val (.int (1 : Int32)), .unset, .unset, .unset] [(.ref w_FALSE)])) _
        refine XS.astore X12.here hx rfl (hb hby at_28) rfl rfl (l' := #[.val (.int p0), .val (.int p1), .val (.int (0 : Int32)), .val (.int (1 : Int32)), .val (.ref w_FALSE), .unset, .unset]) rfl ?_
        show Steps p.tables e below (T12.setTop (mkF m 30 #[.val (.int p0), .val (.int p1), .val (.int (0 : Int32)), .val (.int (1 : Int32)), .val (.ref w_FALSE), .unset, .unset] [])) _
        refine XS.iloadN X12.here hx rfl (hb hby at_30) rfl ?_
        show Steps p.tables e below (T12.setTop (mkF m 31 #[.val (.int p0), .val (.int p1), .val (.int (0 : Int32)), .val (.int (1 : Int32)), .val (.ref w_FALSE), .unset, .unset] [(.int (1 : Int32))])) _
        refine st13 _ ?_
        show Steps p.tables e below (T13.setTop (mkF m 34 #[.val (.int p0), .val (.int p1), .val (.int (0 : Int32)), .val (.int (1 : Int32)), .val (.ref w_FALSE), .unset, .unset] [(.ref w_TRUE)])) _
        refine XS.astore X13.here hx rfl (hb hby at_34) rfl rfl (l' := #[.val (.int p0), .val (.int p1), .val (.int (0 : Int32)), .val (.int (1 : Int32)), .val (.ref w_FALSE), .val (.ref w_TRUE), .unset]) rfl ?_
        show Steps p.tables e below (T13.setTop (mkF m 36 #[.val (.int p0), .val (.int p1), .val (.int (0 : Int32)), .val (.int (1 : Int32)), .val (.ref w_FALSE), .val (.ref w_TRUE), .unset] [])) _
        refine XS.iloadN X13.here hx rfl (hb hby at_36) rfl ?_
        show Steps p.tables e below (T13.setTop (mkF m 37 #[.val (.int p0), .val (.int p1), .val (.int (0 : Int32)), .val (.int (1 : Int32)), .val (.ref w_FALSE), .val (.ref w_TRUE), .unset] [(.int (0 : Int32))])) _
        refine XS.ifYes X13.here hx rfl (pc0 := 37) (pc' := 48) rfl (hb hby at_37) rfl ((if0 _ _).trans (teq (by decide : (0 : Int32) = (0 : Int32))).1) (by decide) (by decide) ?_
        show Steps p.tables e below (T13.setTop (mkF m 48 #[.val (.int p0), .val (.int p1), .val (.int (0 : Int32)), .val (.int (1 : Int32)), .val (.ref w_FALSE), .val (.ref w_TRUE), .unset] [])) _
        refine XS.iconst X13.here hx rfl (hb hby at_48) ?_
        show Steps p.tables e below (T13.setTop (mkF m 49 #[.val (.int p0), .val (.int p1), .val (.int (0 : Int32)), .val (.int (1 : Int32)), .val (.ref w_FALSE), .val (.ref w_TRUE), .unset] [(.int (0 : Int32))])) _
        refine st14 _ ?_
        show Steps p.tables e below (T14.setTop (mkF m 52 #[.val (.int p0), .val (.int p1), .val (.int (0 : Int32)), .val (.int (1 : Int32)), .val (.ref w_FALSE), .val (.ref w_TRUE), .unset] [(.ref w_FALSE)])) _
        refine XS.astore X14.here hx rfl (hb hby at_52) rfl rfl (l' := #[.val (.int p0), .val (.int p1), .val (.int (0 : Int32)), .val (.int (1 : Int32)), .val (.ref w_FALSE), .val (.ref w_TRUE), .val (.ref w_FALSE)]) rfl ?_
        show Steps p.tables e below (T14.setTop (mkF m 54 #[.val (.int p0), .val (.int p1), .val (.int (0 : Int32)), .val (.int (1 : Int32)), .val (.ref w_FALSE), .val (.ref w_TRUE), .val (.ref w_FALSE)] [])) _
        refine XS.aload X14.here hx rfl (hb hby at_54) rfl rfl ?_
        show Steps p.tables e below (T14.setTop (mkF m 56 #[.val (.int p0), .val (.int p1), .val (.int (0 : Int32)), .val (.int (1 : Int32)), .val (.ref w_FALSE), .val (.ref w_TRUE), .val (.ref w_FALSE)] [(.ref w_FALSE)])) _
        refine XS.ifnullNo X14.here hx rfl (hb hby at_56) rfl ?_
        show Steps p.tables e below (T14.setTop (mkF m 59 #[.val (.int p0), .val (.int p1), .val (.int (0 : Int32)), .val (.int (1 : Int32)), .val (.ref w_FALSE), .val (.ref w_TRUE), .val (.ref w_FALSE)] [])) _
        refine XS.aload X14.here hx rfl (hb hby at_59) rfl rfl ?_
        show Steps p.tables e below (T14.setTop (mkF m 61 #[.val (.int p0), .val (.int p1), .val (.int (0 : Int32)), .val (.int (1 : Int32)), .val (.ref w_FALSE), .val (.ref w_TRUE), .val (.ref w_FALSE)] [(.ref w_TRUE)])) _
        refine XS.ifnullNo X14.here hx rfl (hb hby at_61) rfl ?_
        show Steps p.tables e below (T14.setTop (mkF m 64 #[.val (.int p0), .val (.int p1), .val (.int (0 : Int32)), .val (.int (1 : Int32)), .val (.ref w_FALSE), .val (.ref w_TRUE), .val (.ref w_FALSE)] [])) _
        refine XS.aload X14.here hx rfl (hb hby at_64) rfl rfl ?_
        show Steps p.tables e below (T14.setTop (mkF m 66 #[.val (.int p0), .val (.int p1), .val (.int (0 : Int32)), .val (.int (1 : Int32)), .val (.ref w_FALSE), .val (.ref w_TRUE), .val (.ref w_FALSE)] [(.ref w_FALSE)])) _
        refine XS.ifnonnullYes X14.here hx rfl (pc0 := 66) (pc' := 71) rfl (hb hby at_66) rfl (by decide) (by decide) ?_
        show Steps p.tables e below (T14.setTop (mkF m 71 #[.val (.int p0), .val (.int p1), .val (.int (0 : Int32)), .val (.int (1 : Int32)), .val (.ref w_FALSE), .val (.ref w_TRUE), .val (.ref w_FALSE)] [])) _
        refine XS.aload X14.here hx rfl (hb hby at_71) rfl rfl ?_
        show Steps p.tables e below (T14.setTop (mkF m 73 #[.val (.int p0), .val (.int p1), .val (.int (0 : Int32)), .val (.int (1 : Int32)), .val (.ref w_FALSE), .val (.ref w_TRUE), .val (.ref w_FALSE)] [(.ref w_FALSE)])) _
        refine st15 _ ?_
        show Steps p.tables e below (T15.setTop (mkF m 76 #[.val (.int p0), .val (.int p1), .val (.int (0 : Int32)), .val (.int (1 : Int32)), .val (.ref w_FALSE), .val (.ref w_TRUE), .val (.ref w_FALSE)] [(.ref w_UNKNOWN), (.ref w_FALSE)])) _
        refine Jvm.RoadKit.acmp (g := (mkF m 76 #[.val (.int p0), .val (.int p1), .val (.int (0 : Int32)), .val (.int (1 : Int32)), .val (.ref w_FALSE), .val (.ref w_TRUE), .val (.ref w_FALSE)] [(.ref w_UNKNOWN), (.ref w_FALSE)])) X15 hx rfl rfl rfl (pc0 := 76) (pc' := 79) (same := false) rfl (hb hby at_76) rfl (decide_eq_false fun q => ne_FALSE_UNKNOWN (Value.ref.inj q)) (by decide) (by decide) ?_
        show Steps p.tables e below (T15.setTop (mkF m 79 #[.val (.int p0), .val (.int p1), .val (.int (0 : Int32)), .val (.int (1 : Int32)), .val (.ref w_FALSE), .val (.ref w_TRUE), .val (.ref w_FALSE)] [])) _
        refine XS.aload X15.here hx rfl (hb hby at_79) rfl rfl ?_
        show Steps p.tables e below (T15.setTop (mkF m 81 #[.val (.int p0), .val (.int p1), .val (.int (0 : Int32)), .val (.int (1 : Int32)), .val (.ref w_FALSE), .val (.ref w_TRUE), .val (.ref w_FALSE)] [(.ref w_TRUE)])) _
        refine st16 _ ?_
        show Steps p.tables e below (T16.setTop (mkF m 84 #[.val (.int p0), .val (.int p1), .val (.int (0 : Int32)), .val (.int (1 : Int32)), .val (.ref w_FALSE), .val (.ref w_TRUE), .val (.ref w_FALSE)] [(.ref w_UNKNOWN), (.ref w_TRUE)])) _
        refine Jvm.RoadKit.acmp (g := (mkF m 84 #[.val (.int p0), .val (.int p1), .val (.int (0 : Int32)), .val (.int (1 : Int32)), .val (.ref w_FALSE), .val (.ref w_TRUE), .val (.ref w_FALSE)] [(.ref w_UNKNOWN), (.ref w_TRUE)])) X16 hx rfl rfl rfl (pc0 := 84) (pc' := 87) (same := false) rfl (hb hby at_84) rfl (decide_eq_false fun q => ne_TRUE_UNKNOWN (Value.ref.inj q)) (by decide) (by decide) ?_
        show Steps p.tables e below (T16.setTop (mkF m 87 #[.val (.int p0), .val (.int p1), .val (.int (0 : Int32)), .val (.int (1 : Int32)), .val (.ref w_FALSE), .val (.ref w_TRUE), .val (.ref w_FALSE)] [])) _
        refine XS.aload X16.here hx rfl (hb hby at_87) rfl rfl ?_
        show Steps p.tables e below (T16.setTop (mkF m 89 #[.val (.int p0), .val (.int p1), .val (.int (0 : Int32)), .val (.int (1 : Int32)), .val (.ref w_FALSE), .val (.ref w_TRUE), .val (.ref w_FALSE)] [(.ref w_FALSE)])) _
        refine st17 _ ?_
        show Steps p.tables e below (T17.setTop (mkF m 92 #[.val (.int p0), .val (.int p1), .val (.int (0 : Int32)), .val (.int (1 : Int32)), .val (.ref w_FALSE), .val (.ref w_TRUE), .val (.ref w_FALSE)] [(.ref w_UNKNOWN), (.ref w_FALSE)])) _
        refine Jvm.RoadKit.acmp (g := (mkF m 92 #[.val (.int p0), .val (.int p1), .val (.int (0 : Int32)), .val (.int (1 : Int32)), .val (.ref w_FALSE), .val (.ref w_TRUE), .val (.ref w_FALSE)] [(.ref w_UNKNOWN), (.ref w_FALSE)])) X17 hx rfl rfl rfl (pc0 := 92) (pc' := 97) (same := false) rfl (hb hby at_92) rfl (decide_eq_false fun q => ne_FALSE_UNKNOWN (Value.ref.inj q)) (by decide) (by decide) ?_
        show Steps p.tables e below (T17.setTop (mkF m 97 #[.val (.int p0), .val (.int p1), .val (.int (0 : Int32)), .val (.int (1 : Int32)), .val (.ref w_FALSE), .val (.ref w_TRUE), .val (.ref w_FALSE)] [])) _
        refine XS.aload X17.here hx rfl (hb hby at_97) rfl rfl ?_
        show Steps p.tables e below (T17.setTop (mkF m 99 #[.val (.int p0), .val (.int p1), .val (.int (0 : Int32)), .val (.int (1 : Int32)), .val (.ref w_FALSE), .val (.ref w_TRUE), .val (.ref w_FALSE)] [(.ref w_FALSE)])) _
        refine st18 _ ?_
        show Steps p.tables e below (T18.setTop (mkF m 102 #[.val (.int p0), .val (.int p1), .val (.int (0 : Int32)), .val (.int (1 : Int32)), .val (.ref w_FALSE), .val (.ref w_TRUE), .val (.ref w_FALSE)] [(.ref w_TRUE), (.ref w_FALSE)])) _
        refine Jvm.RoadKit.acmp (g := (mkF m 102 #[.val (.int p0), .val (.int p1), .val (.int (0 : Int32)), .val (.int (1 : Int32)), .val (.ref w_FALSE), .val (.ref w_TRUE), .val (.ref w_FALSE)] [(.ref w_TRUE), (.ref w_FALSE)])) X18 hx rfl rfl rfl (pc0 := 102) (pc' := 109) (same := false) rfl (hb hby at_102) rfl (decide_eq_false fun q => ne_FALSE_TRUE (Value.ref.inj q)) (by decide) (by decide) ?_
        show Steps p.tables e below (T18.setTop (mkF m 109 #[.val (.int p0), .val (.int p1), .val (.int (0 : Int32)), .val (.int (1 : Int32)), .val (.ref w_FALSE), .val (.ref w_TRUE), .val (.ref w_FALSE)] [])) _
        refine XS.iconst X18.here hx rfl (hb hby at_109) ?_
        show Steps p.tables e below (T18.setTop (mkF m 110 #[.val (.int p0), .val (.int p1), .val (.int (0 : Int32)), .val (.int (1 : Int32)), .val (.ref w_FALSE), .val (.ref w_TRUE), .val (.ref w_FALSE)] [(.int (0 : Int32))])) _
        refine XS.iloadN X18.here hx rfl (hb hby at_110) rfl ?_
        show Steps p.tables e below (T18.setTop (mkF m 111 #[.val (.int p0), .val (.int p1), .val (.int (0 : Int32)), .val (.int (1 : Int32)), .val (.ref w_FALSE), .val (.ref w_TRUE), .val (.ref w_FALSE)] [(.int (0 : Int32)), (.int (0 : Int32))])) _
        refine XS.icmpYes X18.here hx rfl (pc0 := 111) (pc' := 116) rfl (hb hby at_111) rfl (teq (by decide : (0 : Int32) = (0 : Int32))).1 (by decide) (by decide) ?_
        show Steps p.tables e below (T18.setTop (mkF m 116 #[.val (.int p0), .val (.int p1), .val (.int (0 : Int32)), .val (.int (1 : Int32)), .val (.ref w_FALSE), .val (.ref w_TRUE), .val (.ref w_FALSE)] [])) _
        refine XS.aload X18.here hx rfl (hb hby at_116) rfl rfl ?_
        show Steps p.tables e below (T18.setTop (mkF m 118 #[.val (.int p0), .val (.int p1), .val (.int (0 : Int32)), .val (.int (1 : Int32)), .val (.ref w_FALSE), .val (.ref w_TRUE), .val (.ref w_FALSE)] [(.ref w_TRUE)])) _
        refine st19 _ ?_
        show Steps p.tables e below (T19.setTop (mkF m 121 #[.val (.int p0), .val (.int p1), .val (.int (0 : Int32)), .val (.int (1 : Int32)), .val (.ref w_FALSE), .val (.ref w_TRUE), .val (.ref w_FALSE)] [(.ref w_TRUE), (.ref w_TRUE)])) _
        refine Jvm.RoadKit.acmp (g := (mkF m 121 #[.val (.int p0), .val (.int p1), .val (.int (0 : Int32)), .val (.int (1 : Int32)), .val (.ref w_FALSE), .val (.ref w_TRUE), .val (.ref w_FALSE)] [(.ref w_TRUE), (.ref w_TRUE)])) X19 hx rfl rfl rfl (pc0 := 121) (pc' := 124) (same := true) rfl (hb hby at_121) rfl (decide_eq_true rfl) (by decide) (by decide) ?_
        show Steps p.tables e below (T19.setTop (mkF m 124 #[.val (.int p0), .val (.int p1), .val (.int (0 : Int32)), .val (.int (1 : Int32)), .val (.ref w_FALSE), .val (.ref w_TRUE), .val (.ref w_FALSE)] [])) _
        refine XS.iconst X19.here hx rfl (hb hby at_124) ?_
        show Steps p.tables e below (T19.setTop (mkF m 125 #[.val (.int p0), .val (.int p1), .val (.int (0 : Int32)), .val (.int (1 : Int32)), .val (.ref w_FALSE), .val (.ref w_TRUE), .val (.ref w_FALSE)] [(.int (1 : Int32))])) _
        refine XS.goto X19.here hx rfl (pc0 := 125) (pc' := 129) rfl (hb hby at_125) (by decide) (by decide) ?_
        show Steps p.tables e below (T19.setTop (mkF m 129 #[.val (.int p0), .val (.int p1), .val (.int (0 : Int32)), .val (.int (1 : Int32)), .val (.ref w_FALSE), .val (.ref w_TRUE), .val (.ref w_FALSE)] [(.int (1 : Int32))])) _
        refine XS.iloadN X19.here hx rfl (hb hby at_129) rfl ?_
        show Steps p.tables e below (T19.setTop (mkF m 130 #[.val (.int p0), .val (.int p1), .val (.int (0 : Int32)), .val (.int (1 : Int32)), .val (.ref w_FALSE), .val (.ref w_TRUE), .val (.ref w_FALSE)] [(.int (1 : Int32)), (.int (1 : Int32))])) _
        refine XS.icmpYes X19.here hx rfl (pc0 := 130) (pc' := 135) rfl (hb hby at_130) rfl (teq (by decide : (1 : Int32) = (1 : Int32))).1 (by decide) (by decide) ?_
        show Steps p.tables e below (T19.setTop (mkF m 135 #[.val (.int p0), .val (.int p1), .val (.int (0 : Int32)), .val (.int (1 : Int32)), .val (.ref w_FALSE), .val (.ref w_TRUE), .val (.ref w_FALSE)] [])) _
        refine XS.aload X19.here hx rfl (hb hby at_135) rfl rfl ?_
        show Steps p.tables e below (T19.setTop (mkF m 137 #[.val (.int p0), .val (.int p1), .val (.int (0 : Int32)), .val (.int (1 : Int32)), .val (.ref w_FALSE), .val (.ref w_TRUE), .val (.ref w_FALSE)] [(.ref w_FALSE)])) _
        refine XS.aload X19.here hx rfl (hb hby at_137) rfl rfl ?_
        show Steps p.tables e below (T19.setTop (mkF m 139 #[.val (.int p0), .val (.int p1), .val (.int (0 : Int32)), .val (.int (1 : Int32)), .val (.ref w_FALSE), .val (.ref w_TRUE), .val (.ref w_FALSE)] [(.ref w_TRUE), (.ref w_FALSE)])) _
        refine st20.trans ?_
        show Steps p.tables e below (T20.setTop (mkF m 142 #[.val (.int p0), .val (.int p1), .val (.int (0 : Int32)), .val (.int (1 : Int32)), .val (.ref w_FALSE), .val (.ref w_TRUE), .val (.ref w_FALSE)] [(.ref (own_and w_FALSE w_TRUE w_FALSE w_UNKNOWN w_TRUE))])) _
        refine XS.aload X20.here hx rfl (hb hby at_142) rfl rfl ?_
        show Steps p.tables e below (T20.setTop (mkF m 144 #[.val (.int p0), .val (.int p1), .val (.int (0 : Int32)), .val (.int (1 : Int32)), .val (.ref w_FALSE), .val (.ref w_TRUE), .val (.ref w_FALSE)] [(.ref w_FALSE), (.ref (own_and w_FALSE w_TRUE w_FALSE w_UNKNOWN w_TRUE))])) _
        refine Jvm.RoadKit.acmp (g := (mkF m 144 #[.val (.int p0), .val (.int p1), .val (.int (0 : Int32)), .val (.int (1 : Int32)), .val (.ref w_FALSE), .val (.ref w_TRUE), .val (.ref w_FALSE)] [(.ref w_FALSE), (.ref (own_and w_FALSE w_TRUE w_FALSE w_UNKNOWN w_TRUE))])) X20 hx rfl rfl rfl (pc0 := 144) (pc' := 147) (same := true) rfl (hb hby at_144) rfl (decide_eq_true (congrArg Value.ref (by simp [own_and, ne_FALSE_UNKNOWN, ne_FALSE_TRUE, ne_UNKNOWN_FALSE, ne_UNKNOWN_TRUE, ne_TRUE_FALSE, ne_TRUE_UNKNOWN] : (own_and w_FALSE w_TRUE w_FALSE w_UNKNOWN w_TRUE) = w_FALSE))) (by decide) (by decide) ?_
        show Steps p.tables e below (T20.setTop (mkF m 147 #[.val (.int p0), .val (.int p1), .val (.int (0 : Int32)), .val (.int (1 : Int32)), .val (.ref w_FALSE), .val (.ref w_TRUE), .val (.ref w_FALSE)] [])) _
        refine XS.iconst X20.here hx rfl (hb hby at_147) ?_
        show Steps p.tables e below (T20.setTop (mkF m 148 #[.val (.int p0), .val (.int p1), .val (.int (0 : Int32)), .val (.int (1 : Int32)), .val (.ref w_FALSE), .val (.ref w_TRUE), .val (.ref w_FALSE)] [(.int (1 : Int32))])) _
        refine XS.goto X20.here hx rfl (pc0 := 148) (pc' := 152) rfl (hb hby at_148) (by decide) (by decide) ?_
        show Steps p.tables e below (T20.setTop (mkF m 152 #[.val (.int p0), .val (.int p1), .val (.int (0 : Int32)), .val (.int (1 : Int32)), .val (.ref w_FALSE), .val (.ref w_TRUE), .val (.ref w_FALSE)] [(.int (1 : Int32))])) _
        exact retN X20 hx (t := .boolean) Bd.returns (by simp) (hb hby at_152) hr
      · show Q_rm0 Z p0 p1 w_FALSE w_TRUE w_UNKNOWN h0 n0 _ T20.heap _
        rw [e20]
        exact ⟨rfl, N20, rfl⟩
  · by_cases hc21 : (p1 &&& (1 : Int32)) = (0 : Int32)
    · obtain ⟨_, _, ⟨T22, L22, k22, n22⟩, -, X22, ⟨Lc22, hQ22, l22, y22, z22⟩, st22⟩ := Jvm.LawKit.callS X0 hx (y := (⟨"com/example/consent/consent/model/Truth", "of", "(Z)Lcom/example/consent/consent/model/Truth;"⟩ : MethodName)) hown (mvT hZ (hw _ (List.mem_of_getElem? (i := 0) rfl))) (mvT hZ (hw _ (List.mem_of_getElem? (i := 1) rfl))) (mvT hZ (hw _ (List.mem_of_getElem? (i := 2) rfl))) (mvT hZ (hw _ (List.mem_of_getElem? (i := 3) rfl))) (by decide) (backOf (W := 0) (rm1_1 l Z a0 hw [] w_FALSE w_TRUE w_UNKNOWN h0 n0 Z0 WD) hZ (hw _ (List.mem_of_getElem? (i := 3) rfl)) (hw _ (List.mem_of_getElem? (i := 2) rfl)) (by decide) (by decide)) (g := (mkF m 25 #[.val (.int p0), .val (.int p1), .val (.int (1 : Int32)), .val (.int (0 : Int32)), .unset, .unset, .unset] [(.int (1 : Int32))])) rfl (by rw [hml]; rfl) (argsL := [(.int (1 : Int32))]) (rest := []) (lenOf pd_0 rfl) rfl (by show 2 * 0 + _ ≤ _; exact Nat.le_of_eq rfl) (hb hby at_25) (fun _ _ => ⟨rfl, e0, (by decide : 0 + 0 ≤ _), (by decide : 0 + 0 ≤ _)⟩)
      dsimp only [Pt.U, Pt.locs, Pt.cells, Pt.slots] at X22 l22 y22 z22 st22 hQ22
      subst l22 y22 z22
      obtain ⟨rfl, N22q, e22⟩ := hQ22
      have N22 := Fr.app N0 N22q
      obtain ⟨_, _, ⟨T23, L23, k23, n23⟩, -, X23, ⟨Lc23, hQ23, l23, y23, z23⟩, st23⟩ := Jvm.LawKit.callS X22 hx (y := (⟨"com/example/consent/consent/model/Truth", "of", "(Z)Lcom/example/consent/consent/model/Truth;"⟩ : MethodName)) hown (mvT hZ (hw _ (List.mem_of_getElem? (i := 0) rfl))) (mvT hZ (hw _ (List.mem_of_getElem? (i := 1) rfl))) (mvT hZ (hw _ (List.mem_of_getElem? (i := 2) rfl))) (mvT hZ (hw _ (List.mem_of_getElem? (i := 3) rfl))) (by decide) (backOf (W := 0) (rm1_0 l Z a0 hw [] w_FALSE w_TRUE w_UNKNOWN h0 n0 Z0 WD) hZ (hw _ (List.mem_of_getElem? (i := 3) rfl)) (hw _ (List.mem_of_getElem? (i := 2) rfl)) (by decide) (by decide)) (g := (mkF m 31 #[.val (.int p0), .val (.int p1), .val (.int (1 : Int32)), .val (.int (0 : Int32)), .val (.ref w_TRUE), .unset, .unset] [(.int (0 : Int32))])) rfl (by rw [hml]; rfl) (argsL := [(.int (0 : Int32))]) (rest := []) (lenOf pd_0 rfl) rfl (by show 2 * 0 + _ ≤ _; exact Nat.le_of_eq rfl) (hb hby at_31) (fun _ _ => ⟨rfl, e22, (by decide : 0 + 0 ≤ _), (by decide : 0 + 0 ≤ _)⟩)
      dsimp only [Pt.U, Pt.locs, Pt.cells, Pt.slots] at X23 l23 y23 z23 st23 hQ23
      subst l23 y23 z23
      obtain ⟨rfl, N23q, e23⟩ := hQ23
      have N23 := Fr.app N22 N23q
      obtain ⟨_, _, ⟨T24, L24, k24, n24⟩, -, X24, ⟨Lc24, hQ24, l24, y24, z24⟩, st24⟩ := Jvm.LawKit.callS X23 hx (y := (⟨"com/example/consent/consent/model/Truth", "of", "(Z)Lcom/example/consent/consent/model/Truth;"⟩ : MethodName)) hown (mvT hZ (hw _ (List.mem_of_getElem? (i := 0) rfl))) (mvT hZ (hw _ (List.mem_of_getElem? (i := 1) rfl))) (mvT hZ (hw _ (List.mem_of_getElem? (i := 2) rfl))) (mvT hZ (hw _ (List.mem_of_getElem? (i := 3) rfl))) (by decide) (backOf (W := 0) (rm1_0 l Z a0 hw [] w_FALSE w_TRUE w_UNKNOWN h0 n0 Z0 WD) hZ (hw _ (List.mem_of_getElem? (i := 3) rfl)) (hw _ (List.mem_of_getElem? (i := 2) rfl)) (by decide) (by decide)) (g := (mkF m 49 #[.val (.int p0), .val (.int p1), .val (.int (1 : Int32)), .val (.int (0 : Int32)), .val (.ref w_TRUE), .val (.ref w_FALSE), .unset] [(.int (0 : Int32))])) rfl (by rw [hml]; rfl) (argsL := [(.int (0 : Int32))]) (rest := []) (lenOf pd_0 rfl) rfl (by show 2 * 0 + _ ≤ _; exact Nat.le_of_eq rfl) (hb hby at_49) (fun _ _ => ⟨rfl, e23, (by decide : 0 + 0 ≤ _), (by decide : 0 + 0 ≤ _)⟩)
      dsimp only [Pt.U, Pt.locs, Pt.cells, Pt.slots] at X24 l24 y24 z24 st24 hQ24
      subst l24 y24 z24
      obtain ⟨rfl, N24q, e24⟩ := hQ24
      have N24 := Fr.app N23 N24q
      obtain ⟨T25, X25, e25, st25⟩ := getS2 X24 hx hZ hown (host := "") (Or.inl (hw _ (List.mem_of_getElem? (i := 8) rfl))) Via.refl e24 S_UNKNOWN (g := (mkF m 73 #[.val (.int p0), .val (.int p1), .val (.int (1 : Int32)), .val (.int (0 : Int32)), .val (.ref w_TRUE), .val (.ref w_FALSE), .val (.ref w_FALSE)] [(.ref w_TRUE)])) rfl (hb hby at_73)
      obtain ⟨T26, X26, e26, st26⟩ := getS2 X25 hx hZ hown (host := "") (Or.inl (hw _ (List.mem_of_getElem? (i := 8) rfl))) Via.refl e25 S_UNKNOWN (g := (mkF m 81 #[.val (.int p0), .val (.int p1), .val (.int (1 : Int32)), .val (.int (0 : Int32)), .val (.ref w_TRUE), .val (.ref w_FALSE), .val (.ref w_FALSE)] [(.ref w_FALSE)])) rfl (hb hby at_81)
      obtain ⟨T27, X27, e27, st27⟩ := getS2 X26 hx hZ hown (host := "") (Or.inl (hw _ (List.mem_of_getElem? (i := 8) rfl))) Via.refl e26 S_UNKNOWN (g := (mkF m 89 #[.val (.int p0), .val (.int p1), .val (.int (1 : Int32)), .val (.int (0 : Int32)), .val (.ref w_TRUE), .val (.ref w_FALSE), .val (.ref w_FALSE)] [(.ref w_FALSE)])) rfl (hb hby at_89)
      obtain ⟨T28, X28, e28, st28⟩ := getS2 X27 hx hZ hown (host := "") (Or.inl (hw _ (List.mem_of_getElem? (i := 10) rfl))) Via.refl e27 S_TRUE (g := (mkF m 99 #[.val (.int p0), .val (.int p1), .val (.int (1 : Int32)), .val (.int (0 : Int32)), .val (.ref w_TRUE), .val (.ref w_FALSE), .val (.ref w_FALSE)] [(.ref w_TRUE)])) rfl (hb hby at_99)
      obtain ⟨T29, X29, e29, st29⟩ := getS2 X28 hx hZ hown (host := "") (Or.inl (hw _ (List.mem_of_getElem? (i := 10) rfl))) Via.refl e28 S_TRUE (g := (mkF m 118 #[.val (.int p0), .val (.int p1), .val (.int (1 : Int32)), .val (.int (0 : Int32)), .val (.ref w_TRUE), .val (.ref w_FALSE), .val (.ref w_FALSE)] [(.ref w_FALSE)])) rfl (hb hby at_118)
      obtain ⟨cq30, kq30, q30a, q30b, q30c⟩ := isOf hZ e29 E_TRUE
      obtain ⟨_, _, ⟨T30, L30, k30, n30⟩, -, X30, ⟨Lc30, hQ30, l30, y30, z30⟩, st30⟩ := X29.virtualBack hx (y := (⟨"com/example/consent/consent/model/Truth", "and", "(Lcom/example/consent/consent/model/Truth;)Lcom/example/consent/consent/model/Truth;"⟩ : MethodName)) (z := (⟨"com/example/consent/consent/model/Truth", "and", "(Lcom/example/consent/consent/model/Truth;)Lcom/example/consent/consent/model/Truth;"⟩ : MethodName)) hown (mvT hZ (hw _ (List.mem_of_getElem? (i := 11) rfl))) (mvT hZ (hw _ (List.mem_of_getElem? (i := 12) rfl))) (notFace_of_selects (args := #[]) (mvT hZ (hw _ (List.mem_of_getElem? (i := 14) rfl)))) (mvT hZ (hw _ (List.mem_of_getElem? (i := 14) rfl))) (mvT hZ (hw _ (List.mem_of_getElem? (i := 13) rfl))) (by decide) (backOf (W := 0) (rm2 l Z a0 hw [] w_TRUE w_FALSE w_FALSE w_TRUE w_UNKNOWN h0 n0 Z0 WD) hZ (hw _ (List.mem_of_getElem? (i := 15) rfl)) (hw _ (List.mem_of_getElem? (i := 2) rfl)) (by decide) (by decide)) q30a q30c (g := (mkF m 139 #[.val (.int p0), .val (.int p1), .val (.int (1 : Int32)), .val (.int (0 : Int32)), .val (.ref w_TRUE), .val (.ref w_FALSE), .val (.ref w_FALSE)] [(.ref w_FALSE), (.ref w_TRUE)])) rfl (by rw [hml]; rfl) (Steps.refl _) (argsL := [(.ref w_FALSE)]) (rest := []) (lenOf pd_1 rfl) rfl (by show 2 * 0 + _ ≤ _; exact Nat.le_of_eq rfl) (hb hby at_139) (fun _ _ => ⟨rfl, e29, (by decide : 0 + 0 ≤ _), (by decide : 0 + 0 ≤ _)⟩)
      dsimp only [Pt.U, Pt.locs, Pt.cells, Pt.slots] at X30 l30 y30 z30 st30 hQ30
      subst l30 y30 z30
      obtain ⟨rfl, N30q, e30⟩ := hQ30
      have N30 := Fr.app N24 N30q
      obtain ⟨fs, hr, hrun, hended, hW, hsame⟩ := X30.leave (v := some (.int (1 : Int32))) (fun h => by rw [Bd.returns] at h; cases h)
      refine ⟨_, _, pre0 _ ?_, hrun, hended, _, _, rfl, ?_, ⟨_, rfl⟩, hW, hsame.mono (by decide) (by decide)⟩
      · show Steps p.tables e below (s₁.setTop (mkF m 0 #[.val (.int p0), .val (.int p1), .unset, .unset, .unset, .unset, .unset] [])) _
        refine XS.iloadN X0.here hx rfl (hb hby at_0) rfl ?_
        show Steps p.tables e below (s₁.setTop (mkF m 1 #[.val (.int p0), .val (.int p1), .unset, .unset, .unset, .unset, .unset] [(.int p0)])) _
        refine XS.iconst X0.here hx rfl (hb hby at_1) ?_
        show Steps p.tables e below (s₁.setTop (mkF m 2 #[.val (.int p0), .val (.int p1), .unset, .unset, .unset, .unset, .unset] [(.int (1 : Int32)), (.int p0)])) _
        refine XS.iand X0.here hx rfl (hb hby at_2) rfl ?_
        show Steps p.tables e below (s₁.setTop (mkF m 3 #[.val (.int p0), .val (.int p1), .unset, .unset, .unset, .unset, .unset] [(.int (p0 &&& (1 : Int32)))])) _
        refine XS.ifNo X0.here hx rfl (hb hby at_3) rfl ((if0 _ _).trans (feq hc1).1) ?_
        show Steps p.tables e below (s₁.setTop (mkF m 6 #[.val (.int p0), .val (.int p1), .unset, .unset, .unset, .unset, .unset] [])) _
        refine XS.iconst X0.here hx rfl (hb hby at_6) ?_
        show Steps p.tables e below (s₁.setTop (mkF m 7 #[.val (.int p0), .val (.int p1), .unset, .unset, .unset, .unset, .unset] [(.int (1 : Int32))])) _
        refine XS.goto X0.here hx rfl (pc0 := 7) (pc' := 11) rfl (hb hby at_7) (by decide) (by decide) ?_
        show Steps p.tables e below (s₁.setTop (mkF m 11 #[.val (.int p0), .val (.int p1), .unset, .unset, .unset, .unset, .unset] [(.int (1 : Int32))])) _
        refine XS.istoreN X0.here hx rfl (hb hby at_11) rfl (l' := #[.val (.int p0), .val (.int p1), .val (.int (1 : Int32)), .unset, .unset, .unset, .unset]) rfl ?_
        show Steps p.tables e below (s₁.setTop (mkF m 12 #[.val (.int p0), .val (.int p1), .val (.int (1 : Int32)), .unset, .unset, .unset, .unset] [])) _
        refine XS.iloadN X0.here hx rfl (hb hby at_12) rfl ?_
        show Steps p.tables e below (s₁.setTop (mkF m 13 #[.val (.int p0), .val (.int p1), .val (.int (1 : Int32)), .unset, .unset, .unset, .unset] [(.int p1)])) _
        refine XS.iconst X0.here hx rfl (hb hby at_13) ?_
        show Steps p.tables e below (s₁.setTop (mkF m 14 #[.val (.int p0), .val (.int p1), .val (.int (1 : Int32)), .unset, .unset, .unset, .unset] [(.int (1 : Int32)), (.int p1)])) _
        refine XS.iand X0.here hx rfl (hb hby at_14) rfl ?_
        show Steps p.tables e below (s₁.setTop (mkF m 15 #[.val (.int p0), .val (.int p1), .val (.int (1 : Int32)), .unset, .unset, .unset, .unset] [(.int (p1 &&& (1 : Int32)))])) _
        refine XS.ifYes X0.here hx rfl (pc0 := 15) (pc' := 22) rfl (hb hby at_15) rfl ((if0 _ _).trans (teq hc21).1) (by decide) (by decide) ?_
        show Steps p.tables e below (s₁.setTop (mkF m 22 #[.val (.int p0), .val (.int p1), .val (.int (1 : Int32)), .unset, .unset, .unset, .unset] [])) _
        refine XS.iconst X0.here hx rfl (hb hby at_22) ?_
        show Steps p.tables e below (s₁.setTop (mkF m 23 #[.val (.int p0), .val (.int p1), .val (.int (1 : Int32)), .unset, .unset, .unset, .unset] [(.int (0 : Int32))])) _
        refine XS.istoreN X0.here hx rfl (hb hby at_23) rfl (l' := #[.val (.int p0), .val (.int p1), .val (.int (1 : Int32)), .val (.int (0 : Int32)), .unset, .unset, .unset]) rfl ?_
        show Steps p.tables e below (s₁.setTop (mkF m 24 #[.val (.int p0), .val (.int p1), .val (.int (1 : Int32)), .val (.int (0 : Int32)), .unset, .unset, .unset] [])) _
        refine XS.iloadN X0.here hx rfl (hb hby at_24) rfl ?_
        show Steps p.tables e below (s₁.setTop (mkF m 25 #[.val (.int p0), .val (.int p1), .val (.int (1 : Int32)), .val (.int (0 : Int32)), .unset, .unset, .unset] [(.int (1 : Int32))])) _
        refine st22 _ ?_
        show Steps p.tables e below (T22.setTop (mkF m 28 #[.val (.int p0), .val (.int p1), .val (.int (1 : Int32)), .val (.int (0 : Int32)), .unset, .unset, .unset] [(.ref w_TRUE)])) _
        refine XS.astore X22.here hx rfl (hb hby at_28) rfl rfl (l' := #[.val (.int p0), .val (.int p1), .val (.int (1 : Int32)), .val (.int (0 : Int32)), .val (.ref w_TRUE), .unset, .unset]) rfl ?_
        show Steps p.tables e below (T22.setTop (mkF m 30 #[.val (.int p0), .val (.int p1), .val (.int (1 : Int32)), .val (.int (0 : Int32)), .val (.ref w_TRUE), .unset, .unset] [])) _
        refine XS.iloadN X22.here hx rfl (hb hby at_30) rfl ?_
        show Steps p.tables e below (T22.setTop (mkF m 31 #[.val (.int p0), .val (.int p1), .val (.int (1 : Int32)), .val (.int (0 : Int32)), .val (.ref w_TRUE), .unset, .unset] [(.int (0 : Int32))])) _
        refine st23 _ ?_
        show Steps p.tables e below (T23.setTop (mkF m 34 #[.val (.int p0), .val (.int p1), .val (.int (1 : Int32)), .val (.int (0 : Int32)), .val (.ref w_TRUE), .unset, .unset] [(.ref w_FALSE)])) _
        refine XS.astore X23.here hx rfl (hb hby at_34) rfl rfl (l' := #[.val (.int p0), .val (.int p1), .val (.int (1 : Int32)), .val (.int (0 : Int32)), .val (.ref w_TRUE), .val (.ref w_FALSE), .unset]) rfl ?_
        show Steps p.tables e below (T23.setTop (mkF m 36 #[.val (.int p0), .val (.int p1), .val (.int (1 : Int32)), .val (.int (0 : Int32)), .val (.ref w_TRUE), .val (.ref w_FALSE), .unset] [])) _
        refine XS.iloadN X23.here hx rfl (hb hby at_36) rfl ?_
        show Steps p.tables e below (T23.setTop (mkF m 37 #[.val (.int p0), .val (.int p1), .val (.int (1 : Int32)), .val (.int (0 : Int32)), .val (.ref w_TRUE), .val (.ref w_FALSE), .unset] [(.int (1 : Int32))])) _
        refine XS.ifNo X23.here hx rfl (hb hby at_37) rfl ((if0 _ _).trans (feq (by decide : ¬ ((1 : Int32) = (0 : Int32)))).1) ?_
        show Steps p.tables e below (T23.setTop (mkF m 40 #[.val (.int p0), .val (.int p1), .val (.int (1 : Int32)), .val (.int (0 : Int32)), .val (.ref w_TRUE), .val (.ref w_FALSE), .unset] [])) _
        refine XS.iloadN X23.here hx rfl (hb hby at_40) rfl ?_
        show Steps p.tables e below (T23.setTop (mkF m 41 #[.val (.int p0), .val (.int p1), .val (.int (1 : Int32)), .val (.int (0 : Int32)), .val (.ref w_TRUE), .val (.ref w_FALSE), .unset] [(.int (0 : Int32))])) _
        refine XS.ifYes X23.here hx rfl (pc0 := 41) (pc' := 48) rfl (hb hby at_41) rfl ((if0 _ _).trans (teq (by decide : (0 : Int32) = (0 : Int32))).1) (by decide) (by decide) ?_
        show Steps p.tables e below (T23.setTop (mkF m 48 #[.val (.int p0), .val (.int p1), .val (.int (1 : Int32)), .val (.int (0 : Int32)), .val (.ref w_TRUE), .val (.ref w_FALSE), .unset] [])) _
        refine XS.iconst X23.here hx rfl (hb hby at_48) ?_
        show Steps p.tables e below (T23.setTop (mkF m 49 #[.val (.int p0), .val (.int p1), .val (.int (1 : Int32)), .val (.int (0 : Int32)), .val (.ref w_TRUE), .val (.ref w_FALSE), .unset] [(.int (0 : Int32))])) _
        refine st24 _ ?_
        show Steps p.tables e below (T24.setTop (mkF m 52 #[.val (.int p0), .val (.int p1), .val (.int (1 : Int32)), .val (.int (0 : Int32)), .val (.ref w_TRUE), .val (.ref w_FALSE), .unset] [(.ref w_FALSE)])) _
        refine XS.astore X24.here hx rfl (hb hby at_52) rfl rfl (l' := #[.val (.int p0), .val (.int p1), .val (.int (1 : Int32)), .val (.int (0 : Int32)), .val (.ref w_TRUE), .val (.ref w_FALSE), .val (.ref w_FALSE)]) rfl ?_
        show Steps p.tables e below (T24.setTop (mkF m 54 #[.val (.int p0), .val (.int p1), .val (.int (1 : Int32)), .val (.int (0 : Int32)), .val (.ref w_TRUE), .val (.ref w_FALSE), .val (.ref w_FALSE)] [])) _
        refine XS.aload X24.here hx rfl (hb hby at_54) rfl rfl ?_
        show Steps p.tables e below (T24.setTop (mkF m 56 #[.val (.int p0), .val (.int p1), .val (.int (1 : Int32)), .val (.int (0 : Int32)), .val (.ref w_TRUE), .val (.ref w_FALSE), .val (.ref w_FALSE)] [(.ref w_TRUE)])) _
        refine XS.ifnullNo X24.here hx rfl (hb hby at_56) rfl ?_
        show Steps p.tables e below (T24.setTop (mkF m 59 #[.val (.int p0), .val (.int p1), .val (.int (1 : Int32)), .val (.int (0 : Int32)), .val (.ref w_TRUE), .val (.ref w_FALSE), .val (.ref w_FALSE)] [])) _
        refine XS.aload X24.here hx rfl (hb hby at_59) rfl rfl ?_
        show Steps p.tables e below (T24.setTop (mkF m 61 #[.val (.int p0), .val (.int p1), .val (.int (1 : Int32)), .val (.int (0 : Int32)), .val (.ref w_TRUE), .val (.ref w_FALSE), .val (.ref w_FALSE)] [(.ref w_FALSE)])) _
        refine XS.ifnullNo X24.here hx rfl (hb hby at_61) rfl ?_
        show Steps p.tables e below (T24.setTop (mkF m 64 #[.val (.int p0), .val (.int p1), .val (.int (1 : Int32)), .val (.int (0 : Int32)), .val (.ref w_TRUE), .val (.ref w_FALSE), .val (.ref w_FALSE)] [])) _
        refine XS.aload X24.here hx rfl (hb hby at_64) rfl rfl ?_
        show Steps p.tables e below (T24.setTop (mkF m 66 #[.val (.int p0), .val (.int p1), .val (.int (1 : Int32)), .val (.int (0 : Int32)), .val (.ref w_TRUE), .val (.ref w_FALSE), .val (.ref w_FALSE)] [(.ref w_FALSE)])) _
        refine XS.ifnonnullYes X24.here hx rfl (pc0 := 66) (pc' := 71) rfl (hb hby at_66) rfl (by decide) (by decide) ?_
        show Steps p.tables e below (T24.setTop (mkF m 71 #[.val (.int p0), .val (.int p1), .val (.int (1 : Int32)), .val (.int (0 : Int32)), .val (.ref w_TRUE), .val (.ref w_FALSE), .val (.ref w_FALSE)] [])) _
        refine XS.aload X24.here hx rfl (hb hby at_71) rfl rfl ?_
        show Steps p.tables e below (T24.setTop (mkF m 73 #[.val (.int p0), .val (.int p1), .val (.int (1 : Int32)), .val (.int (0 : Int32)), .val (.ref w_TRUE), .val (.ref w_FALSE), .val (.ref w_FALSE)] [(.ref w_TRUE)])) _
        refine st25 _ ?_
        show Steps p.tables e below (T25.setTop (mkF m 76 #[.val (.int p0), .val (.int p1), .val (.int (1 : Int32)), .val (.int (0 : Int32)), .val (.ref w_TRUE), .val (.ref w_FALSE), .val (.ref w_FALSE)] [(.ref w_UNKNOWN), (.ref w_TRUE)])) _
        refine Jvm.RoadKit.acmp (g := (mkF m 76 #[.val (.int p0), .val (.int p1), .val (.int (1 : Int32)), .val (.int (0 : Int32)), .val (.ref w_TRUE), .val (.ref w_FALSE), .val (.ref w_FALSE)] [(.ref w_UNKNOWN), (.ref w_TRUE)])) X25 hx rfl rfl rfl (pc0 := 76) (pc' := 79) (same := false) rfl (hb hby at_76) rfl (decide_eq_false fun q => ne_TRUE_UNKNOWN (Value.ref.inj q)) (by decide) (by decide) ?_
        show Steps p.tables e below (T25.setTop (mkF m 79 #[.val (.int p0), .val (.int p1), .val (.int (1 : Int32)), .val (.int (0 : Int32)), .val (.ref w_TRUE), .val (.ref w_FALSE), .val (.ref w_FALSE)] [])) _
        refine XS.aload X25.here hx rfl (hb hby at_79) rfl rfl ?_
        show Steps p.tables e below (T25.setTop (mkF m 81 #[.val (.int p0), .val (.int p1), .val (.int (1 : Int32)), .val (.int (0 : Int32)), .val (.ref w_TRUE), .val (.ref w_FALSE), .val (.ref w_FALSE)] [(.ref w_FALSE)])) _
        refine st26 _ ?_
        show Steps p.tables e below (T26.setTop (mkF m 84 #[.val (.int p0), .val (.int p1), .val (.int (1 : Int32)), .val (.int (0 : Int32)), .val (.ref w_TRUE), .val (.ref w_FALSE), .val (.ref w_FALSE)] [(.ref w_UNKNOWN), (.ref w_FALSE)])) _
        refine Jvm.RoadKit.acmp (g := (mkF m 84 #[.val (.int p0), .val (.int p1), .val (.int (1 : Int32)), .val (.int (0 : Int32)), .val (.ref w_TRUE), .val (.ref w_FALSE), .val (.ref w_FALSE)] [(.ref w_UNKNOWN), (.ref w_FALSE)])) X26 hx rfl rfl rfl (pc0 := 84) (pc' := 87) (same := false) rfl (hb hby at_84) rfl (decide_eq_false fun q => ne_FALSE_UNKNOWN (Value.ref.inj q)) (by decide) (by decide) ?_
        show Steps p.tables e below (T26.setTop (mkF m 87 #[.val (.int p0), .val (.int p1), .val (.int (1 : Int32)), .val (.int (0 : Int32)), .val (.ref w_TRUE), .val (.ref w_FALSE), .val (.ref w_FALSE)] [])) _
        refine XS.aload X26.here hx rfl (hb hby at_87) rfl rfl ?_
        show Steps p.tables e below (T26.setTop (mkF m 89 #[.val (.int p0), .val (.int p1), .val (.int (1 : Int32)), .val (.int (0 : Int32)), .val (.ref w_TRUE), .val (.ref w_FALSE), .val (.ref w_FALSE)] [(.ref w_FALSE)])) _
        refine st27 _ ?_
        show Steps p.tables e below (T27.setTop (mkF m 92 #[.val (.int p0), .val (.int p1), .val (.int (1 : Int32)), .val (.int (0 : Int32)), .val (.ref w_TRUE), .val (.ref w_FALSE), .val (.ref w_FALSE)] [(.ref w_UNKNOWN), (.ref w_FALSE)])) _
        refine Jvm.RoadKit.acmp (g := (mkF m 92 #[.val (.int p0), .val (.int p1), .val (.int (1 : Int32)), .val (.int (0 : Int32)), .val (.ref w_TRUE), .val (.ref w_FALSE), .val (.ref w_FALSE)] [(.ref w_UNKNOWN), (.ref w_FALSE)])) X27 hx rfl rfl rfl (pc0 := 92) (pc' := 97) (same := false) rfl (hb hby at_92) rfl (decide_eq_false fun q => ne_FALSE_UNKNOWN (Value.ref.inj q)) (by decide) (by decide) ?_
        show Steps p.tables e below (T27.setTop (mkF m 97 #[.val (.int p0), .val (.int p1), .val (.int (1 : Int32)), .val (.int (0 : Int32)), .val (.ref w_TRUE), .val (.ref w_FALSE), .val (.ref w_FALSE)] [])) _
        refine XS.aload X27.here hx rfl (hb hby at_97) rfl rfl ?_
        show Steps p.tables e below (T27.setTop (mkF m 99 #[.val (.int p0), .val (.int p1), .val (.int (1 : Int32)), .val (.int (0 : Int32)), .val (.ref w_TRUE), .val (.ref w_FALSE), .val (.ref w_FALSE)] [(.ref w_TRUE)])) _
        refine st28 _ ?_
        show Steps p.tables e below (T28.setTop (mkF m 102 #[.val (.int p0), .val (.int p1), .val (.int (1 : Int32)), .val (.int (0 : Int32)), .val (.ref w_TRUE), .val (.ref w_FALSE), .val (.ref w_FALSE)] [(.ref w_TRUE), (.ref w_TRUE)])) _
        refine Jvm.RoadKit.acmp (g := (mkF m 102 #[.val (.int p0), .val (.int p1), .val (.int (1 : Int32)), .val (.int (0 : Int32)), .val (.ref w_TRUE), .val (.ref w_FALSE), .val (.ref w_FALSE)] [(.ref w_TRUE), (.ref w_TRUE)])) X28 hx rfl rfl rfl (pc0 := 102) (pc' := 105) (same := true) rfl (hb hby at_102) rfl (decide_eq_true rfl) (by decide) (by decide) ?_
        show Steps p.tables e below (T28.setTop (mkF m 105 #[.val (.int p0), .val (.int p1), .val (.int (1 : Int32)), .val (.int (0 : Int32)), .val (.ref w_TRUE), .val (.ref w_FALSE), .val (.ref w_FALSE)] [])) _
        refine XS.iconst X28.here hx rfl (hb hby at_105) ?_
        show Steps p.tables e below (T28.setTop (mkF m 106 #[.val (.int p0), .val (.int p1), .val (.int (1 : Int32)), .val (.int (0 : Int32)), .val (.ref w_TRUE), .val (.ref w_FALSE), .val (.ref w_FALSE)] [(.int (1 : Int32))])) _
        refine XS.goto X28.here hx rfl (pc0 := 106) (pc' := 110) rfl (hb hby at_106) (by decide) (by decide) ?_
        show Steps p.tables e below (T28.setTop (mkF m 110 #[.val (.int p0), .val (.int p1), .val (.int (1 : Int32)), .val (.int (0 : Int32)), .val (.ref w_TRUE), .val (.ref w_FALSE), .val (.ref w_FALSE)] [(.int (1 : Int32))])) _
        refine XS.iloadN X28.here hx rfl (hb hby at_110) rfl ?_
        show Steps p.tables e below (T28.setTop (mkF m 111 #[.val (.int p0), .val (.int p1), .val (.int (1 : Int32)), .val (.int (0 : Int32)), .val (.ref w_TRUE), .val (.ref w_FALSE), .val (.ref w_FALSE)] [(.int (1 : Int32)), (.int (1 : Int32))])) _
        refine XS.icmpYes X28.here hx rfl (pc0 := 111) (pc' := 116) rfl (hb hby at_111) rfl (teq (by decide : (1 : Int32) = (1 : Int32))).1 (by decide) (by decide) ?_
        show Steps p.tables e below (T28.setTop (mkF m 116 #[.val (.int p0), .val (.int p1), .val (.int (1 : Int32)), .val (.int (0 : Int32)), .val (.ref w_TRUE), .val (.ref w_FALSE), .val (.ref w_FALSE)] [])) _
        refine XS.aload X28.here hx rfl (hb hby at_116) rfl rfl ?_
        show Steps p.tables e below (T28.setTop (mkF m 118 #[.val (.int p0), .val (.int p1), .val (.int (1 : Int32)), .val (.int (0 : Int32)), .val (.ref w_TRUE), .val (.ref w_FALSE), .val (.ref w_FALSE)] [(.ref w_FALSE)])) _
        refine st29 _ ?_
        show Steps p.tables e below (T29.setTop (mkF m 121 #[.val (.int p0), .val (.int p1), .val (.int (1 : Int32)), .val (.int (0 : Int32)), .val (.ref w_TRUE), .val (.ref w_FALSE), .val (.ref w_FALSE)] [(.ref w_TRUE), (.ref w_FALSE)])) _
        refine Jvm.RoadKit.acmp (g := (mkF m 121 #[.val (.int p0), .val (.int p1), .val (.int (1 : Int32)), .val (.int (0 : Int32)), .val (.ref w_TRUE), .val (.ref w_FALSE), .val (.ref w_FALSE)] [(.ref w_TRUE), (.ref w_FALSE)])) X29 hx rfl rfl rfl (pc0 := 121) (pc' := 128) (same := false) rfl (hb hby at_121) rfl (decide_eq_false fun q => ne_FALSE_TRUE (Value.ref.inj q)) (by decide) (by decide) ?_
        show Steps p.tables e below (T29.setTop (mkF m 128 #[.val (.int p0), .val (.int p1), .val (.int (1 : Int32)), .val (.int (0 : Int32)), .val (.ref w_TRUE), .val (.ref w_FALSE), .val (.ref w_FALSE)] [])) _
        refine XS.iconst X29.here hx rfl (hb hby at_128) ?_
        show Steps p.tables e below (T29.setTop (mkF m 129 #[.val (.int p0), .val (.int p1), .val (.int (1 : Int32)), .val (.int (0 : Int32)), .val (.ref w_TRUE), .val (.ref w_FALSE), .val (.ref w_FALSE)] [(.int (0 : Int32))])) _
        refine XS.iloadN X29.here hx rfl (hb hby at_129) rfl ?_
        show Steps p.tables e below (T29.setTop (mkF m 130 #[.val (.int p0), .val (.int p1), .val (.int (1 : Int32)), .val (.int (0 : Int32)), .val (.ref w_TRUE), .val (.ref w_FALSE), .val (.ref w_FALSE)] [(.int (0 : Int32)), (.int (0 : Int32))])) _
        refine XS.icmpYes X29.here hx rfl (pc0 := 130) (pc' := 135) rfl (hb hby at_130) rfl (teq (by decide : (0 : Int32) = (0 : Int32))).1 (by decide) (by decide) ?_
        show Steps p.tables e below (T29.setTop (mkF m 135 #[.val (.int p0), .val (.int p1), .val (.int (1 : Int32)), .val (.int (0 : Int32)), .val (.ref w_TRUE), .val (.ref w_FALSE), .val (.ref w_FALSE)] [])) _
        refine XS.aload X29.here hx rfl (hb hby at_135) rfl rfl ?_
        show Steps p.tables e below (T29.setTop (mkF m 137 #[.val (.int p0), .val (.int p1), .val (.int (1 : Int32)), .val (.int (0 : Int32)), .val (.ref w_TRUE), .val (.ref w_FALSE), .val (.ref w_FALSE)] [(.ref w_TRUE)])) _
        refine XS.aload X29.here hx rfl (hb hby at_137) rfl rfl ?_
        show Steps p.tables e below (T29.setTop (mkF m 139 #[.val (.int p0), .val (.int p1), .val (.int (1 : Int32)), .val (.int (0 : Int32)), .val (.ref w_TRUE), .val (.ref w_FALSE), .val (.ref w_FALSE)] [(.ref w_FALSE), (.ref w_TRUE)])) _
        refine st30.trans ?_
        show Steps p.tables e below (T30.setTop (mkF m 142 #[.val (.int p0), .val (.int p1), .val (.int (1 : Int32)), .val (.int (0 : Int32)), .val (.ref w_TRUE), .val (.ref w_FALSE), .val (.ref w_FALSE)] [(.ref (own_and w_TRUE w_FALSE w_FALSE w_UNKNOWN w_TRUE))])) _
        refine XS.aload X30.here hx rfl (hb hby at_142) rfl rfl ?_
        show Steps p.tables e below (T30.setTop (mkF m 144 #[.val (.int p0), .val (.int p1), .val (.int (1 : Int32)), .val (.int (0 : Int32)), .val (.ref w_TRUE), .val (.ref w_FALSE), .val (.ref w_FALSE)] [(.ref w_FALSE), (.ref (own_and w_TRUE w_FALSE w_FALSE w_UNKNOWN w_TRUE))])) _
        refine Jvm.RoadKit.acmp (g := (mkF m 144 #[.val (.int p0), .val (.int p1), .val (.int (1 : Int32)), .val (.int (0 : Int32)), .val (.ref w_TRUE), .val (.ref w_FALSE), .val (.ref w_FALSE)] [(.ref w_FALSE), (.ref (own_and w_TRUE w_FALSE w_FALSE w_UNKNOWN w_TRUE))])) X30 hx rfl rfl rfl (pc0 := 144) (pc' := 147) (same := true) rfl (hb hby at_144) rfl (decide_eq_true (congrArg Value.ref (by simp [own_and, ne_FALSE_UNKNOWN, ne_FALSE_TRUE, ne_UNKNOWN_FALSE, ne_UNKNOWN_TRUE, ne_TRUE_FALSE, ne_TRUE_UNKNOWN] : (own_and w_TRUE w_FALSE w_FALSE w_UNKNOWN w_TRUE) = w_FALSE))) (by decide) (by decide) ?_
        show Steps p.tables e below (T30.setTop (mkF m 147 #[.val (.int p0), .val (.int p1), .val (.int (1 : Int32)), .val (.int (0 : Int32)), .val (.ref w_TRUE), .val (.ref w_FALSE), .val (.ref w_FALSE)] [])) _
        refine XS.iconst X30.here hx rfl (hb hby at_147) ?_
        show Steps p.tables e below (T30.setTop (mkF m 148 #[.val (.int p0), .val (.int p1), .val (.int (1 : Int32)), .val (.int (0 : Int32)), .val (.ref w_TRUE), .val (.ref w_FALSE), .val (.ref w_FALSE)] [(.int (1 : Int32))])) _
        refine XS.goto X30.here hx rfl (pc0 := 148) (pc' := 152) rfl (hb hby at_148) (by decide) (by decide) ?_
        show Steps p.tables e below (T30.setTop (mkF m 152 #[.val (.int p0), .val (.int p1), .val (.int (1 : Int32)), .val (.int (0 : Int32)), .val (.ref w_TRUE), .val (.ref w_FALSE), .val (.ref w_FALSE)] [(.int (1 : Int32))])) _
        exact retN X30 hx (t := .boolean) Bd.returns (by simp) (hb hby at_152) hr
      · show Q_rm0 Z p0 p1 w_FALSE w_TRUE w_UNKNOWN h0 n0 _ T30.heap _
        rw [e30]
        exact ⟨rfl, N30, rfl⟩
    · obtain ⟨_, _, ⟨T31, L31, k31, n31⟩, -, X31, ⟨Lc31, hQ31, l31, y31, z31⟩, st31⟩ := Jvm.LawKit.callS X0 hx (y := (⟨"com/example/consent/consent/model/Truth", "of", "(Z)Lcom/example/consent/consent/model/Truth;"⟩ : MethodName)) hown (mvT hZ (hw _ (List.mem_of_getElem? (i := 0) rfl))) (mvT hZ (hw _ (List.mem_of_getElem? (i := 1) rfl))) (mvT hZ (hw _ (List.mem_of_getElem? (i := 2) rfl))) (mvT hZ (hw _ (List.mem_of_getElem? (i := 3) rfl))) (by decide) (backOf (W := 0) (rm1_1 l Z a0 hw [] w_FALSE w_TRUE w_UNKNOWN h0 n0 Z0 WD) hZ (hw _ (List.mem_of_getElem? (i := 3) rfl)) (hw _ (List.mem_of_getElem? (i := 2) rfl)) (by decide) (by decide)) (g := (mkF m 25 #[.val (.int p0), .val (.int p1), .val (.int (1 : Int32)), .val (.int (1 : Int32)), .unset, .unset, .unset] [(.int (1 : Int32))])) rfl (by rw [hml]; rfl) (argsL := [(.int (1 : Int32))]) (rest := []) (lenOf pd_0 rfl) rfl (by show 2 * 0 + _ ≤ _; exact Nat.le_of_eq rfl) (hb hby at_25) (fun _ _ => ⟨rfl, e0, (by decide : 0 + 0 ≤ _), (by decide : 0 + 0 ≤ _)⟩)
      dsimp only [Pt.U, Pt.locs, Pt.cells, Pt.slots] at X31 l31 y31 z31 st31 hQ31
      subst l31 y31 z31
      obtain ⟨rfl, N31q, e31⟩ := hQ31
      have N31 := Fr.app N0 N31q
      obtain ⟨_, _, ⟨T32, L32, k32, n32⟩, -, X32, ⟨Lc32, hQ32, l32, y32, z32⟩, st32⟩ := Jvm.LawKit.callS X31 hx (y := (⟨"com/example/consent/consent/model/Truth", "of", "(Z)Lcom/example/consent/consent/model/Truth;"⟩ : MethodName)) hown (mvT hZ (hw _ (List.mem_of_getElem? (i := 0) rfl))) (mvT hZ (hw _ (List.mem_of_getElem? (i := 1) rfl))) (mvT hZ (hw _ (List.mem_of_getElem? (i := 2) rfl))) (mvT hZ (hw _ (List.mem_of_getElem? (i := 3) rfl))) (by decide) (backOf (W := 0) (rm1_1 l Z a0 hw [] w_FALSE w_TRUE w_UNKNOWN h0 n0 Z0 WD) hZ (hw _ (List.mem_of_getElem? (i := 3) rfl)) (hw _ (List.mem_of_getElem? (i := 2) rfl)) (by decide) (by decide)) (g := (mkF m 31 #[.val (.int p0), .val (.int p1), .val (.int (1 : Int32)), .val (.int (1 : Int32)), .val (.ref w_TRUE), .unset, .unset] [(.int (1 : Int32))])) rfl (by rw [hml]; rfl) (argsL := [(.int (1 : Int32))]) (rest := []) (lenOf pd_0 rfl) rfl (by show 2 * 0 + _ ≤ _; exact Nat.le_of_eq rfl) (hb hby at_31) (fun _ _ => ⟨rfl, e31, (by decide : 0 + 0 ≤ _), (by decide : 0 + 0 ≤ _)⟩)
      dsimp only [Pt.U, Pt.locs, Pt.cells, Pt.slots] at X32 l32 y32 z32 st32 hQ32
      subst l32 y32 z32
      obtain ⟨rfl, N32q, e32⟩ := hQ32
      have N32 := Fr.app N31 N32q
      obtain ⟨_, _, ⟨T33, L33, k33, n33⟩, -, X33, ⟨Lc33, hQ33, l33, y33, z33⟩, st33⟩ := Jvm.LawKit.callS X32 hx (y := (⟨"com/example/consent/consent/model/Truth", "of", "(Z)Lcom/example/consent/consent/model/Truth;"⟩ : MethodName)) hown (mvT hZ (hw _ (List.mem_of_getElem? (i := 0) rfl))) (mvT hZ (hw _ (List.mem_of_getElem? (i := 1) rfl))) (mvT hZ (hw _ (List.mem_of_getElem? (i := 2) rfl))) (mvT hZ (hw _ (List.mem_of_getElem? (i := 3) rfl))) (by decide) (backOf (W := 0) (rm1_1 l Z a0 hw [] w_FALSE w_TRUE w_UNKNOWN h0 n0 Z0 WD) hZ (hw _ (List.mem_of_getElem? (i := 3) rfl)) (hw _ (List.mem_of_getElem? (i := 2) rfl)) (by decide) (by decide)) (g := (mkF m 49 #[.val (.int p0), .val (.int p1), .val (.int (1 : Int32)), .val (.int (1 : Int32)), .val (.ref w_TRUE), .val (.ref w_TRUE), .unset] [(.int (1 : Int32))])) rfl (by rw [hml]; rfl) (argsL := [(.int (1 : Int32))]) (rest := []) (lenOf pd_0 rfl) rfl (by show 2 * 0 + _ ≤ _; exact Nat.le_of_eq rfl) (hb hby at_49) (fun _ _ => ⟨rfl, e32, (by decide : 0 + 0 ≤ _), (by decide : 0 + 0 ≤ _)⟩)
      dsimp only [Pt.U, Pt.locs, Pt.cells, Pt.slots] at X33 l33 y33 z33 st33 hQ33
      subst l33 y33 z33
      obtain ⟨rfl, N33q, e33⟩ := hQ33
      have N33 := Fr.app N32 N33q
      obtain ⟨T34, X34, e34, st34⟩ := getS2 X33 hx hZ hown (host := "") (Or.inl (hw _ (List.mem_of_getElem? (i := 8) rfl))) Via.refl e33 S_UNKNOWN (g := (mkF m 73 #[.val (.int p0), .val (.int p1), .val (.int (1 : Int32)), .val (.int (1 : Int32)), .val (.ref w_TRUE), .val (.ref w_TRUE), .val (.ref w_TRUE)] [(.ref w_TRUE)])) rfl (hb hby at_73)
      obtain ⟨T35, X35, e35, st35⟩ := getS2 X34 hx hZ hown (host := "") (Or.inl (hw _ (List.mem_of_getElem? (i := 8) rfl))) Via.refl e34 S_UNKNOWN (g := (mkF m 81 #[.val (.int p0), .val (.int p1), .val (.int (1 : Int32)), .val (.int (1 : Int32)), .val (.ref w_TRUE), .val (.ref w_TRUE), .val (.ref w_TRUE)] [(.ref w_TRUE)])) rfl (hb hby at_81)
      obtain ⟨T36, X36, e36, st36⟩ := getS2 X35 hx hZ hown (host := "") (Or.inl (hw _ (List.mem_of_getElem? (i := 8) rfl))) Via.refl e35 S_UNKNOWN (g := (mkF m 89 #[.val (.int p0), .val (.int p1), .val (.int (1 : Int32)), .val (.int (1 : Int32)), .val (.ref w_TRUE), .val (.ref w_TRUE), .val (.ref w_TRUE)] [(.ref w_TRUE)])) rfl (hb hby at_89)
      obtain ⟨T37, X37, e37, st37⟩ := getS2 X36 hx hZ hown (host := "") (Or.inl (hw _ (List.mem_of_getElem? (i := 10) rfl))) Via.refl e36 S_TRUE (g := (mkF m 99 #[.val (.int p0), .val (.int p1), .val (.int (1 : Int32)), .val (.int (1 : Int32)), .val (.ref w_TRUE), .val (.ref w_TRUE), .val (.ref w_TRUE)] [(.ref w_TRUE)])) rfl (hb hby at_99)
      obtain ⟨T38, X38, e38, st38⟩ := getS2 X37 hx hZ hown (host := "") (Or.inl (hw _ (List.mem_of_getElem? (i := 10) rfl))) Via.refl e37 S_TRUE (g := (mkF m 118 #[.val (.int p0), .val (.int p1), .val (.int (1 : Int32)), .val (.int (1 : Int32)), .val (.ref w_TRUE), .val (.ref w_TRUE), .val (.ref w_TRUE)] [(.ref w_TRUE)])) rfl (hb hby at_118)
      obtain ⟨cq39, kq39, q39a, q39b, q39c⟩ := isOf hZ e38 E_TRUE
      obtain ⟨_, _, ⟨T39, L39, k39, n39⟩, -, X39, ⟨Lc39, hQ39, l39, y39, z39⟩, st39⟩ := X38.virtualBack hx (y := (⟨"com/example/consent/consent/model/Truth", "and", "(Lcom/example/consent/consent/model/Truth;)Lcom/example/consent/consent/model/Truth;"⟩ : MethodName)) (z := (⟨"com/example/consent/consent/model/Truth", "and", "(Lcom/example/consent/consent/model/Truth;)Lcom/example/consent/consent/model/Truth;"⟩ : MethodName)) hown (mvT hZ (hw _ (List.mem_of_getElem? (i := 11) rfl))) (mvT hZ (hw _ (List.mem_of_getElem? (i := 12) rfl))) (notFace_of_selects (args := #[]) (mvT hZ (hw _ (List.mem_of_getElem? (i := 14) rfl)))) (mvT hZ (hw _ (List.mem_of_getElem? (i := 14) rfl))) (mvT hZ (hw _ (List.mem_of_getElem? (i := 13) rfl))) (by decide) (backOf (W := 0) (rm2 l Z a0 hw [] w_TRUE w_TRUE w_FALSE w_TRUE w_UNKNOWN h0 n0 Z0 WD) hZ (hw _ (List.mem_of_getElem? (i := 15) rfl)) (hw _ (List.mem_of_getElem? (i := 2) rfl)) (by decide) (by decide)) q39a q39c (g := (mkF m 139 #[.val (.int p0), .val (.int p1), .val (.int (1 : Int32)), .val (.int (1 : Int32)), .val (.ref w_TRUE), .val (.ref w_TRUE), .val (.ref w_TRUE)] [(.ref w_TRUE), (.ref w_TRUE)])) rfl (by rw [hml]; rfl) (Steps.refl _) (argsL := [(.ref w_TRUE)]) (rest := []) (lenOf pd_1 rfl) rfl (by show 2 * 0 + _ ≤ _; exact Nat.le_of_eq rfl) (hb hby at_139) (fun _ _ => ⟨rfl, e38, (by decide : 0 + 0 ≤ _), (by decide : 0 + 0 ≤ _)⟩)
      dsimp only [Pt.U, Pt.locs, Pt.cells, Pt.slots] at X39 l39 y39 z39 st39 hQ39
      subst l39 y39 z39
      obtain ⟨rfl, N39q, e39⟩ := hQ39
      have N39 := Fr.app N33 N39q
      obtain ⟨fs, hr, hrun, hended, hW, hsame⟩ := X39.leave (v := some (.int (1 : Int32))) (fun h => by rw [Bd.returns] at h; cases h)
      refine ⟨_, _, pre0 _ ?_, hrun, hended, _, _, rfl, ?_, ⟨_, rfl⟩, hW, hsame.mono (by decide) (by decide)⟩
      · show Steps p.tables e below (s₁.setTop (mkF m 0 #[.val (.int p0), .val (.int p1), .unset, .unset, .unset, .unset, .unset] [])) _
        refine XS.iloadN X0.here hx rfl (hb hby at_0) rfl ?_
        show Steps p.tables e below (s₁.setTop (mkF m 1 #[.val (.int p0), .val (.int p1), .unset, .unset, .unset, .unset, .unset] [(.int p0)])) _
        refine XS.iconst X0.here hx rfl (hb hby at_1) ?_
        show Steps p.tables e below (s₁.setTop (mkF m 2 #[.val (.int p0), .val (.int p1), .unset, .unset, .unset, .unset, .unset] [(.int (1 : Int32)), (.int p0)])) _
        refine XS.iand X0.here hx rfl (hb hby at_2) rfl ?_
        show Steps p.tables e below (s₁.setTop (mkF m 3 #[.val (.int p0), .val (.int p1), .unset, .unset, .unset, .unset, .unset] [(.int (p0 &&& (1 : Int32)))])) _
        refine XS.ifNo X0.here hx rfl (hb hby at_3) rfl ((if0 _ _).trans (feq hc1).1) ?_
        show Steps p.tables e below (s₁.setTop (mkF m 6 #[.val (.int p0), .val (.int p1), .unset, .unset, .unset, .unset, .unset] [])) _
        refine XS.iconst X0.here hx rfl (hb hby at_6) ?_
        show Steps p.tables e below (s₁.setTop (mkF m 7 #[.val (.int p0), .val (.int p1), .unset, .unset, .unset, .unset, .unset] [(.int (1 : Int32))])) _
        refine XS.goto X0.here hx rfl (pc0 := 7) (pc' := 11) rfl (hb hby at_7) (by decide) (by decide) ?_
        show Steps p.tables e below (s₁.setTop (mkF m 11 #[.val (.int p0), .val (.int p1), .unset, .unset, .unset, .unset, .unset] [(.int (1 : Int32))])) _
        refine XS.istoreN X0.here hx rfl (hb hby at_11) rfl (l' := #[.val (.int p0), .val (.int p1), .val (.int (1 : Int32)), .unset, .unset, .unset, .unset]) rfl ?_
        show Steps p.tables e below (s₁.setTop (mkF m 12 #[.val (.int p0), .val (.int p1), .val (.int (1 : Int32)), .unset, .unset, .unset, .unset] [])) _
        refine XS.iloadN X0.here hx rfl (hb hby at_12) rfl ?_
        show Steps p.tables e below (s₁.setTop (mkF m 13 #[.val (.int p0), .val (.int p1), .val (.int (1 : Int32)), .unset, .unset, .unset, .unset] [(.int p1)])) _
        refine XS.iconst X0.here hx rfl (hb hby at_13) ?_
        show Steps p.tables e below (s₁.setTop (mkF m 14 #[.val (.int p0), .val (.int p1), .val (.int (1 : Int32)), .unset, .unset, .unset, .unset] [(.int (1 : Int32)), (.int p1)])) _
        refine XS.iand X0.here hx rfl (hb hby at_14) rfl ?_
        show Steps p.tables e below (s₁.setTop (mkF m 15 #[.val (.int p0), .val (.int p1), .val (.int (1 : Int32)), .unset, .unset, .unset, .unset] [(.int (p1 &&& (1 : Int32)))])) _
        refine XS.ifNo X0.here hx rfl (hb hby at_15) rfl ((if0 _ _).trans (feq hc21).1) ?_
        show Steps p.tables e below (s₁.setTop (mkF m 18 #[.val (.int p0), .val (.int p1), .val (.int (1 : Int32)), .unset, .unset, .unset, .unset] [])) _
        refine XS.iconst X0.here hx rfl (hb hby at_18) ?_
        show Steps p.tables e below (s₁.setTop (mkF m 19 #[.val (.int p0), .val (.int p1), .val (.int (1 : Int32)), .unset, .unset, .unset, .unset] [(.int (1 : Int32))])) _
        refine XS.goto X0.here hx rfl (pc0 := 19) (pc' := 23) rfl (hb hby at_19) (by decide) (by decide) ?_
        show Steps p.tables e below (s₁.setTop (mkF m 23 #[.val (.int p0), .val (.int p1), .val (.int (1 : Int32)), .unset, .unset, .unset, .unset] [(.int (1 : Int32))])) _
        refine XS.istoreN X0.here hx rfl (hb hby at_23) rfl (l' := #[.val (.int p0), .val (.int p1), .val (.int (1 : Int32)), .val (.int (1 : Int32)), .unset, .unset, .unset]) rfl ?_
        show Steps p.tables e below (s₁.setTop (mkF m 24 #[.val (.int p0), .val (.int p1), .val (.int (1 : Int32)), .val (.int (1 : Int32)), .unset, .unset, .unset] [])) _
        refine XS.iloadN X0.here hx rfl (hb hby at_24) rfl ?_
        show Steps p.tables e below (s₁.setTop (mkF m 25 #[.val (.int p0), .val (.int p1), .val (.int (1 : Int32)), .val (.int (1 : Int32)), .unset, .unset, .unset] [(.int (1 : Int32))])) _
        refine st31 _ ?_
        show Steps p.tables e below (T31.setTop (mkF m 28 #[.val (.int p0), .val (.int p1), .val (.int (1 : Int32)), .val (.int (1 : Int32)), .unset, .unset, .unset] [(.ref w_TRUE)])) _
        refine XS.astore X31.here hx rfl (hb hby at_28) rfl rfl (l' := #[.val (.int p0), .val (.int p1), .val (.int (1 : Int32)), .val (.int (1 : Int32)), .val (.ref w_TRUE), .unset, .unset]) rfl ?_
        show Steps p.tables e below (T31.setTop (mkF m 30 #[.val (.int p0), .val (.int p1), .val (.int (1 : Int32)), .val (.int (1 : Int32)), .val (.ref w_TRUE), .unset, .unset] [])) _
        refine XS.iloadN X31.here hx rfl (hb hby at_30) rfl ?_
        show Steps p.tables e below (T31.setTop (mkF m 31 #[.val (.int p0), .val (.int p1), .val (.int (1 : Int32)), .val (.int (1 : Int32)), .val (.ref w_TRUE), .unset, .unset] [(.int (1 : Int32))])) _
        refine st32 _ ?_
        show Steps p.tables e below (T32.setTop (mkF m 34 #[.val (.int p0), .val (.int p1), .val (.int (1 : Int32)), .val (.int (1 : Int32)), .val (.ref w_TRUE), .unset, .unset] [(.ref w_TRUE)])) _
        refine XS.astore X32.here hx rfl (hb hby at_34) rfl rfl (l' := #[.val (.int p0), .val (.int p1), .val (.int (1 : Int32)), .val (.int (1 : Int32)), .val (.ref w_TRUE), .val (.ref w_TRUE), .unset]) rfl ?_
        show Steps p.tables e below (T32.setTop (mkF m 36 #[.val (.int p0), .val (.int p1), .val (.int (1 : Int32)), .val (.int (1 : Int32)), .val (.ref w_TRUE), .val (.ref w_TRUE), .unset] [])) _
        refine XS.iloadN X32.here hx rfl (hb hby at_36) rfl ?_
        show Steps p.tables e below (T32.setTop (mkF m 37 #[.val (.int p0), .val (.int p1), .val (.int (1 : Int32)), .val (.int (1 : Int32)), .val (.ref w_TRUE), .val (.ref w_TRUE), .unset] [(.int (1 : Int32))])) _
        refine XS.ifNo X32.here hx rfl (hb hby at_37) rfl ((if0 _ _).trans (feq (by decide : ¬ ((1 : Int32) = (0 : Int32)))).1) ?_
        show Steps p.tables e below (T32.setTop (mkF m 40 #[.val (.int p0), .val (.int p1), .val (.int (1 : Int32)), .val (.int (1 : Int32)), .val (.ref w_TRUE), .val (.ref w_TRUE), .unset] [])) _
        refine XS.iloadN X32.here hx rfl (hb hby at_40) rfl ?_
        show Steps p.tables e below (T32.setTop (mkF m 41 #[.val (.int p0), .val (.int p1), .val (.int (1 : Int32)), .val (.int (1 : Int32)), .val (.ref w_TRUE), .val (.ref w_TRUE), .unset] [(.int (1 : Int32))])) _
        refine XS.ifNo X32.here hx rfl (hb hby at_41) rfl ((if0 _ _).trans (feq (by decide : ¬ ((1 : Int32) = (0 : Int32)))).1) ?_
        show Steps p.tables e below (T32.setTop (mkF m 44 #[.val (.int p0), .val (.int p1), .val (.int (1 : Int32)), .val (.int (1 : Int32)), .val (.ref w_TRUE), .val (.ref w_TRUE), .unset] [])) _
        refine XS.iconst X32.here hx rfl (hb hby at_44) ?_
        show Steps p.tables e below (T32.setTop (mkF m 45 #[.val (.int p0), .val (.int p1), .val (.int (1 : Int32)), .val (.int (1 : Int32)), .val (.ref w_TRUE), .val (.ref w_TRUE), .unset] [(.int (1 : Int32))])) _
        refine XS.goto X32.here hx rfl (pc0 := 45) (pc' := 49) rfl (hb hby at_45) (by decide) (by decide) ?_
        show Steps p.tables e below (T32.setTop (mkF m 49 #[.val (.int p0), .val (.int p1), .val (.int (1 : Int32)), .val (.int (1 : Int32)), .val (.ref w_TRUE), .val (.ref w_TRUE), .unset] [(.int (1 : Int32))])) _
        refine st33 _ ?_
        show Steps p.tables e below (T33.setTop (mkF m 52 #[.val (.int p0), .val (.int p1), .val (.int (1 : Int32)), .val (.int (1 : Int32)), .val (.ref w_TRUE), .val (.ref w_TRUE), .unset] [(.ref w_TRUE)])) _
        refine XS.astore X33.here hx rfl (hb hby at_52) rfl rfl (l' := #[.val (.int p0), .val (.int p1), .val (.int (1 : Int32)), .val (.int (1 : Int32)), .val (.ref w_TRUE), .val (.ref w_TRUE), .val (.ref w_TRUE)]) rfl ?_
        show Steps p.tables e below (T33.setTop (mkF m 54 #[.val (.int p0), .val (.int p1), .val (.int (1 : Int32)), .val (.int (1 : Int32)), .val (.ref w_TRUE), .val (.ref w_TRUE), .val (.ref w_TRUE)] [])) _
        refine XS.aload X33.here hx rfl (hb hby at_54) rfl rfl ?_
        show Steps p.tables e below (T33.setTop (mkF m 56 #[.val (.int p0), .val (.int p1), .val (.int (1 : Int32)), .val (.int (1 : Int32)), .val (.ref w_TRUE), .val (.ref w_TRUE), .val (.ref w_TRUE)] [(.ref w_TRUE)])) _
        refine XS.ifnullNo X33.here hx rfl (hb hby at_56) rfl ?_
        show Steps p.tables e below (T33.setTop (mkF m 59 #[.val (.int p0), .val (.int p1), .val (.int (1 : Int32)), .val (.int (1 : Int32)), .val (.ref w_TRUE), .val (.ref w_TRUE), .val (.ref w_TRUE)] [])) _
        refine XS.aload X33.here hx rfl (hb hby at_59) rfl rfl ?_
        show Steps p.tables e below (T33.setTop (mkF m 61 #[.val (.int p0), .val (.int p1), .val (.int (1 : Int32)), .val (.int (1 : Int32)), .val (.ref w_TRUE), .val (.ref w_TRUE), .val (.ref w_TRUE)] [(.ref w_TRUE)])) _
        refine XS.ifnullNo X33.here hx rfl (hb hby at_61) rfl ?_
        show Steps p.tables e below (T33.setTop (mkF m 64 #[.val (.int p0), .val (.int p1), .val (.int (1 : Int32)), .val (.int (1 : Int32)), .val (.ref w_TRUE), .val (.ref w_TRUE), .val (.ref w_TRUE)] [])) _
        refine XS.aload X33.here hx rfl (hb hby at_64) rfl rfl ?_
        show Steps p.tables e below (T33.setTop (mkF m 66 #[.val (.int p0), .val (.int p1), .val (.int (1 : Int32)), .val (.int (1 : Int32)), .val (.ref w_TRUE), .val (.ref w_TRUE), .val (.ref w_TRUE)] [(.ref w_TRUE)])) _
        refine XS.ifnonnullYes X33.here hx rfl (pc0 := 66) (pc' := 71) rfl (hb hby at_66) rfl (by decide) (by decide) ?_
        show Steps p.tables e below (T33.setTop (mkF m 71 #[.val (.int p0), .val (.int p1), .val (.int (1 : Int32)), .val (.int (1 : Int32)), .val (.ref w_TRUE), .val (.ref w_TRUE), .val (.ref w_TRUE)] [])) _
        refine XS.aload X33.here hx rfl (hb hby at_71) rfl rfl ?_
        show Steps p.tables e below (T33.setTop (mkF m 73 #[.val (.int p0), .val (.int p1), .val (.int (1 : Int32)), .val (.int (1 : Int32)), .val (.ref w_TRUE), .val (.ref w_TRUE), .val (.ref w_TRUE)] [(.ref w_TRUE)])) _
        refine st34 _ ?_
        show Steps p.tables e below (T34.setTop (mkF m 76 #[.val (.int p0), .val (.int p1), .val (.int (1 : Int32)), .val (.int (1 : Int32)), .val (.ref w_TRUE), .val (.ref w_TRUE), .val (.ref w_TRUE)] [(.ref w_UNKNOWN), (.ref w_TRUE)])) _
        refine Jvm.RoadKit.acmp (g := (mkF m 76 #[.val (.int p0), .val (.int p1), .val (.int (1 : Int32)), .val (.int (1 : Int32)), .val (.ref w_TRUE), .val (.ref w_TRUE), .val (.ref w_TRUE)] [(.ref w_UNKNOWN), (.ref w_TRUE)])) X34 hx rfl rfl rfl (pc0 := 76) (pc' := 79) (same := false) rfl (hb hby at_76) rfl (decide_eq_false fun q => ne_TRUE_UNKNOWN (Value.ref.inj q)) (by decide) (by decide) ?_
        show Steps p.tables e below (T34.setTop (mkF m 79 #[.val (.int p0), .val (.int p1), .val (.int (1 : Int32)), .val (.int (1 : Int32)), .val (.ref w_TRUE), .val (.ref w_TRUE), .val (.ref w_TRUE)] [])) _
        refine XS.aload X34.here hx rfl (hb hby at_79) rfl rfl ?_
        show Steps p.tables e below (T34.setTop (mkF m 81 #[.val (.int p0), .val (.int p1), .val (.int (1 : Int32)), .val (.int (1 : Int32)), .val (.ref w_TRUE), .val (.ref w_TRUE), .val (.ref w_TRUE)] [(.ref w_TRUE)])) _
        refine st35 _ ?_
        show Steps p.tables e below (T35.setTop (mkF m 84 #[.val (.int p0), .val (.int p1), .val (.int (1 : Int32)), .val (.int (1 : Int32)), .val (.ref w_TRUE), .val (.ref w_TRUE), .val (.ref w_TRUE)] [(.ref w_UNKNOWN), (.ref w_TRUE)])) _
        refine Jvm.RoadKit.acmp (g := (mkF m 84 #[.val (.int p0), .val (.int p1), .val (.int (1 : Int32)), .val (.int (1 : Int32)), .val (.ref w_TRUE), .val (.ref w_TRUE), .val (.ref w_TRUE)] [(.ref w_UNKNOWN), (.ref w_TRUE)])) X35 hx rfl rfl rfl (pc0 := 84) (pc' := 87) (same := false) rfl (hb hby at_84) rfl (decide_eq_false fun q => ne_TRUE_UNKNOWN (Value.ref.inj q)) (by decide) (by decide) ?_
        show Steps p.tables e below (T35.setTop (mkF m 87 #[.val (.int p0), .val (.int p1), .val (.int (1 : Int32)), .val (.int (1 : Int32)), .val (.ref w_TRUE), .val (.ref w_TRUE), .val (.ref w_TRUE)] [])) _
        refine XS.aload X35.here hx rfl (hb hby at_87) rfl rfl ?_
        show Steps p.tables e below (T35.setTop (mkF m 89 #[.val (.int p0), .val (.int p1), .val (.int (1 : Int32)), .val (.int (1 : Int32)), .val (.ref w_TRUE), .val (.ref w_TRUE), .val (.ref w_TRUE)] [(.ref w_TRUE)])) _
        refine st36 _ ?_
        show Steps p.tables e below (T36.setTop (mkF m 92 #[.val (.int p0), .val (.int p1), .val (.int (1 : Int32)), .val (.int (1 : Int32)), .val (.ref w_TRUE), .val (.ref w_TRUE), .val (.ref w_TRUE)] [(.ref w_UNKNOWN), (.ref w_TRUE)])) _
        refine Jvm.RoadKit.acmp (g := (mkF m 92 #[.val (.int p0), .val (.int p1), .val (.int (1 : Int32)), .val (.int (1 : Int32)), .val (.ref w_TRUE), .val (.ref w_TRUE), .val (.ref w_TRUE)] [(.ref w_UNKNOWN), (.ref w_TRUE)])) X36 hx rfl rfl rfl (pc0 := 92) (pc' := 97) (same := false) rfl (hb hby at_92) rfl (decide_eq_false fun q => ne_TRUE_UNKNOWN (Value.ref.inj q)) (by decide) (by decide) ?_
        show Steps p.tables e below (T36.setTop (mkF m 97 #[.val (.int p0), .val (.int p1), .val (.int (1 : Int32)), .val (.int (1 : Int32)), .val (.ref w_TRUE), .val (.ref w_TRUE), .val (.ref w_TRUE)] [])) _
        refine XS.aload X36.here hx rfl (hb hby at_97) rfl rfl ?_
        show Steps p.tables e below (T36.setTop (mkF m 99 #[.val (.int p0), .val (.int p1), .val (.int (1 : Int32)), .val (.int (1 : Int32)), .val (.ref w_TRUE), .val (.ref w_TRUE), .val (.ref w_TRUE)] [(.ref w_TRUE)])) _
        refine st37 _ ?_
        show Steps p.tables e below (T37.setTop (mkF m 102 #[.val (.int p0), .val (.int p1), .val (.int (1 : Int32)), .val (.int (1 : Int32)), .val (.ref w_TRUE), .val (.ref w_TRUE), .val (.ref w_TRUE)] [(.ref w_TRUE), (.ref w_TRUE)])) _
        refine Jvm.RoadKit.acmp (g := (mkF m 102 #[.val (.int p0), .val (.int p1), .val (.int (1 : Int32)), .val (.int (1 : Int32)), .val (.ref w_TRUE), .val (.ref w_TRUE), .val (.ref w_TRUE)] [(.ref w_TRUE), (.ref w_TRUE)])) X37 hx rfl rfl rfl (pc0 := 102) (pc' := 105) (same := true) rfl (hb hby at_102) rfl (decide_eq_true rfl) (by decide) (by decide) ?_
        show Steps p.tables e below (T37.setTop (mkF m 105 #[.val (.int p0), .val (.int p1), .val (.int (1 : Int32)), .val (.int (1 : Int32)), .val (.ref w_TRUE), .val (.ref w_TRUE), .val (.ref w_TRUE)] [])) _
        refine XS.iconst X37.here hx rfl (hb hby at_105) ?_
        show Steps p.tables e below (T37.setTop (mkF m 106 #[.val (.int p0), .val (.int p1), .val (.int (1 : Int32)), .val (.int (1 : Int32)), .val (.ref w_TRUE), .val (.ref w_TRUE), .val (.ref w_TRUE)] [(.int (1 : Int32))])) _
        refine XS.goto X37.here hx rfl (pc0 := 106) (pc' := 110) rfl (hb hby at_106) (by decide) (by decide) ?_
        show Steps p.tables e below (T37.setTop (mkF m 110 #[.val (.int p0), .val (.int p1), .val (.int (1 : Int32)), .val (.int (1 : Int32)), .val (.ref w_TRUE), .val (.ref w_TRUE), .val (.ref w_TRUE)] [(.int (1 : Int32))])) _
        refine XS.iloadN X37.here hx rfl (hb hby at_110) rfl ?_
        show Steps p.tables e below (T37.setTop (mkF m 111 #[.val (.int p0), .val (.int p1), .val (.int (1 : Int32)), .val (.int (1 : Int32)), .val (.ref w_TRUE), .val (.ref w_TRUE), .val (.ref w_TRUE)] [(.int (1 : Int32)), (.int (1 : Int32))])) _
        refine XS.icmpYes X37.here hx rfl (pc0 := 111) (pc' := 116) rfl (hb hby at_111) rfl (teq (by decide : (1 : Int32) = (1 : Int32))).1 (by decide) (by decide) ?_
        show Steps p.tables e below (T37.setTop (mkF m 116 #[.val (.int p0), .val (.int p1), .val (.int (1 : Int32)), .val (.int (1 : Int32)), .val (.ref w_TRUE), .val (.ref w_TRUE), .val (.ref w_TRUE)] [])) _
        refine XS.aload X37.here hx rfl (hb hby at_116) rfl rfl ?_
        show Steps p.tables e below (T37.setTop (mkF m 118 #[.val (.int p0), .val (.int p1), .val (.int (1 : Int32)), .val (.int (1 : Int32)), .val (.ref w_TRUE), .val (.ref w_TRUE), .val (.ref w_TRUE)] [(.ref w_TRUE)])) _
        refine st38 _ ?_
        show Steps p.tables e below (T38.setTop (mkF m 121 #[.val (.int p0), .val (.int p1), .val (.int (1 : Int32)), .val (.int (1 : Int32)), .val (.ref w_TRUE), .val (.ref w_TRUE), .val (.ref w_TRUE)] [(.ref w_TRUE), (.ref w_TRUE)])) _
        refine Jvm.RoadKit.acmp (g := (mkF m 121 #[.val (.int p0), .val (.int p1), .val (.int (1 : Int32)), .val (.int (1 : Int32)), .val (.ref w_TRUE), .val (.ref w_TRUE), .val (.ref w_TRUE)] [(.ref w_TRUE), (.ref w_TRUE)])) X38 hx rfl rfl rfl (pc0 := 121) (pc' := 124) (same := true) rfl (hb hby at_121) rfl (decide_eq_true rfl) (by decide) (by decide) ?_
        show Steps p.tables e below (T38.setTop (mkF m 124 #[.val (.int p0), .val (.int p1), .val (.int (1 : Int32)), .val (.int (1 : Int32)), .val (.ref w_TRUE), .val (.ref w_TRUE), .val (.ref w_TRUE)] [])) _
        refine XS.iconst X38.here hx rfl (hb hby at_124) ?_
        show Steps p.tables e below (T38.setTop (mkF m 125 #[.val (.int p0), .val (.int p1), .val (.int (1 : Int32)), .val (.int (1 : Int32)), .val (.ref w_TRUE), .val (.ref w_TRUE), .val (.ref w_TRUE)] [(.int (1 : Int32))])) _
        refine XS.goto X38.here hx rfl (pc0 := 125) (pc' := 129) rfl (hb hby at_125) (by decide) (by decide) ?_
        show Steps p.tables e below (T38.setTop (mkF m 129 #[.val (.int p0), .val (.int p1), .val (.int (1 : Int32)), .val (.int (1 : Int32)), .val (.ref w_TRUE), .val (.ref w_TRUE), .val (.ref w_TRUE)] [(.int (1 : Int32))])) _
        refine XS.iloadN X38.here hx rfl (hb hby at_129) rfl ?_
        show Steps p.tables e below (T38.setTop (mkF m 130 #[.val (.int p0), .val (.int p1), .val (.int (1 : Int32)), .val (.int (1 : Int32)), .val (.ref w_TRUE), .val (.ref w_TRUE), .val (.ref w_TRUE)] [(.int (1 : Int32)), (.int (1 : Int32))])) _
        refine XS.icmpYes X38.here hx rfl (pc0 := 130) (pc' := 135) rfl (hb hby at_130) rfl (teq (by decide : (1 : Int32) = (1 : Int32))).1 (by decide) (by decide) ?_
        show Steps p.tables e below (T38.setTop (mkF m 135 #[.val (.int p0), .val (.int p1), .val (.int (1 : Int32)), .val (.int (1 : Int32)), .val (.ref w_TRUE), .val (.ref w_TRUE), .val (.ref w_TRUE)] [])) _
        refine XS.aload X38.here hx rfl (hb hby at_135) rfl rfl ?_
        show Steps p.tables e below (T38.setTop (mkF m 137 #[.val (.int p0), .val (.int p1), .val (.int (1 : Int32)), .val (.int (1 : Int32)), .val (.ref w_TRUE), .val (.ref w_TRUE), .val (.ref w_TRUE)] [(.ref w_TRUE)])) _
        refine XS.aload X38.here hx rfl (hb hby at_137) rfl rfl ?_
        show Steps p.tables e below (T38.setTop (mkF m 139 #[.val (.int p0), .val (.int p1), .val (.int (1 : Int32)), .val (.int (1 : Int32)), .val (.ref w_TRUE), .val (.ref w_TRUE), .val (.ref w_TRUE)] [(.ref w_TRUE), (.ref w_TRUE)])) _
        refine st39.trans ?_
        show Steps p.tables e below (T39.setTop (mkF m 142 #[.val (.int p0), .val (.int p1), .val (.int (1 : Int32)), .val (.int (1 : Int32)), .val (.ref w_TRUE), .val (.ref w_TRUE), .val (.ref w_TRUE)] [(.ref (own_and w_TRUE w_TRUE w_FALSE w_UNKNOWN w_TRUE))])) _
        refine XS.aload X39.here hx rfl (hb hby at_142) rfl rfl ?_
        show Steps p.tables e below (T39.setTop (mkF m 144 #[.val (.int p0), .val (.int p1), .val (.int (1 : Int32)), .val (.int (1 : Int32)), .val (.ref w_TRUE), .val (.ref w_TRUE), .val (.ref w_TRUE)] [(.ref w_TRUE), (.ref (own_and w_TRUE w_TRUE w_FALSE w_UNKNOWN w_TRUE))])) _
        refine Jvm.RoadKit.acmp (g := (mkF m 144 #[.val (.int p0), .val (.int p1), .val (.int (1 : Int32)), .val (.int (1 : Int32)), .val (.ref w_TRUE), .val (.ref w_TRUE), .val (.ref w_TRUE)] [(.ref w_TRUE), (.ref (own_and w_TRUE w_TRUE w_FALSE w_UNKNOWN w_TRUE))])) X39 hx rfl rfl rfl (pc0 := 144) (pc' := 147) (same := true) rfl (hb hby at_144) rfl (decide_eq_true (congrArg Value.ref (by simp [own_and, ne_FALSE_UNKNOWN, ne_FALSE_TRUE, ne_UNKNOWN_FALSE, ne_UNKNOWN_TRUE, ne_TRUE_FALSE, ne_TRUE_UNKNOWN] : (own_and w_TRUE w_TRUE w_FALSE w_UNKNOWN w_TRUE) = w_TRUE))) (by decide) (by decide) ?_
        show Steps p.tables e below (T39.setTop (mkF m 147 #[.val (.int p0), .val (.int p1), .val (.int (1 : Int32)), .val (.int (1 : Int32)), .val (.ref w_TRUE), .val (.ref w_TRUE), .val (.ref w_TRUE)] [])) _
        refine XS.iconst X39.here hx rfl (hb hby at_147) ?_
        show Steps p.tables e below (T39.setTop (mkF m 148 #[.val (.int p0), .val (.int p1), .val (.int (1 : Int32)), .val (.int (1 : Int32)), .val (.ref w_TRUE), .val (.ref w_TRUE), .val (.ref w_TRUE)] [(.int (1 : Int32))])) _
        refine XS.goto X39.here hx rfl (pc0 := 148) (pc' := 152) rfl (hb hby at_148) (by decide) (by decide) ?_
        show Steps p.tables e below (T39.setTop (mkF m 152 #[.val (.int p0), .val (.int p1), .val (.int (1 : Int32)), .val (.int (1 : Int32)), .val (.ref w_TRUE), .val (.ref w_TRUE), .val (.ref w_TRUE)] [(.int (1 : Int32))])) _
        exact retN X39 hx (t := .boolean) Bd.returns (by simp) (hb hby at_152) hr
      · show Q_rm0 Z p0 p1 w_FALSE w_TRUE w_UNKNOWN h0 n0 _ T39.heap _
        rw [e39]
        exact ⟨rfl, N39, rfl⟩
set_option maxRecDepth 65536 in
set_option maxHeartbeats 40000000 in
theorem comes_1 {Post : Tables → Env → Array Value → State → Outcome → State → Prop} (hpost : ∀ tb e args s v u, (limb_1_1.after args s (.returned v) u = true ∧ limb_1_2.after args s (.returned v) u = true ∧ True) → FrameEnd s (.returned v) u (Jvm.fieldLocs frame_1_writes args s ++ Jvm.arrayLocs frame_1_arrays args s ++ Jvm.staticLocs frame_1_statics s) 0 0 → Post tb e args s (.returned v) u) :
    ArmFor flags0 classFile x code maxLocals ret World_1 tables_1 room_1 Calls_1 rest_1 Pre_1 Post := by
  intro l hfl _ _ p e ha hc hk s m args below hf hA hF happ hP
  obtain ⟨hcalls, hrest, hpre⟩ := hP
  obtain ⟨-, -, -, hnamed, -, -, -, hat⟩ := (Spec.applies_iff hf).mp happ
  obtain ⟨hg, hn⟩ := and_e (Cond.before_iff.mp (show (Jvm.Cond.and given_1 narrow_1).before args s = true from hpre))
  obtain ⟨hg1a, hg1b⟩ := and_e hg
  obtain ⟨hg2a, hg2b⟩ := and_e hg1b
  obtain ⟨w0, w1, rfl⟩ : ∃ w0 w1 : Value, args = #[w0, w1] := by
    have hs : args.size = 2 := by simpa [Cond.value, given_1] using hg1a
    obtain ⟨L⟩ := args
    match L, hs with
    | [w0, w1], _ => exact ⟨w0, w1, rfl⟩
  have hw := fun d (hd : d ∈ tables_1) => atoms_spec (ws := Jvm.Cond.code x code maxLocals ret :: tables_1) hat d (List.mem_cons_of_mem _ hd)
  have hfit : Fit s := fun {y c} hc i hi => by
    obtain ⟨ha, rfl⟩ := Array.getElem?_eq_some_iff.mp hc
    have q := List.all_eq_true.mp ((Array.all_eq_true_iff_forall_mem.mp hF) _ (Array.getElem_mem ha)) i (List.mem_range.mpr hi)
    simpa [Array.getElem?_eq_getElem hi] using q
  obtain ⟨i0, ei0⟩ := is_v hg2a
  obtain rfl : w0 = (.int i0) := Option.some.inj ei0
  obtain ⟨i1, ei1⟩ := is_v hg2b
  obtain rfl : w1 = (.int i1) := Option.some.inj ei1
  obtain ⟨hn1a, hn1b⟩ := and_e hn
  obtain ⟨hn2a, hn2b⟩ := and_e hn1b
  obtain ⟨hn3a, hn3b⟩ := and_e hn2b
  obtain ⟨hn4a, hn4b⟩ := and_e hn3b
  obtain ⟨hn5a, hn5b⟩ := and_e hn4b
  obtain ⟨w_FALSE, evw_FALSE⟩ := exa_v hn1a
  have E_FALSE := Exa.start evw_FALSE hn1a
  have S_FALSE := Sta.start evw_FALSE (Or.inr ⟨(hw _ (List.mem_of_getElem? (i := 2) rfl)), (hw _ (List.mem_of_getElem? (i := 5) rfl))⟩)
  obtain ⟨w_TRUE, evw_TRUE⟩ := exa_v hn2a
  have E_TRUE := Exa.start evw_TRUE hn2a
  have S_TRUE := Sta.start evw_TRUE (Or.inr ⟨(hw _ (List.mem_of_getElem? (i := 2) rfl)), (hw _ (List.mem_of_getElem? (i := 7) rfl))⟩)
  obtain ⟨w_UNKNOWN, evw_UNKNOWN⟩ := exa_v hn3a
  have E_UNKNOWN := Exa.start evw_UNKNOWN hn3a
  have S_UNKNOWN := Sta.start evw_UNKNOWN (Or.inr ⟨(hw _ (List.mem_of_getElem? (i := 2) rfl)), (hw _ (List.mem_of_getElem? (i := 9) rfl))⟩)
  have F_FALSE_ordinal := own_fldI evw_FALSE hn4a
  have F_UNKNOWN_ordinal := own_fldI evw_UNKNOWN hn5a
  have F_TRUE_ordinal := own_fldI evw_TRUE hn5b
  have WD : World s s.heap w_FALSE w_TRUE w_UNKNOWN := ⟨S_FALSE, E_FALSE, S_TRUE, E_TRUE, S_UNKNOWN, E_UNKNOWN, F_FALSE_ordinal, F_UNKNOWN_ordinal, F_TRUE_ordinal⟩
  obtain ⟨n, o, h1, h2, h3, _, L, rfl, ⟨rfl, N, -⟩, hq⟩ := rm0 l s _ hw tables_1 i0 i1 w_FALSE w_TRUE w_UNKNOWN s.heap s.heap.size (Nat.le_refl _) WD p e ha hc hk s m _ below hf ((Spec.applies_iff_loose hf).mp happ).1 ⟨rfl, State.Warmed39.refl s, rfl⟩ trivial
  refine ⟨n, _, h1, h2, h3, hpost _ _ _ _ _ _ ⟨Cond.after_iff.mpr rfl, Cond.after_iff.mpr (eq_i res_at (Term.int_eval (1)) rfl), trivial⟩ ⟨hq.1, hq.2.1, (hq.2.2.sift fun y hy => Or.inr (N y hy)).mono (by decide) (by decide)⟩⟩
theorem main_1_1 : Claimed_1_1 := comes_1 fun _ _ _ _ _ _ h hF => ⟨h.1, hF⟩
theorem main_1_2 : Claimed_1_2 := comes_1 fun _ _ _ _ _ _ h hF => ⟨h.2.1, hF⟩
end Jvm.Pilot.@@N@@
namespace Jvm.Pilot.@@N@@
open Jvm Jvm.ClassFile Sem Op Lib Jvm.Free Jvm.Stand Jvm.Pilot.@@N@@.Jvm.D
/-! MADE BY PROGRAM (witnessworld.py) out of the Statement's table words and the real class files: 10 classes; the members and pool entries that the words name. The judged class is class 1, her method 1. -/
namespace start1
open Jvm.ClassFile
def u (s : String) : CpInfo := .utf8 (stringToUtf16 s)
/-- a pool by its gaps: so many unusable entries, then the entry; so many at the end -/
def gap : Nat → List CpInfo → List CpInfo
  | 0, r => r
  | n + 1, r => .unusable :: gap n r
def poolList (es : List (Nat × CpInfo)) (last : Nat) : List CpInfo := es.foldr (fun e r => gap e.1 (e.2 :: r)) (gap last [])
def pool (es : List (Nat × CpInfo)) (last : Nat) : Array CpInfo := ⟨poolList es last⟩
def fileOf (pool : Array CpInfo) (this : Nat) (attrs : Array Attribute := #[]) (ms : Array MethodInfo := #[]) (fl : Nat := 33) (sup : Nat := 0) (ifs : Array Nat := #[]) (fds : Array FieldInfo := #[]) : ClassFile where
  minorVersion := 0
  majorVersion := 65
  constantPool := pool
  accessFlags := fl
  thisClass := this
  superClass := sup
  interfaces := ifs
  fields := fds
  methods := ms
  attributes := attrs
def plain (name : String) (sup : Option ClassId) : Class where
  name := name
  kind := .ordinary
  loader := none
  accessFlags := 33
  super := sup
  interfaces := #[]
  cf := none
  fields := #[]
  methods := #[]
  instanceTypes := #[]
  staticTypes := #[]
  resolved := #[]
  callSites := []
  init := .initialized
  statics := none
  mirror := none

def pool0 : Array CpInfo := pool [(5, u "<init>"), (0, u "()V"), (1, .class_ 10), (1, u "java/lang/Object")] 113

def k0m0 : Method := { name := "<init>", desc := "()V", sig := { parameters := [], returnType := none }, accessFlags := 1, code := none }
/-- java/lang/Object -/
def k0 : Class := { plain "java/lang/Object" none with
  accessFlags := 33
  interfaces := #[]
  cf := some (fileOf pool0 8 #[] #[{ accessFlags := 1, nameIndex := 5, descriptorIndex := 6, attributes := #[] }] 33 0 #[] #[])
  fields := #[]
  methods := #[k0m0]
  instanceTypes := #[]
  staticTypes := #[]
  resolved := Array.replicate 124 none
  statics := none }

def pool1 : Array CpInfo := pool [(2, .class_ 4), (1, u "java/lang/Object"), (0, u "<init>"), (0, u "()V"), (0, .methodref 8 9), (0, .class_ 10), (0, .nameAndType 11 12), (0, u "com/example/consent/consent/model/Truth"), (0, u "of"), (0, u "(Z)Lcom/example/consent/consent/model/Truth;"), (0, .fieldref 8 14), (0, .nameAndType 15 16), (0, u "UNKNOWN"), (0, u "Lcom/example/consent/consent/model/Truth;"), (0, .fieldref 8 18), (0, .nameAndType 19 16), (0, u "TRUE"), (0, .methodref 8 21), (0, .nameAndType 22 23), (0, u "and"), (0, u "(Lcom/example/consent/consent/model/Truth;)Lcom/example/consent/consent/model/Truth;"), (0, .class_ 25), (0, u "com/example/consent/consent/model/TruthOfPinLaw"), (2, u "law"), (0, u "(II)Z")] 3

def k1m0 : Method := { name := "<init>", desc := "()V", sig := { parameters := [], returnType := none }, accessFlags := 1, code := none }
def k1c1 : Code := { maxStack := 2, maxLocals := 7, code := code, exceptionTable := #[], attributes := #[] }
def k1m1 : Method := { name := "law", desc := "(II)Z", sig := { parameters := [.int, .int], returnType := some .boolean }, accessFlags := 9, code := some k1c1 }
/-- com/example/consent/consent/model/TruthOfPinLaw -/
def k1 : Class := { plain "com/example/consent/consent/model/TruthOfPinLaw" (some 0) with
  accessFlags := 49
  interfaces := #[]
  cf := some (fileOf pool1 24 #[] #[{ accessFlags := 1, nameIndex := 5, descriptorIndex := 6, attributes := #[] }, { accessFlags := 9, nameIndex := 28, descriptorIndex := 29, attributes := #[] }] 49 2 #[] #[])
  fields := #[]
  methods := #[k1m0, k1m1]
  instanceTypes := #[]
  staticTypes := #[]
  resolved := Array.replicate 33 none
  statics := none }

def pool2 : Array CpInfo := pool [(1, .class_ 2), (0, u "java/lang/constant/Constable"), (0, .class_ 4), (0, u "java/lang/Object")] 6

/-- java/lang/constant/Constable -/
def k2 : Class := { plain "java/lang/constant/Constable" (some 0) with
  accessFlags := 1537
  interfaces := #[]
  cf := some (fileOf pool2 1 #[] #[] 1537 3 #[] #[])
  fields := #[]
  methods := #[]
  instanceTypes := #[]
  staticTypes := #[]
  resolved := Array.replicate 11 none
  statics := none }

def pool3 : Array CpInfo := pool [(1, .class_ 2), (0, u "java/lang/Comparable"), (0, .class_ 4), (0, u "java/lang/Object")] 7

/-- java/lang/Comparable -/
def k3 : Class := { plain "java/lang/Comparable" (some 0) with
  accessFlags := 1537
  interfaces := #[]
  cf := some (fileOf pool3 1 #[] #[] 1537 3 #[] #[])
  fields := #[]
  methods := #[]
  instanceTypes := #[]
  staticTypes := #[]
  resolved := Array.replicate 12 none
  statics := none }

def pool4 : Array CpInfo := pool [(1, .class_ 2), (0, u "java/io/Serializable"), (0, .class_ 4), (0, u "java/lang/Object")] 2

/-- java/io/Serializable -/
def k4 : Class := { plain "java/io/Serializable" (some 0) with
  accessFlags := 1537
  interfaces := #[]
  cf := some (fileOf pool4 1 #[] #[] 1537 3 #[] #[])
  fields := #[]
  methods := #[]
  instanceTypes := #[]
  staticTypes := #[]
  resolved := Array.replicate 7 none
  statics := none }

def pool5 : Array CpInfo := pool [(2, .class_ 4), (1, u "java/lang/Enum"), (0, u "name"), (0, u "Ljava/lang/String;"), (2, u "ordinal"), (0, u "I"), (1, .class_ 14), (1, u "java/lang/Object"), (4, u "hash"), (86, .class_ 108), (1, u "java/lang/Enum$EnumDesc"), (2, .class_ 112), (0, u "java/lang/constant/Constable"), (0, .class_ 114), (0, u "java/lang/Comparable"), (0, .class_ 116), (0, u "java/io/Serializable")] 87

/-- java/lang/Enum -/
def k5 : Class := { plain "java/lang/Enum" (some 0) with
  accessFlags := 1057
  interfaces := #[2, 3, 4]
  cf := some (fileOf pool5 2 #[.nestMembers #[106]] #[] 1057 12 #[111, 113, 115] #[{ accessFlags := 18, nameIndex := 5, descriptorIndex := 6, attributes := #[] }, { accessFlags := 18, nameIndex := 9, descriptorIndex := 10, attributes := #[] }, { accessFlags := 2, nameIndex := 19, descriptorIndex := 10, attributes := #[] }])
  fields := #[{ name := "name", type := (.object "java/lang/String"), accessFlags := 18, slot := 0, constantValue := 0 }, { name := "ordinal", type := .int, accessFlags := 18, slot := 1, constantValue := 0 }, { name := "hash", type := .int, accessFlags := 2, slot := 2, constantValue := 0 }]
  methods := #[]
  instanceTypes := #[(.object "java/lang/String"), .int, .int]
  staticTypes := #[]
  resolved := Array.replicate 204 none
  statics := none }

def pool6 : Array CpInfo := pool [(1, .class_ 2), (0, u "com/example/consent/consent/model/Truth"), (0, .fieldref 1 4), (0, .nameAndType 5 6), (0, u "TRUE"), (0, u "Lcom/example/consent/consent/model/Truth;"), (0, .fieldref 1 8), (0, .nameAndType 9 6), (0, u "FALSE"), (0, .fieldref 1 11), (0, .nameAndType 12 6), (0, u "UNKNOWN"), (2, u "$VALUES"), (0, u "[Lcom/example/consent/consent/model/Truth;"), (6, .class_ 25), (1, u "java/lang/Enum"), (21, u "of"), (0, u "(Z)Lcom/example/consent/consent/model/Truth;"), (1, u "and"), (0, u "(Lcom/example/consent/consent/model/Truth;)Lcom/example/consent/consent/model/Truth;")] 4

def k6c0 : Code := { maxStack := 1, maxLocals := 1, code := prog_38_method_4_code, exceptionTable := #[], attributes := #[] }
def k6m0 : Method := { name := "of", desc := "(Z)Lcom/example/consent/consent/model/Truth;", sig := { parameters := [.boolean], returnType := some (.object "com/example/consent/consent/model/Truth") }, accessFlags := 8, code := some k6c0 }
def k6c1 : Code := { maxStack := 2, maxLocals := 3, code := prog_38_method_5_code, exceptionTable := #[], attributes := #[] }
def k6m1 : Method := { name := "and", desc := "(Lcom/example/consent/consent/model/Truth;)Lcom/example/consent/consent/model/Truth;", sig := { parameters := [(.object "com/example/consent/consent/model/Truth")], returnType := some (.object "com/example/consent/consent/model/Truth") }, accessFlags := 1, code := some k6c1 }
/-- com/example/consent/consent/model/Truth -/
def k6 : Class := { plain "com/example/consent/consent/model/Truth" (some 5) with
  accessFlags := 16433
  interfaces := #[]
  cf := some (fileOf pool6 1 #[] #[{ accessFlags := 8, nameIndex := 47, descriptorIndex := 48, attributes := #[] }, { accessFlags := 1, nameIndex := 50, descriptorIndex := 51, attributes := #[] }] 16433 23 #[] #[{ accessFlags := 16409, nameIndex := 5, descriptorIndex := 6, attributes := #[] }, { accessFlags := 16409, nameIndex := 9, descriptorIndex := 6, attributes := #[] }, { accessFlags := 16409, nameIndex := 12, descriptorIndex := 6, attributes := #[] }, { accessFlags := 4122, nameIndex := 15, descriptorIndex := 16, attributes := #[] }])
  fields := #[{ name := "TRUE", type := (.object "com/example/consent/consent/model/Truth"), accessFlags := 16409, slot := 0, constantValue := 0 }, { name := "FALSE", type := (.object "com/example/consent/consent/model/Truth"), accessFlags := 16409, slot := 1, constantValue := 0 }, { name := "UNKNOWN", type := (.object "com/example/consent/consent/model/Truth"), accessFlags := 16409, slot := 2, constantValue := 0 }, { name := "$VALUES", type := (.array (.object "com/example/consent/consent/model/Truth")), accessFlags := 4122, slot := 3, constantValue := 0 }]
  methods := #[k6m0, k6m1]
  instanceTypes := #[(.object "java/lang/String"), .int, .int]
  staticTypes := #[(.object "com/example/consent/consent/model/Truth"), (.object "com/example/consent/consent/model/Truth"), (.object "com/example/consent/consent/model/Truth"), (.array (.object "com/example/consent/consent/model/Truth"))]
  resolved := Array.replicate 56 none
  statics := some 0 }

def pool7 : Array CpInfo := pool [(1, u "java/lang/Cloneable"), (0, .class_ 1), (0, u "java/lang/Object"), (0, .class_ 3)] 3

/-- java/lang/Cloneable -/
def k7 : Class := { plain "java/lang/Cloneable" (some 0) with
  accessFlags := 1537
  interfaces := #[]
  cf := some (fileOf pool7 2 #[] #[] 1537 4 #[] #[])
  fields := #[]
  methods := #[]
  instanceTypes := #[]
  staticTypes := #[]
  resolved := Array.replicate 8 none
  statics := none }

/-- the primitive byte -/
def k8 : Class := { plain "byte" none with kind := .primitive 'B', accessFlags := 0x411 }
/-- [B -/
def k9 : Class := { plain "[B" (some 0) with kind := .array 8 .byte, interfaces := #[7, 4], accessFlags := 1041 }

def heap : Heap := #[{ cls := 6, slots := #[.ref 2, .ref 1, .ref 3, .null], vm := .statics 6 },
  { cls := 6, slots := #[.null, .int 1, .int 0], vm := .none },
  { cls := 6, slots := #[.null, .int 0, .int 0], vm := .none },
  { cls := 6, slots := #[.null, .int 2, .int 0], vm := .none }]
def classes : Array Class := #[k0, k1, k2, k3, k4, k5, k6, k7, k8, k9]
def interned : List (Array UInt16 × Addr) := []
def slotsUsed : Nat := 13
def theMethod : MethodId := ⟨1, 1⟩
def args0 : Array Value := #[.int 5, .int 7]
def aboutOver (below : List Frame) : State where
  vm := { classes := classes, interned := interned.toArray }
  heap := heap
  slotsUsed := slotsUsed
  threads := #[{ frames := .invoking theMethod args0 :: below }]
def below0 : List Frame := [.native { method := ⟨0, 0⟩, args := #[] }]
def about1 : State := aboutOver below0
def p0 : Program := .bare "" "" ""
def e0 : Env := launch0.env 0 0 0
theorem w_frames : about1.frames = Frame.invoking theMethod args0 :: below0 := rfl
set_option maxRecDepth 65536 in
theorem w_args : argsFit about1.vm theMethod args0 = true := by decide +kernel
set_option maxRecDepth 65536 in
theorem w_heap : heapFits about1 = true := by decide +kernel
set_option maxRecDepth 65536 in
theorem w_runnable : about1.curStatus? = some .runnable := by decide +kernel
set_option maxRecDepth 65536 in
theorem w_alone : about1.alone = true := by decide +kernel
set_option maxRecDepth 65536 in
theorem w_named : about1.methodNamed? x = some theMethod := by decide +kernel
set_option maxRecDepth 65536 in
theorem w_hears : about1.hears theMethod below0 = true := by decide +kernel
set_option maxRecDepth 65536 in
theorem w_ripe : about1.ripe theMethod args0 below0 = true := by decide +kernel
theorem w_running : about1.status = .running := rfl
set_option maxRecDepth 65536 in
theorem w_room : about1.hasRoom e0.platform room_1 = true :=
  launch0.hasRoom_least _ room_1 (by decide +kernel) (by decide +kernel) (by decide +kernel) (by decide +kernel) (by decide +kernel) (by decide +kernel)
theorem allAtoms_all (ts : List Jvm.Cond) (a : Array Jvm.Value) (st : Jvm.State) : (allAtoms ts).before a st = ts.all (fun c => c.before a st) := by
  induction ts with
  | nil => rfl
  | cons c t ih =>
    show (Jvm.Cond.and c (allAtoms t)).before a st = _
    rw [Jvm.Cond.before_and, ih, List.all_cons]
def words1 : List Jvm.Cond := Jvm.Cond.code x code maxLocals ret :: tables_1
/-- a 'code' word, met by the world's own term for the bytes: nothing is compared byte by byte -/
theorem code_word {y : MethodName} {bytes : ByteArray} {mx : Nat} {rt : Option FieldType} {a : Array Value} {s : State} {m : MethodId} {meth : Method} {c : Code} (h1 : s.methodNamed? y = some m) (h2 : s.vm.method? m = some meth) (h3 : meth.code = some c) (h4 : c.code = bytes)
    (h5 : (c.maxLocals == mx && c.exceptionTable.isEmpty && decide (c.maxStack ≤ mostOperands) && decide (meth.sig.returnType = rt) && !meth.locks && decide (parseMethodDescriptor y.desc = some meth.sig)) = true) : (Jvm.Cond.code y bytes mx rt).before a s = true := by
  simp only [Bool.and_eq_true, beq_iff_eq, Bool.not_eq_true', decide_eq_true_eq] at h5
  obtain ⟨⟨⟨⟨⟨g1, g2⟩, g3⟩, g4⟩, g5⟩, g6⟩ := h5
  simp [Cond.before, Cond.holds, Cond.value, h1, h2, h3, h4, g1, g2, g3, g4, g5, g6]
def isCode : Jvm.Cond → Bool
  | .code _ _ _ _ => true
  | _ => false
theorem all_split {L : List Jvm.Cond} {P : Jvm.Cond → Bool} (h1 : L.all (fun c => isCode c || P c) = true) (h2 : ∀ c ∈ L.filter isCode, P c = true) : L.all P = true := by
  refine List.all_eq_true.mpr fun c hc => ?_
  have h := List.all_eq_true.mp h1 c hc
  rcases Bool.eq_false_or_eq_true (isCode c) with hi | hi
  · exact h2 c (List.mem_filter.mpr ⟨hc, hi⟩)
  · simpa [hi] using h
set_option maxRecDepth 65536 in
theorem w_c0 : (Jvm.Cond.code x code maxLocals ret).before args0 about1 = true := code_word (m := ⟨1, 1⟩) (meth := k1m1) (c := k1c1) (by decide +kernel) rfl rfl rfl (by decide +kernel)
set_option maxRecDepth 65536 in
theorem w_c1 : (Jvm.Cond.code ({ cls := "com/example/consent/consent/model/Truth", name := "of", desc := "(Z)Lcom/example/consent/consent/model/Truth;" } : Jvm.MethodName) prog_38_method_4_code (1 : Nat) (Option.some (Jvm.ClassFile.FieldType.object "com/example/consent/consent/model/Truth"))).before args0 about1 = true := code_word (m := ⟨6, 0⟩) (meth := k6m0) (c := k6c0) (by decide +kernel) rfl rfl rfl (by decide +kernel)
set_option maxRecDepth 65536 in
theorem w_c2 : (Jvm.Cond.code ({ cls := "com/example/consent/consent/model/Truth", name := "and", desc := "(Lcom/example/consent/consent/model/Truth;)Lcom/example/consent/consent/model/Truth;" } : Jvm.MethodName) prog_38_method_5_code (3 : Nat) (Option.some (Jvm.ClassFile.FieldType.object "com/example/consent/consent/model/Truth"))).before args0 about1 = true := code_word (m := ⟨6, 1⟩) (meth := k6m1) (c := k6c1) (by decide +kernel) rfl rfl rfl (by decide +kernel)
def codes1 : List Jvm.Cond := [Jvm.Cond.code x code maxLocals ret, Jvm.Cond.code ({ cls := "com/example/consent/consent/model/Truth", name := "of", desc := "(Z)Lcom/example/consent/consent/model/Truth;" } : Jvm.MethodName) prog_38_method_4_code (1 : Nat) (Option.some (Jvm.ClassFile.FieldType.object "com/example/consent/consent/model/Truth")), Jvm.Cond.code ({ cls := "com/example/consent/consent/model/Truth", name := "and", desc := "(Lcom/example/consent/consent/model/Truth;)Lcom/example/consent/consent/model/Truth;" } : Jvm.MethodName) prog_38_method_5_code (3 : Nat) (Option.some (Jvm.ClassFile.FieldType.object "com/example/consent/consent/model/Truth"))]
set_option maxRecDepth 65536 in
theorem codes_eq : words1.filter isCode = codes1 := rfl
theorem w_codes : ∀ c ∈ words1.filter isCode, c.before args0 about1 = true := by
  rw [codes_eq]
  intro c hc
  simp only [codes1, List.mem_cons, List.not_mem_nil, or_false] at hc
  rcases hc with rfl | rfl | rfl
  · exact w_c0
  · exact w_c1
  · exact w_c2
set_option maxRecDepth 65536 in
theorem w_t1 : words1.all (fun c => isCode c || c.before args0 about1) = true := by decide +kernel
theorem w_tables : (allAtoms (Jvm.Cond.code x code maxLocals ret :: tables_1)).before args0 about1 = true := by
  rw [allAtoms_all]
  show words1.all (fun c => c.before args0 about1) = true
  refine all_split ?_ w_codes
  rw [w_t1]
set_option maxRecDepth 65536 in
theorem w_case : (Jvm.Cond.and given_1 narrow_1).before args0 about1 = true := by decide +kernel
theorem w_applies : (headSpec (Jvm.Cond.code x code maxLocals ret :: tables_1) room_1).applies x e0.platform about1 = true :=
  (Spec.applies_iff w_frames).mpr ⟨w_running, w_runnable, w_alone, w_named, w_hears, w_ripe, w_room, w_tables⟩
theorem atStart : AtStart classFile x code maxLocals ret World_1 tables_1 room_1 Calls_1 rest_1 Pre_1 launch0 p0 e0 about1 theMethod args0 below0 :=
  ⟨lists_1, trivial, launch0.admits_env _ _ _, launch0.least_env, fairChoices_fair.cas, fairChoices_fair.clock, w_frames, w_args, w_heap, w_applies, trivial, trivial, w_case⟩
end start1
theorem witness_1 : WitnessClaimed_1 := ⟨start1.p0, start1.e0, start1.about1, start1.theMethod, start1.args0, start1.below0, start1.atStart⟩
end Jvm.Pilot.@@N@@
