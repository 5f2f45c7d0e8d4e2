import JvmDerived
import JvmDerived.Pilot.@@N@@Statement
import JvmDerived.Pilot.@@N@@Code
set_option linter.unusedVariables false
set_option linter.unusedSimpArgs false
namespace Jvm.Pilot.@@N@@
open Jvm Jvm.ClassFile Sem Op Lib Jvm.Free Jvm.Stand Jvm.LawKit Jvm.RoadKit Bundle Jvm.Pilot.@@N@@.Jvm.D
theorem own_fldI {t : Term} {C n d : String} {args : Array Value} {s : State} {a : Addr} {z : Int32} (ev : t.eval args s none [] s = some (.ref a)) (h : (Jvm.Cond.eq (Term.field t C n d) (Term.int z)).value args s none s [] = some true) : Fld s s.heap a C n d (.int z) := by
  obtain ⟨x, y, hx, hy, k1, k2⟩ := cmp_v (Or.inl h)
  cases (Term.int_eval z).symm.trans hy
  obtain ⟨q, rfl⟩ := k2
  have hq : q = z := by
    have h' := h
    simp only [Cond.value, hx, Term.int_eval] at h'
    simpa using h'
  subst hq
  exact Fld.start ((fld_at ev).symm.trans hx)
theorem own_fldR {t u : Term} {C n d : String} {args : Array Value} {s : State} {a b : Addr} (ev : t.eval args s none [] s = some (.ref a)) (eu : u.eval args s none [] s = some (.ref b)) (h : (Jvm.Cond.eq (Term.field t C n d) u).value args s none s [] = some true) : Fld s s.heap a C n d (.ref b) := by
  obtain ⟨x, y, hx, hy, k1, k2⟩ := cmp_v (Or.inl h)
  cases eu.symm.trans hy
  have hxr : x.isRef = true := k2.2
  have hq : x = .ref b := gotT (eq_R hx eu hxr rfl) h
  subst hq
  exact Fld.start ((fld_at ev).symm.trans hx)
theorem own_fldN {t : Term} {C n d : String} {args : Array Value} {s : State} {a : Addr} (ev : t.eval args s none [] s = some (.ref a)) (h : (Jvm.Cond.eq (Term.field t C n d) .null).value args s none s [] = some true) : Fld s s.heap a C n d .null :=
  Fld.start ((fld_at ev).symm.trans (null_v h))
theorem own_inj {Z : State} {h : Heap} {a : Addr} {C n d : String} {v w : Value} (F : Fld Z h a C n d v) (G : Fld Z h a C n d w) : v = w := by
  obtain ⟨c1, cf, k, i, f, h1, h2, -, -, -, -, h7⟩ := F
  obtain ⟨c2, cf', k', i', f', g1, g2, -, -, -, -, g7⟩ := G
  cases h1.symm.trans g1
  cases h2.symm.trans g2
  exact Option.some.inj (h7.symm.trans g7)
theorem own_ne {Z : State} {h : Heap} {a b : Addr} {C n d : String} {x y : Int32} (F : Fld Z h a C n d (.int x)) (G : Fld Z h b C n d (.int y)) (hn : x ≠ y) : ¬ (a = b) := fun e => by
  subst e
  exact hn (Value.int.inj (own_inj F G))
def World (Z : State) (h : Heap) (w_CONTAINER w_UNSTRUCTURED_DATA w_DATA : Addr) : Prop := Sta Z h "com/example/flagstaff/flagstaff/node/NodeType" "CONTAINER" "Lcom/example/flagstaff/flagstaff/node/NodeType;" (.ref w_CONTAINER) ∧ Exa Z h w_CONTAINER "com/example/flagstaff/flagstaff/node/NodeType" ∧ Sta Z h "com/example/flagstaff/flagstaff/node/NodeType" "UNSTRUCTURED_DATA" "Lcom/example/flagstaff/flagstaff/node/NodeType;" (.ref w_UNSTRUCTURED_DATA) ∧ Exa Z h w_UNSTRUCTURED_DATA "com/example/flagstaff/flagstaff/node/NodeType" ∧ Sta Z h "com/example/flagstaff/flagstaff/node/NodeType" "DATA" "Lcom/example/flagstaff/flagstaff/node/NodeType;" (.ref w_DATA) ∧ Exa Z h w_DATA "com/example/flagstaff/flagstaff/node/NodeType" ∧ Fld Z h w_UNSTRUCTURED_DATA "java/lang/Enum" "ordinal" "I" (.int (2 : Int32)) ∧ Fld Z h w_DATA "java/lang/Enum" "ordinal" "I" (.int (1 : Int32)) ∧ Fld Z h w_CONTAINER "java/lang/Enum" "ordinal" "I" (.int (0 : Int32)) ∧ Fld Z h w_CONTAINER "com/example/flagstaff/flagstaff/node/NodeType" "holdsBytes" "Z" (.int (0 : Int32)) ∧ Fld Z h w_UNSTRUCTURED_DATA "com/example/flagstaff/flagstaff/node/NodeType" "holdsBytes" "Z" (.int (1 : Int32)) ∧ Fld Z h w_DATA "com/example/flagstaff/flagstaff/node/NodeType" "holdsBytes" "Z" (.int (1 : Int32))
theorem own_mod (x k : Int32) (n : Int) (hk : k.toInt = n) (hn : 0 < n) : 0 ≤ ((x &&& (2147483647 : Int32)) % k).toInt ∧ ((x &&& (2147483647 : Int32)) % k).toInt < n := by
  have e1 : (x &&& (2147483647 : Int32)).toInt = x.toInt % (2 ^ 31 : Nat) := c_mask x 2147483647 31 (by decide) (by decide)
  have e2 := (c_irem (x &&& (2147483647 : Int32)) k n hk).1 (by rw [e1]; omega)
  rw [e2]
  exact ⟨Int.emod_nonneg _ (by omega), Int.emod_lt_of_pos _ hn⟩
theorem own_mod3 (x : Int32) : (x &&& (2147483647 : Int32)) % (3 : Int32) = 0 ∨ (x &&& (2147483647 : Int32)) % (3 : Int32) = 1 ∨ (x &&& (2147483647 : Int32)) % (3 : Int32) = 2 := by
  have h := own_mod x 3 3 (by decide) (by decide)
  generalize (x &&& (2147483647 : Int32)) % (3 : Int32) = y at h ⊢
  have h0 : (0 : Int32).toInt = 0 := by decide
  have h1 : (1 : Int32).toInt = 1 := by decide
  have h2 : (2 : Int32).toInt = 2 := by decide
  simp only [← Int32.toInt_inj, h0, h1, h2]
  omega
def own_pick (k : Int32) (wC wD wU : Addr) : Addr := if k = (0 : Int32) then wC else if k = (1 : Int32) then wD else wU
def own_hb (k : Int32) : Int32 := if k = (0 : Int32) then (0 : Int32) else 1
def own_inc (a b wD : Addr) (hb : Int32) : Int32 := if a = b then (1 : Int32) else if a = wD then (if hb = (0 : Int32) then 0 else 1) else 0
theorem own_exa {Z : State} {h : Heap} {w_CONTAINER w_UNSTRUCTURED_DATA w_DATA : Addr} (WD : World Z h w_CONTAINER w_UNSTRUCTURED_DATA w_DATA) (k : Int32) : Exa Z h (own_pick k w_CONTAINER w_DATA w_UNSTRUCTURED_DATA) "com/example/flagstaff/flagstaff/node/NodeType" := by
  obtain ⟨S_CONTAINER, E_CONTAINER, S_UNSTRUCTURED_DATA, E_UNSTRUCTURED_DATA, S_DATA, E_DATA, F_UNSTRUCTURED_DATA_ordinal, F_DATA_ordinal, F_CONTAINER_ordinal, F_CONTAINER_holdsBytes, F_UNSTRUCTURED_DATA_holdsBytes, F_DATA_holdsBytes⟩ := WD
  unfold own_pick
  split
  · assumption
  · split <;> assumption
theorem own_FH {Z : State} {h : Heap} {w_CONTAINER w_UNSTRUCTURED_DATA w_DATA : Addr} (WD : World Z h w_CONTAINER w_UNSTRUCTURED_DATA w_DATA) (k : Int32) : Fld Z h (own_pick k w_CONTAINER w_DATA w_UNSTRUCTURED_DATA) "com/example/flagstaff/flagstaff/node/NodeType" "holdsBytes" "Z" (.int (own_hb k)) := by
  obtain ⟨S_CONTAINER, E_CONTAINER, S_UNSTRUCTURED_DATA, E_UNSTRUCTURED_DATA, S_DATA, E_DATA, F_UNSTRUCTURED_DATA_ordinal, F_DATA_ordinal, F_CONTAINER_ordinal, F_CONTAINER_holdsBytes, F_UNSTRUCTURED_DATA_holdsBytes, F_DATA_holdsBytes⟩ := WD
  unfold own_pick own_hb
  split
  · assumption
  · split <;> assumption
theorem own_val {a b c : Addr} (h1 : ¬ a = b) (h2 : ¬ a = c) (h3 : ¬ b = c) (i j : Int32) (hi : i = 0 ∨ i = 1 ∨ i = 2) (hj : j = 0 ∨ j = 1 ∨ j = 2) :
    own_inc (own_pick i a b c) (own_pick j a b c) b (own_hb j) = if i = j then (1 : Int32) else if i = 1 then (if j = 2 then 1 else 0) else 0 := by
  have h1' : ¬ b = a := fun e => h1 e.symm
  have h2' : ¬ c = a := fun e => h2 e.symm
  have h3' : ¬ c = b := fun e => h3 e.symm
  rcases hi with rfl | rfl | rfl <;> rcases hj with rfl | rfl | rfl <;> simp [own_inc, own_pick, own_hb, h1, h2, h3, h1', h2', h3']
theorem d1_0 : decode method_2_code 0 = .ok (.iload_n 0, 1) := by decide +kernel
theorem d1_1 : decode method_2_code 1 = .ok (.ifCond .ne 7, 3) := by decide +kernel
theorem d1_4 : decode method_2_code 4 = .ok (.getstatic 7, 3) := by decide +kernel
theorem d1_7 : decode method_2_code 7 = .ok (.areturn, 1) := by decide +kernel
theorem d1_8 : decode method_2_code 8 = .ok (.iload_n 0, 1) := by decide +kernel
theorem d1_9 : decode method_2_code 9 = .ok (.iconst 1, 1) := by decide +kernel
theorem d1_10 : decode method_2_code 10 = .ok (.if_icmp .ne 7, 3) := by decide +kernel
theorem d1_13 : decode method_2_code 13 = .ok (.getstatic 13, 3) := by decide +kernel
theorem d1_16 : decode method_2_code 16 = .ok (.areturn, 1) := by decide +kernel
theorem d1_17 : decode method_2_code 17 = .ok (.getstatic 16, 3) := by decide +kernel
theorem d1_20 : decode method_2_code 20 = .ok (.areturn, 1) := by decide +kernel
theorem pn_0 : plainName "com/example/flagstaff/flagstaff/node/NodeTypeIncludesPinLaw" = true := by first | (simp [plainName, overriddenIn]; done) | decide +kernel
theorem ef_rm1 (m : MethodId) (x0 : Int32) : entryFrame m #[(.int x0)] 1 = mkF m 0 #[.val (.int x0)] [] := by first | (simp [entryFrame, mkF, argsToLocals, Value.category]; done) | rfl
def Q_rm1 (Z : State) (p1 : Int32) (w_CONTAINER : Addr) (w_UNSTRUCTURED_DATA : Addr) (w_DATA : Addr) (h0 : Heap) (n0 : Nat) (v : Option Value) (h : Heap) (L : List Loc) : Prop := v = some (.ref (own_pick p1 w_CONTAINER w_DATA w_UNSTRUCTURED_DATA)) ∧ Fr n0 L ∧ h = h0
set_option maxRecDepth 65536 in
set_option maxHeartbeats 40000000 in
theorem rm1 (l : Launch) (Z : State) (a0 : Array Value) (hw : ∀ d ∈ tables_1, d.before a0 Z = true) (ws : List Jvm.Cond) (p1 : Int32) (w_CONTAINER : Addr) (w_UNSTRUCTURED_DATA : Addr) (w_DATA : Addr) (h0 : Heap) (n0 : Nat) (Z0 : n0 ≤ h0.size) (WD : World Z h0 w_CONTAINER w_UNSTRUCTURED_DATA w_DATA) :
    MetFree l (⟨"com/example/flagstaff/flagstaff/node/NodeTypeIncludesPinLaw", "pick", "(I)Lcom/example/flagstaff/flagstaff/node/NodeType;"⟩ : MethodName) (head1 (Jvm.Cond.code (⟨"com/example/flagstaff/flagstaff/node/NodeTypeIncludesPinLaw", "pick", "(I)Lcom/example/flagstaff/flagstaff/node/NodeType;"⟩ : MethodName) method_2_code 1 (some (.object "com/example/flagstaff/flagstaff/node/NodeType")) :: ws) ({ frames := 0, cells := 0, slots := 0, locals := 0 } : Room)) (fun a U => a = #[(.int p1)] ∧ Z.Warmed39 U.vm ∧ U.heap = h0) (fun _ _ _ _ _ => True) (fun _ U o U' => ∃ v L, o = .returned v ∧ Q_rm1 Z p1 w_CONTAINER w_UNSTRUCTURED_DATA w_DATA h0 n0 v U'.heap L ∧ FrameEnd U o U' L ({ frames := 0, cells := 0, slots := 0, locals := 0 } : Room).cells ({ frames := 0, cells := 0, slots := 0, locals := 0 } : Room).slots) := by
  refine MetFree.of_bodySF (plainFor_of_name pn_0) hisR ?_
  intro p e s m args below meth c s₁ Bd hml0 hP hK
  obtain ⟨rfl, hZ, hh⟩ := hP
  have hx := Bd.exec
  have hby := Bd.bytes
  have hml : c.maxLocals = 1 := hml0
  have hown : s.vm.findClass "com/example/flagstaff/flagstaff/node/NodeTypeIncludesPinLaw" = some m.cls := findClass_of_methodNamed Bd.named
  have hnm := (name_of_methodNamed Bd.named Bd.method).1
  have X0 : Stand p l e ({ frames := 0, cells := 0, slots := 0, locals := 0 } : Room) s m #[(.int p1)] below meth c s₁ [] 0 0 := Stand.of_body Bd
  have e0 : s₁.heap = h0 := by rw [← hh, Bd.state]; rfl
  have N0 := Fr.nil n0
  have pre0 : ∀ t, Steps p.tables e below (s₁.setTop (mkF m 0 #[.val (.int p1)] [])) t → Steps p.tables e below (s₁.setTop (entryFrame m #[(.int p1)] 1)) t := fun t k => castTop (ef_rm1 m (p1)) k
  obtain ⟨S_CONTAINER, E_CONTAINER, S_UNSTRUCTURED_DATA, E_UNSTRUCTURED_DATA, S_DATA, E_DATA, F_UNSTRUCTURED_DATA_ordinal, F_DATA_ordinal, F_CONTAINER_ordinal, F_CONTAINER_holdsBytes, F_UNSTRUCTURED_DATA_holdsBytes, F_DATA_holdsBytes⟩ := WD
  by_cases hc1 : p1 = (0 : Int32)
  · obtain ⟨T2, X2, e2, st2⟩ := getS2 X0 hx hZ hown (host := "") (Or.inl (hw _ (List.mem_of_getElem? (i := 5) rfl))) Via.refl e0 S_CONTAINER (g := (mkF m 4 #[.val (.int p1)] [])) rfl (hb hby d1_4)
    obtain ⟨fs, hr, hrun, hended, hW, hsame⟩ := X2.leave (v := some (.ref w_CONTAINER)) (fun h => by rw [Bd.returns] at h; cases h)
    refine ⟨_, _, pre0 _ ?_, hrun, hended, _, _, rfl, ?_, ⟨_, rfl⟩, hW, hsame.mono (by decide) (by decide)⟩
    · show Steps p.tables e below (s₁.setTop (mkF m 0 #[.val (.int p1)] [])) _
      refine XS.iloadN X0.here hx rfl (hb hby d1_0) rfl ?_
      show Steps p.tables e below (s₁.setTop (mkF m 1 #[.val (.int p1)] [(.int p1)])) _
      refine XS.ifNo X0.here hx rfl (hb hby d1_1) rfl ((if0 _ _).trans (teq hc1).2) ?_
      show Steps p.tables e below (s₁.setTop (mkF m 4 #[.val (.int p1)] [])) _
      refine st2 _ ?_
      show Steps p.tables e below (T2.setTop (mkF m 7 #[.val (.int p1)] [(.ref w_CONTAINER)])) _
      jvm_step X2.here [X2.here.top, hx, (hb hby d1_7), X2.method', Bd.returns, Value.isRef, FieldType.isReference]
      first | (intro acts; rw [hr _ acts rfl rfl rfl]) | rw [hr _ _ rfl rfl rfl]
      exact Steps.refl _
    · show Q_rm1 Z p1 w_CONTAINER w_UNSTRUCTURED_DATA w_DATA h0 n0 _ T2.heap _
      rw [e2]
      exact ⟨(by simp [own_pick, hc1]), N0, rfl⟩
  · by_cases hc3 : p1 = (1 : Int32)
    · obtain ⟨T4, X4, e4, st4⟩ := getS2 X0 hx hZ hown (host := "") (Or.inl (hw _ (List.mem_of_getElem? (i := 15) rfl))) Via.refl e0 S_DATA (g := (mkF m 13 #[.val (.int p1)] [])) rfl (hb hby d1_13)
      obtain ⟨fs, hr, hrun, hended, hW, hsame⟩ := X4.leave (v := some (.ref w_DATA)) (fun h => by rw [Bd.returns] at h; cases h)
      refine ⟨_, _, pre0 _ ?_, hrun, hended, _, _, rfl, ?_, ⟨_, rfl⟩, hW, hsame.mono (by decide) (by decide)⟩
      · show Steps p.tables e below (s₁.setTop (mkF m 0 #[.val (.int p1)] [])) _
        refine XS.iloadN X0.here hx rfl (hb hby d1_0) rfl ?_
        show Steps p.tables e below (s₁.setTop (mkF m 1 #[.val (.int p1)] [(.int p1)])) _
        refine XS.ifYes X0.here hx rfl (pc0 := 1) (pc' := 8) rfl (hb hby d1_1) rfl ((if0 _ _).trans (feq hc1).2) (by decide) (by decide) ?_
        show Steps p.tables e below (s₁.setTop (mkF m 8 #[.val (.int p1)] [])) _
        refine XS.iloadN X0.here hx rfl (hb hby d1_8) rfl ?_
        show Steps p.tables e below (s₁.setTop (mkF m 9 #[.val (.int p1)] [(.int p1)])) _
        refine XS.iconst X0.here hx rfl (hb hby d1_9) ?_
        show Steps p.tables e below (s₁.setTop (mkF m 10 #[.val (.int p1)] [(.int (1 : Int32)), (.int p1)])) _
        refine XS.icmpNo X0.here hx rfl (hb hby d1_10) rfl (teq hc3).2 ?_
        show Steps p.tables e below (s₁.setTop (mkF m 13 #[.val (.int p1)] [])) _
        refine st4 _ ?_
        show Steps p.tables e below (T4.setTop (mkF m 16 #[.val (.int p1)] [(.ref w_DATA)])) _
        jvm_step X4.here [X4.here.top, hx, (hb hby d1_16), X4.method', Bd.returns, Value.isRef, FieldType.isReference]
        first | (intro acts; rw [hr _ acts rfl rfl rfl]) | rw [hr _ _ rfl rfl rfl]
        exact Steps.refl _
      · show Q_rm1 Z p1 w_CONTAINER w_UNSTRUCTURED_DATA w_DATA h0 n0 _ T4.heap _
        rw [e4]
        exact ⟨(by simp [own_pick, hc1, hc3]), N0, rfl⟩
    · obtain ⟨T5, X5, e5, st5⟩ := getS2 X0 hx hZ hown (host := "") (Or.inl (hw _ (List.mem_of_getElem? (i := 13) rfl))) Via.refl e0 S_UNSTRUCTURED_DATA (g := (mkF m 17 #[.val (.int p1)] [])) rfl (hb hby d1_17)
      obtain ⟨fs, hr, hrun, hended, hW, hsame⟩ := X5.leave (v := some (.ref w_UNSTRUCTURED_DATA)) (fun h => by rw [Bd.returns] at h; cases h)
      refine ⟨_, _, pre0 _ ?_, hrun, hended, _, _, rfl, ?_, ⟨_, rfl⟩, hW, hsame.mono (by decide) (by decide)⟩
      · show Steps p.tables e below (s₁.setTop (mkF m 0 #[.val (.int p1)] [])) _
        refine XS.iloadN X0.here hx rfl (hb hby d1_0) rfl ?_
        show Steps p.tables e below (s₁.setTop (mkF m 1 #[.val (.int p1)] [(.int p1)])) _
        refine XS.ifYes X0.here hx rfl (pc0 := 1) (pc' := 8) rfl (hb hby d1_1) rfl ((if0 _ _).trans (feq hc1).2) (by decide) (by decide) ?_
        show Steps p.tables e below (s₁.setTop (mkF m 8 #[.val (.int p1)] [])) _
        refine XS.iloadN X0.here hx rfl (hb hby d1_8) rfl ?_
        show Steps p.tables e below (s₁.setTop (mkF m 9 #[.val (.int p1)] [(.int p1)])) _
        refine XS.iconst X0.here hx rfl (hb hby d1_9) ?_
        show Steps p.tables e below (s₁.setTop (mkF m 10 #[.val (.int p1)] [(.int (1 : Int32)), (.int p1)])) _
        refine XS.icmpYes X0.here hx rfl (pc0 := 10) (pc' := 17) rfl (hb hby d1_10) rfl (feq hc3).2 (by decide) (by decide) ?_
        show Steps p.tables e below (s₁.setTop (mkF m 17 #[.val (.int p1)] [])) _
        refine st5 _ ?_
        show Steps p.tables e below (T5.setTop (mkF m 20 #[.val (.int p1)] [(.ref w_UNSTRUCTURED_DATA)])) _
        jvm_step X5.here [X5.here.top, hx, (hb hby d1_20), X5.method', Bd.returns, Value.isRef, FieldType.isReference]
        first | (intro acts; rw [hr _ acts rfl rfl rfl]) | rw [hr _ _ rfl rfl rfl]
        exact Steps.refl _
      · show Q_rm1 Z p1 w_CONTAINER w_UNSTRUCTURED_DATA w_DATA h0 n0 _ T5.heap _
        rw [e5]
        exact ⟨(by simp [own_pick, hc1, hc3]), N0, rfl⟩
theorem d2_0 : decode prog_39_method_8_code 0 = .ok (.aload_n 0, 1) := by decide +kernel
theorem d2_1 : decode prog_39_method_8_code 1 = .ok (.aload_n 1, 1) := by decide +kernel
theorem d2_2 : decode prog_39_method_8_code 2 = .ok (.if_acmp .eq 17, 3) := by decide +kernel
theorem d2_5 : decode prog_39_method_8_code 5 = .ok (.aload_n 0, 1) := by decide +kernel
theorem d2_6 : decode prog_39_method_8_code 6 = .ok (.getstatic 7, 3) := by decide +kernel
theorem d2_9 : decode prog_39_method_8_code 9 = .ok (.if_acmp .ne 14, 3) := by decide +kernel
theorem d2_12 : decode prog_39_method_8_code 12 = .ok (.aload_n 1, 1) := by decide +kernel
theorem d2_13 : decode prog_39_method_8_code 13 = .ok (.getfield 36, 3) := by decide +kernel
theorem d2_16 : decode prog_39_method_8_code 16 = .ok (.ifCond .eq 7, 3) := by decide +kernel
theorem d2_19 : decode prog_39_method_8_code 19 = .ok (.iconst 1, 1) := by decide +kernel
theorem d2_20 : decode prog_39_method_8_code 20 = .ok (.goto 4, 3) := by decide +kernel
theorem d2_23 : decode prog_39_method_8_code 23 = .ok (.iconst 0, 1) := by decide +kernel
theorem d2_24 : decode prog_39_method_8_code 24 = .ok (.ireturn, 1) := by decide +kernel
theorem pn_1 : plainName "com/example/flagstaff/flagstaff/node/NodeType" = true := by first | (simp [plainName, overriddenIn]; done) | decide +kernel
theorem ef_rm2 (m : MethodId) (x0 : Addr) (x1 : Addr) : entryFrame m #[(.ref x0), (.ref x1)] 2 = mkF m 0 #[.val (.ref x0), .val (.ref x1)] [] := by first | (simp [entryFrame, mkF, argsToLocals, Value.category]; done) | rfl
def Q_rm2 (Z : State) (a1 : Addr) (a2 : Addr) (hv : Int32) (w_CONTAINER : Addr) (w_UNSTRUCTURED_DATA : Addr) (w_DATA : Addr) (h0 : Heap) (n0 : Nat) (v : Option Value) (h : Heap) (L : List Loc) : Prop := v = some (.int (own_inc a1 a2 w_DATA hv)) ∧ Fr n0 L ∧ h = h0
set_option maxRecDepth 65536 in
set_option maxHeartbeats 40000000 in
theorem rm2 (l : Launch) (Z : State) (a0 : Array Value) (hw : ∀ d ∈ tables_1, d.before a0 Z = true) (ws : List Jvm.Cond) (a1 : Addr) (a2 : Addr) (hv : Int32) (w_CONTAINER : Addr) (w_UNSTRUCTURED_DATA : Addr) (w_DATA : Addr) (h0 : Heap) (n0 : Nat) (Z0 : n0 ≤ h0.size) (WD : World Z h0 w_CONTAINER w_UNSTRUCTURED_DATA w_DATA) (FH : Fld Z h0 a2 "com/example/flagstaff/flagstaff/node/NodeType" "holdsBytes" "Z" (.int hv)) :
    MetFree l (⟨"com/example/flagstaff/flagstaff/node/NodeType", "includes", "(Lcom/example/flagstaff/flagstaff/node/NodeType;)Z"⟩ : MethodName) (head1 (Jvm.Cond.code (⟨"com/example/flagstaff/flagstaff/node/NodeType", "includes", "(Lcom/example/flagstaff/flagstaff/node/NodeType;)Z"⟩ : MethodName) prog_39_method_8_code 2 (some .boolean) :: ws) ({ frames := 0, cells := 0, slots := 0, locals := 0 } : Room)) (fun a U => a = #[(.ref a1), (.ref a2)] ∧ Z.Warmed39 U.vm ∧ U.heap = h0) (fun _ _ _ _ _ => True) (fun _ U o U' => ∃ v L, o = .returned v ∧ Q_rm2 Z a1 a2 hv w_CONTAINER w_UNSTRUCTURED_DATA w_DATA h0 n0 v U'.heap L ∧ FrameEnd U o U' L ({ frames := 0, cells := 0, slots := 0, locals := 0 } : Room).cells ({ frames := 0, cells := 0, slots := 0, locals := 0 } : Room).slots) := by
  refine MetFree.of_bodySF (plainFor_of_name pn_1) hisR ?_
  intro p e s m args below meth c s₁ Bd hml0 hP hK
  obtain ⟨rfl, hZ, hh⟩ := hP
  have hx := Bd.exec
  have hby := Bd.bytes
  have hml : c.maxLocals = 2 := hml0
  have hown : s.vm.findClass "com/example/flagstaff/flagstaff/node/NodeType" = some m.cls := findClass_of_methodNamed Bd.named
  have hnm := (name_of_methodNamed Bd.named Bd.method).1
  have X0 : Stand p l e ({ frames := 0, cells := 0, slots := 0, locals := 0 } : Room) s m #[(.ref a1), (.ref a2)] below meth c s₁ [] 0 0 := Stand.of_body Bd
  have e0 : s₁.heap = h0 := by rw [← hh, Bd.state]; rfl
  have N0 := Fr.nil n0
  have pre0 : ∀ t, Steps p.tables e below (s₁.setTop (mkF m 0 #[.val (.ref a1), .val (.ref a2)] [])) t → Steps p.tables e below (s₁.setTop (entryFrame m #[(.ref a1), (.ref a2)] 2)) t := fun t k => castTop (ef_rm2 m (a1) (a2)) k
  obtain ⟨S_CONTAINER, E_CONTAINER, S_UNSTRUCTURED_DATA, E_UNSTRUCTURED_DATA, S_DATA, E_DATA, F_UNSTRUCTURED_DATA_ordinal, F_DATA_ordinal, F_CONTAINER_ordinal, F_CONTAINER_holdsBytes, F_UNSTRUCTURED_DATA_holdsBytes, F_DATA_holdsBytes⟩ := WD
  by_cases hc1 : a1 = a2
  · obtain ⟨fs, hr, hrun, hended, hW, hsame⟩ := X0.leave (v := some (.int (1 : Int32))) (fun h => by rw [Bd.returns] at h; cases h)
    refine ⟨_, _, pre0 _ ?_, hrun, hended, _, _, rfl, ?_, ⟨_, rfl⟩, hW, hsame.mono (by decide) (by decide)⟩
    · show Steps p.tables e below (s₁.setTop (mkF m 0 #[.val (.ref a1), .val (.ref a2)] [])) _
      refine XS.aloadN X0.here hx rfl (hb hby d2_0) rfl rfl ?_
      show Steps p.tables e below (s₁.setTop (mkF m 1 #[.val (.ref a1), .val (.ref a2)] [(.ref a1)])) _
      refine XS.aloadN X0.here hx rfl (hb hby d2_1) rfl rfl ?_
      show Steps p.tables e below (s₁.setTop (mkF m 2 #[.val (.ref a1), .val (.ref a2)] [(.ref a2), (.ref a1)])) _
      refine Jvm.RoadKit.acmp (g := (mkF m 2 #[.val (.ref a1), .val (.ref a2)] [(.ref a2), (.ref a1)])) X0 hx rfl rfl rfl (pc0 := 2) (pc' := 19) (same := true) rfl (hb hby d2_2) rfl (decide_eq_true (congrArg Value.ref hc1)) (by decide) (by decide) ?_
      show Steps p.tables e below (s₁.setTop (mkF m 19 #[.val (.ref a1), .val (.ref a2)] [])) _
      refine XS.iconst X0.here hx rfl (hb hby d2_19) ?_
      show Steps p.tables e below (s₁.setTop (mkF m 20 #[.val (.ref a1), .val (.ref a2)] [(.int (1 : Int32))])) _
      refine XS.goto X0.here hx rfl (pc0 := 20) (pc' := 24) rfl (hb hby d2_20) (by decide) (by decide) ?_
      show Steps p.tables e below (s₁.setTop (mkF m 24 #[.val (.ref a1), .val (.ref a2)] [(.int (1 : Int32))])) _
      exact retN X0 hx (t := .boolean) Bd.returns (by simp) (hb hby d2_24) hr
    · show Q_rm2 Z a1 a2 hv w_CONTAINER w_UNSTRUCTURED_DATA w_DATA h0 n0 _ s₁.heap _
      rw [e0]
      exact ⟨(by unfold own_inc; rw [if_pos hc1]), N0, rfl⟩
  · obtain ⟨T2, X2, e2, st2⟩ := getS2 X0 hx hZ hown (host := "") (Or.inl (hw _ (List.mem_of_getElem? (i := 17) rfl))) Via.refl e0 S_DATA (g := (mkF m 6 #[.val (.ref a1), .val (.ref a2)] [(.ref a1)])) rfl (hb hby d2_6)
    by_cases hc3 : a1 = w_DATA
    · obtain ⟨T4, X4, e4, st4⟩ := getF X2 hx hZ hown (host := "") (Or.inl (hw _ (List.mem_of_getElem? (i := 18) rfl))) Via.refl e2 FH (g := (mkF m 13 #[.val (.ref a1), .val (.ref a2)] [(.ref a2)])) rfl rfl (hb hby d2_13)
      by_cases hc5 : hv = (0 : Int32)
      · obtain ⟨fs, hr, hrun, hended, hW, hsame⟩ := X4.leave (v := some (.int (0 : Int32))) (fun h => by rw [Bd.returns] at h; cases h)
        refine ⟨_, _, pre0 _ ?_, hrun, hended, _, _, rfl, ?_, ⟨_, rfl⟩, hW, hsame.mono (by decide) (by decide)⟩
        · show Steps p.tables e below (s₁.setTop (mkF m 0 #[.val (.ref a1), .val (.ref a2)] [])) _
          refine XS.aloadN X0.here hx rfl (hb hby d2_0) rfl rfl ?_
          show Steps p.tables e below (s₁.setTop (mkF m 1 #[.val (.ref a1), .val (.ref a2)] [(.ref a1)])) _
          refine XS.aloadN X0.here hx rfl (hb hby d2_1) rfl rfl ?_
          show Steps p.tables e below (s₁.setTop (mkF m 2 #[.val (.ref a1), .val (.ref a2)] [(.ref a2), (.ref a1)])) _
          refine Jvm.RoadKit.acmp (g := (mkF m 2 #[.val (.ref a1), .val (.ref a2)] [(.ref a2), (.ref a1)])) X0 hx rfl rfl rfl (pc0 := 2) (pc' := 5) (same := false) rfl (hb hby d2_2) rfl (decide_eq_false fun q => hc1 (Value.ref.inj q)) (by decide) (by decide) ?_
          show Steps p.tables e below (s₁.setTop (mkF m 5 #[.val (.ref a1), .val (.ref a2)] [])) _
          refine XS.aloadN X0.here hx rfl (hb hby d2_5) rfl rfl ?_
          show Steps p.tables e below (s₁.setTop (mkF m 6 #[.val (.ref a1), .val (.ref a2)] [(.ref a1)])) _
          refine st2 _ ?_
          show Steps p.tables e below (T2.setTop (mkF m 9 #[.val (.ref a1), .val (.ref a2)] [(.ref w_DATA), (.ref a1)])) _
          refine Jvm.RoadKit.acmp (g := (mkF m 9 #[.val (.ref a1), .val (.ref a2)] [(.ref w_DATA), (.ref a1)])) X2 hx rfl rfl rfl (pc0 := 9) (pc' := 12) (same := true) rfl (hb hby d2_9) rfl (decide_eq_true (congrArg Value.ref hc3)) (by decide) (by decide) ?_
          show Steps p.tables e below (T2.setTop (mkF m 12 #[.val (.ref a1), .val (.ref a2)] [])) _
          refine XS.aloadN X2.here hx rfl (hb hby d2_12) rfl rfl ?_
          show Steps p.tables e below (T2.setTop (mkF m 13 #[.val (.ref a1), .val (.ref a2)] [(.ref a2)])) _
          refine st4 _ ?_
          show Steps p.tables e below (T4.setTop (mkF m 16 #[.val (.ref a1), .val (.ref a2)] [(.int hv)])) _
          refine XS.ifYes X4.here hx rfl (pc0 := 16) (pc' := 23) rfl (hb hby d2_16) rfl ((if0 _ _).trans (teq hc5).1) (by decide) (by decide) ?_
          show Steps p.tables e below (T4.setTop (mkF m 23 #[.val (.ref a1), .val (.ref a2)] [])) _
          refine XS.iconst X4.here hx rfl (hb hby d2_23) ?_
          show Steps p.tables e below (T4.setTop (mkF m 24 #[.val (.ref a1), .val (.ref a2)] [(.int (0 : Int32))])) _
          exact retN X4 hx (t := .boolean) Bd.returns (by simp) (hb hby d2_24) hr
        · show Q_rm2 Z a1 a2 hv w_CONTAINER w_UNSTRUCTURED_DATA w_DATA h0 n0 _ T4.heap _
          rw [e4]
          exact ⟨(by unfold own_inc; rw [if_neg hc1, if_pos hc3, if_pos hc5]), N0, rfl⟩
      · obtain ⟨fs, hr, hrun, hended, hW, hsame⟩ := X4.leave (v := some (.int (1 : Int32))) (fun h => by rw [Bd.returns] at h; cases h)
        refine ⟨_, _, pre0 _ ?_, hrun, hended, _, _, rfl, ?_, ⟨_, rfl⟩, hW, hsame.mono (by decide) (by decide)⟩
        · show Steps p.tables e below (s₁.setTop (mkF m 0 #[.val (.ref a1), .val (.ref a2)] [])) _
          refine XS.aloadN X0.here hx rfl (hb hby d2_0) rfl rfl ?_
          show Steps p.tables e below (s₁.setTop (mkF m 1 #[.val (.ref a1), .val (.ref a2)] [(.ref a1)])) _
          refine XS.aloadN X0.here hx rfl (hb hby d2_1) rfl rfl ?_
          show Steps p.tables e below (s₁.setTop (mkF m 2 #[.val (.ref a1), .val (.ref a2)] [(.ref a2), (.ref a1)])) _
          refine Jvm.RoadKit.acmp (g := (mkF m 2 #[.val (.ref a1), .val (.ref a2)] [(.ref a2), (.ref a1)])) X0 hx rfl rfl rfl (pc0 := 2) (pc' := 5) (same := false) rfl (hb hby d2_2) rfl (decide_eq_false fun q => hc1 (Value.ref.inj q)) (by decide) (by decide) ?_
          show Steps p.tables e below (s₁.setTop (mkF m 5 #[.val (.ref a1), .val (.ref a2)] [])) _
          refine XS.aloadN X0.here hx rfl (hb hby d2_5) rfl rfl ?_
          show Steps p.tables e below (s₁.setTop (mkF m 6 #[.val (.ref a1), .val (.ref a2)] [(.ref a1)])) _
          refine st2 _ ?_
          show Steps p.tables e below (T2.setTop (mkF m 9 #[.val (.ref a1), .val (.ref a2)] [(.ref w_DATA), (.ref a1)])) _
          refine Jvm.RoadKit.acmp (g := (mkF m 9 #[.val (.ref a1), .val (.ref a2)] [(.ref w_DATA), (.ref a1)])) X2 hx rfl rfl rfl (pc0 := 9) (pc' := 12) (same := true) rfl (hb hby d2_9) rfl (decide_eq_true (congrArg Value.ref hc3)) (by decide) (by decide) ?_
          show Steps p.tables e below (T2.setTop (mkF m 12 #[.val (.ref a1), .val (.ref a2)] [])) _
          refine XS.aloadN X2.here hx rfl (hb hby d2_12) rfl rfl ?_
          show Steps p.tables e below (T2.setTop (mkF m 13 #[.val (.ref a1), .val (.ref a2)] [(.ref a2)])) _
          refine st4 _ ?_
          show Steps p.tables e below (T4.setTop (mkF m 16 #[.val (.ref a1), .val (.ref a2)] [(.int hv)])) _
          refine XS.ifNo X4.here hx rfl (hb hby d2_16) rfl ((if0 _ _).trans (feq hc5).1) ?_
          show Steps p.tables e below (T4.setTop (mkF m 19 #[.val (.ref a1), .val (.ref a2)] [])) _
          refine XS.iconst X4.here hx rfl (hb hby d2_19) ?_
          show Steps p.tables e below (T4.setTop (mkF m 20 #[.val (.ref a1), .val (.ref a2)] [(.int (1 : Int32))])) _
          refine XS.goto X4.here hx rfl (pc0 := 20) (pc' := 24) rfl (hb hby d2_20) (by decide) (by decide) ?_
          show Steps p.tables e below (T4.setTop (mkF m 24 #[.val (.ref a1), .val (.ref a2)] [(.int (1 : Int32))])) _
          exact retN X4 hx (t := .boolean) Bd.returns (by simp) (hb hby d2_24) hr
        · show Q_rm2 Z a1 a2 hv w_CONTAINER w_UNSTRUCTURED_DATA w_DATA h0 n0 _ T4.heap _
          rw [e4]
          exact ⟨(by unfold own_inc; rw [if_neg hc1, if_pos hc3, if_neg hc5]), N0, rfl⟩
    · obtain ⟨fs, hr, hrun, hended, hW, hsame⟩ := X2.leave (v := some (.int (0 : Int32))) (fun h => by rw [Bd.returns] at h; cases h)
      refine ⟨_, _, pre0 _ ?_, hrun, hended, _, _, rfl, ?_, ⟨_, rfl⟩, hW, hsame.mono (by decide) (by decide)⟩
      · show Steps p.tables e below (s₁.setTop (mkF m 0 #[.val (.ref a1), .val (.ref a2)] [])) _
        refine XS.aloadN X0.here hx rfl (hb hby d2_0) rfl rfl ?_
        show Steps p.tables e below (s₁.setTop (mkF m 1 #[.val (.ref a1), .val (.ref a2)] [(.ref a1)])) _
        refine XS.aloadN X0.here hx rfl (hb hby d2_1) rfl rfl ?_
        show Steps p.tables e below (s₁.setTop (mkF m 2 #[.val (.ref a1), .val (.ref a2)] [(.ref a2), (.ref a1)])) _
        refine Jvm.RoadKit.acmp (g := (mkF m 2 #[.val (.ref a1), .val (.ref a2)] [(.ref a2), (.ref a1)])) X0 hx rfl rfl rfl (pc0 := 2) (pc' := 5) (same := false) rfl (hb hby d2_2) rfl (decide_eq_false fun q => hc1 (Value.ref.inj q)) (by decide) (by decide) ?_
        show Steps p.tables e below (s₁.setTop (mkF m 5 #[.val (.ref a1), .val (.ref a2)] [])) _
        refine XS.aloadN X0.here hx rfl (hb hby d2_5) rfl rfl ?_
        show Steps p.tables e below (s₁.setTop (mkF m 6 #[.val (.ref a1), .val (.ref a2)] [(.ref a1)])) _
        refine st2 _ ?_
        show Steps p.tables e below (T2.setTop (mkF m 9 #[.val (.ref a1), .val (.ref a2)] [(.ref w_DATA), (.ref a1)])) _
        refine Jvm.RoadKit.acmp (g := (mkF m 9 #[.val (.ref a1), .val (.ref a2)] [(.ref w_DATA), (.ref a1)])) X2 hx rfl rfl rfl (pc0 := 9) (pc' := 23) (same := false) rfl (hb hby d2_9) rfl (decide_eq_false fun q => hc3 (Value.ref.inj q)) (by decide) (by decide) ?_
        show Steps p.tables e below (T2.setTop (mkF m 23 #[.val (.ref a1), .val (.ref a2)] [])) _
        refine XS.iconst X2.here hx rfl (hb hby d2_23) ?_
        show Steps p.tables e below (T2.setTop (mkF m 24 #[.val (.ref a1), .val (.ref a2)] [(.int (0 : Int32))])) _
        exact retN X2 hx (t := .boolean) Bd.returns (by simp) (hb hby d2_24) hr
      · show Q_rm2 Z a1 a2 hv w_CONTAINER w_UNSTRUCTURED_DATA w_DATA h0 n0 _ T2.heap _
        rw [e2]
        exact ⟨(by unfold own_inc; rw [if_neg hc1, if_neg hc3]), N0, rfl⟩
theorem pd_0 : parseMethodDescriptor "(I)Lcom/example/flagstaff/flagstaff/node/NodeType;" = some ⟨[.int], some (.object "com/example/flagstaff/flagstaff/node/NodeType")⟩ := by decide +kernel
theorem pd_1 : parseMethodDescriptor "(Lcom/example/flagstaff/flagstaff/node/NodeType;)Z" = some ⟨[(.object "com/example/flagstaff/flagstaff/node/NodeType")], some .boolean⟩ := by decide +kernel
theorem ef_rm0 (m : MethodId) (x0 : Int32) (x1 : Int32) : entryFrame m #[(.int x0), (.int x1)] maxLocals = mkF m 0 #[.val (.int x0), .val (.int x1), .unset, .unset, .unset, .unset] [] := by first | (simp [entryFrame, mkF, argsToLocals, Value.category, maxLocals]; done) | rfl
def Q_rm0 (Z : State) (p0 : Int32) (p1 : Int32) (w_CONTAINER : Addr) (w_UNSTRUCTURED_DATA : Addr) (w_DATA : Addr) (h0 : Heap) (n0 : Nat) (v : Option Value) (h : Heap) (L : List Loc) : Prop := v = some (.int (1 : Int32)) ∧ Fr n0 L ∧ h = h0
set_option maxRecDepth 65536 in
set_option maxHeartbeats 40000000 in
theorem rm0 (l : Launch) (Z : State) (a0 : Array Value) (hw : ∀ d ∈ tables_1, d.before a0 Z = true) (ws : List Jvm.Cond) (p0 : Int32) (p1 : Int32) (w_CONTAINER : Addr) (w_UNSTRUCTURED_DATA : Addr) (w_DATA : Addr) (h0 : Heap) (n0 : Nat) (Z0 : n0 ≤ h0.size) (WD : World Z h0 w_CONTAINER w_UNSTRUCTURED_DATA w_DATA) :
    MetFree l x (head1 (Jvm.Cond.code x code maxLocals ret :: ws) room_1) (fun a U => a = #[(.int p0), (.int p1)] ∧ Z.Warmed39 U.vm ∧ U.heap = h0) (fun _ _ _ _ _ => True) (fun _ U o U' => ∃ v L, o = .returned v ∧ Q_rm0 Z p0 p1 w_CONTAINER w_UNSTRUCTURED_DATA w_DATA h0 n0 v U'.heap L ∧ FrameEnd U o U' L room_1.cells room_1.slots) := by
  refine MetFree.of_bodySF (plainFor_of_name pn_0) hisR ?_
  intro p e s m args below meth c s₁ Bd hml0 hP hK
  obtain ⟨rfl, hZ, hh⟩ := hP
  have hx := Bd.exec
  have hby := Bd.bytes
  have hml : c.maxLocals = 6 := hml0
  have hown : s.vm.findClass "com/example/flagstaff/flagstaff/node/NodeTypeIncludesPinLaw" = some m.cls := findClass_of_methodNamed Bd.named
  have hnm := (name_of_methodNamed Bd.named Bd.method).1
  have X0 : Stand p l e room_1 s m #[(.int p0), (.int p1)] below meth c s₁ [] 0 0 := Stand.of_body Bd
  have e0 : s₁.heap = h0 := by rw [← hh, Bd.state]; rfl
  have N0 := Fr.nil n0
  have pre0 : ∀ t, Steps p.tables e below (s₁.setTop (mkF m 0 #[.val (.int p0), .val (.int p1), .unset, .unset, .unset, .unset] [])) t → Steps p.tables e below (s₁.setTop (entryFrame m #[(.int p0), (.int p1)] maxLocals)) t := fun t k => castTop (ef_rm0 m (p0) (p1)) k
  obtain ⟨S_CONTAINER, E_CONTAINER, S_UNSTRUCTURED_DATA, E_UNSTRUCTURED_DATA, S_DATA, E_DATA, F_UNSTRUCTURED_DATA_ordinal, F_DATA_ordinal, F_CONTAINER_ordinal, F_CONTAINER_holdsBytes, F_UNSTRUCTURED_DATA_holdsBytes, F_DATA_holdsBytes⟩ := id WD
  have ne_UNSTRUCTURED_DATA_DATA : ¬ (w_UNSTRUCTURED_DATA = w_DATA) := own_ne F_UNSTRUCTURED_DATA_ordinal F_DATA_ordinal (by decide)
  have ne_UNSTRUCTURED_DATA_CONTAINER : ¬ (w_UNSTRUCTURED_DATA = w_CONTAINER) := own_ne F_UNSTRUCTURED_DATA_ordinal F_CONTAINER_ordinal (by decide)
  have ne_DATA_UNSTRUCTURED_DATA : ¬ (w_DATA = w_UNSTRUCTURED_DATA) := own_ne F_DATA_ordinal F_UNSTRUCTURED_DATA_ordinal (by decide)
  have ne_DATA_CONTAINER : ¬ (w_DATA = w_CONTAINER) := own_ne F_DATA_ordinal F_CONTAINER_ordinal (by decide)
  have ne_CONTAINER_UNSTRUCTURED_DATA : ¬ (w_CONTAINER = w_UNSTRUCTURED_DATA) := own_ne F_CONTAINER_ordinal F_UNSTRUCTURED_DATA_ordinal (by decide)
  have ne_CONTAINER_DATA : ¬ (w_CONTAINER = w_DATA) := own_ne F_CONTAINER_ordinal F_DATA_ordinal (by decide)
  by_cases hc1 : ((p0 &&& (2147483647 : Int32)) % (3 : Int32)) = ((p1 &&& (2147483647 : Int32)) % (3 : Int32))
  · obtain ⟨_, _, ⟨T2, L2, k2, n2⟩, -, X2, ⟨Lc2, hQ2, l2, y2, z2⟩, st2⟩ := Jvm.LawKit.callS X0 hx (y := (⟨"com/example/flagstaff/flagstaff/node/NodeTypeIncludesPinLaw", "pick", "(I)Lcom/example/flagstaff/flagstaff/node/NodeType;"⟩ : MethodName)) hown (mvT hZ (hw _ (List.mem_of_getElem? (i := 1) rfl))) (mvT hZ (hw _ (List.mem_of_getElem? (i := 2) rfl))) (mvT hZ (hw _ (List.mem_of_getElem? (i := 3) rfl))) (mvT hZ (hw _ (List.mem_of_getElem? (i := 4) rfl))) (by decide) (backOf (W := 0) (rm1 l Z a0 hw [] ((p0 &&& (2147483647 : Int32)) % (3 : Int32)) w_CONTAINER w_UNSTRUCTURED_DATA w_DATA h0 n0 Z0 WD) hZ (hw _ (List.mem_of_getElem? (i := 4) rfl)) (hw _ (List.mem_of_getElem? (i := 3) rfl)) (by decide) (by decide)) (g := (mkF m 37 #[.val (.int p0), .val (.int p1), .val (.int ((p0 &&& (2147483647 : Int32)) % (3 : Int32))), .val (.int ((p1 &&& (2147483647 : Int32)) % (3 : Int32))), .val (.int (1 : Int32)), .unset] [(.int ((p0 &&& (2147483647 : Int32)) % (3 : Int32)))])) rfl (by rw [hml]; rfl) (argsL := [(.int ((p0 &&& (2147483647 : Int32)) % (3 : Int32)))]) (rest := []) (lenOf pd_0 rfl) rfl (by show 2 * 0 + _ ≤ _; exact Nat.le_of_eq rfl) (hb hby at_37) (fun _ _ => ⟨rfl, e0, (by decide : 0 + 0 ≤ _), (by decide : 0 + 0 ≤ _)⟩)
    dsimp only [Pt.U, Pt.locs, Pt.cells, Pt.slots] at X2 l2 y2 z2 st2 hQ2
    subst l2 y2 z2
    obtain ⟨rfl, N2q, e2⟩ := hQ2
    have N2 := Fr.app N0 N2q
    obtain ⟨_, _, ⟨T3, L3, k3, n3⟩, -, X3, ⟨Lc3, hQ3, l3, y3, z3⟩, st3⟩ := Jvm.LawKit.callS X2 hx (y := (⟨"com/example/flagstaff/flagstaff/node/NodeTypeIncludesPinLaw", "pick", "(I)Lcom/example/flagstaff/flagstaff/node/NodeType;"⟩ : MethodName)) hown (mvT hZ (hw _ (List.mem_of_getElem? (i := 1) rfl))) (mvT hZ (hw _ (List.mem_of_getElem? (i := 2) rfl))) (mvT hZ (hw _ (List.mem_of_getElem? (i := 3) rfl))) (mvT hZ (hw _ (List.mem_of_getElem? (i := 4) rfl))) (by decide) (backOf (W := 1) (rm1 l Z a0 hw [] ((p1 &&& (2147483647 : Int32)) % (3 : Int32)) w_CONTAINER w_UNSTRUCTURED_DATA w_DATA h0 n0 Z0 WD) hZ (hw _ (List.mem_of_getElem? (i := 4) rfl)) (hw _ (List.mem_of_getElem? (i := 3) rfl)) (by decide) (by decide)) (g := (mkF m 41 #[.val (.int p0), .val (.int p1), .val (.int ((p0 &&& (2147483647 : Int32)) % (3 : Int32))), .val (.int ((p1 &&& (2147483647 : Int32)) % (3 : Int32))), .val (.int (1 : Int32)), .unset] [(.int ((p1 &&& (2147483647 : Int32)) % (3 : Int32))), (.ref (own_pick ((p0 &&& (2147483647 : Int32)) % (3 : Int32)) w_CONTAINER w_DATA w_UNSTRUCTURED_DATA))])) rfl (by rw [hml]; rfl) (argsL := [(.int ((p1 &&& (2147483647 : Int32)) % (3 : Int32)))]) (rest := [(.ref (own_pick ((p0 &&& (2147483647 : Int32)) % (3 : Int32)) w_CONTAINER w_DATA w_UNSTRUCTURED_DATA))]) (lenOf pd_0 rfl) rfl (by show 2 * 0 + _ ≤ _; exact Nat.le_of_eq rfl) (hb hby at_41) (fun _ _ => ⟨rfl, e2, (by decide : 0 + 0 ≤ _), (by decide : 0 + 0 ≤ _)⟩)
    dsimp only [Pt.U, Pt.locs, Pt.cells, Pt.slots] at X3 l3 y3 z3 st3 hQ3
    subst l3 y3 z3
    obtain ⟨rfl, N3q, e3⟩ := hQ3
    have N3 := Fr.app N2 N3q
    obtain ⟨cq4, kq4, q4a, q4b, q4c⟩ := isOf hZ e3 (own_exa WD ((p0 &&& (2147483647 : Int32)) % (3 : Int32)))
    obtain ⟨_, _, ⟨T4, L4, k4, n4⟩, -, X4, ⟨Lc4, hQ4, l4, y4, z4⟩, st4⟩ := X3.virtualBack hx (y := (⟨"com/example/flagstaff/flagstaff/node/NodeType", "includes", "(Lcom/example/flagstaff/flagstaff/node/NodeType;)Z"⟩ : MethodName)) (z := (⟨"com/example/flagstaff/flagstaff/node/NodeType", "includes", "(Lcom/example/flagstaff/flagstaff/node/NodeType;)Z"⟩ : MethodName)) hown (mvT hZ (hw _ (List.mem_of_getElem? (i := 8) rfl))) (mvT hZ (hw _ (List.mem_of_getElem? (i := 9) rfl))) (notFace_of_selects (args := #[]) (mvT hZ (hw _ (List.mem_of_getElem? (i := 11) rfl)))) (mvT hZ (hw _ (List.mem_of_getElem? (i := 11) rfl))) (mvT hZ (hw _ (List.mem_of_getElem? (i := 10) rfl))) (by decide) (backOf (W := 0) (rm2 l Z a0 hw [] (own_pick ((p0 &&& (2147483647 : Int32)) % (3 : Int32)) w_CONTAINER w_DATA w_UNSTRUCTURED_DATA) (own_pick ((p1 &&& (2147483647 : Int32)) % (3 : Int32)) w_CONTAINER w_DATA w_UNSTRUCTURED_DATA) (own_hb ((p1 &&& (2147483647 : Int32)) % (3 : Int32))) w_CONTAINER w_UNSTRUCTURED_DATA w_DATA h0 n0 Z0 WD (own_FH WD ((p1 &&& (2147483647 : Int32)) % (3 : Int32)))) hZ (hw _ (List.mem_of_getElem? (i := 12) rfl)) (hw _ (List.mem_of_getElem? (i := 6) rfl)) (by decide) (by decide)) q4a q4c (g := (mkF m 44 #[.val (.int p0), .val (.int p1), .val (.int ((p0 &&& (2147483647 : Int32)) % (3 : Int32))), .val (.int ((p1 &&& (2147483647 : Int32)) % (3 : Int32))), .val (.int (1 : Int32)), .unset] [(.ref (own_pick ((p1 &&& (2147483647 : Int32)) % (3 : Int32)) w_CONTAINER w_DATA w_UNSTRUCTURED_DATA)), (.ref (own_pick ((p0 &&& (2147483647 : Int32)) % (3 : Int32)) w_CONTAINER w_DATA w_UNSTRUCTURED_DATA))])) rfl (by rw [hml]; rfl) (Steps.refl _) (argsL := [(.ref (own_pick ((p1 &&& (2147483647 : Int32)) % (3 : Int32)) w_CONTAINER w_DATA w_UNSTRUCTURED_DATA))]) (rest := []) (lenOf pd_1 rfl) rfl (by show 2 * 0 + _ ≤ _; exact Nat.le_of_eq rfl) (hb hby at_44) (fun _ _ => ⟨rfl, e3, (by decide : 0 + 0 ≤ _), (by decide : 0 + 0 ≤ _)⟩)
    dsimp only [Pt.U, Pt.locs, Pt.cells, Pt.slots] at X4 l4 y4 z4 st4 hQ4
    subst l4 y4 z4
    obtain ⟨rfl, N4q, e4⟩ := hQ4
    have N4 := Fr.app N3 N4q
    obtain ⟨fs, hr, hrun, hended, hW, hsame⟩ := X4.leave (v := some (.int (1 : Int32))) (fun h => by rw [Bd.returns] at h; cases h)
    refine ⟨_, _, pre0 _ ?_, hrun, hended, _, _, rfl, ?_, ⟨_, rfl⟩, hW, hsame.mono (by decide) (by decide)⟩
    · show Steps p.tables e below (s₁.setTop (mkF m 0 #[.val (.int p0), .val (.int p1), .unset, .unset, .unset, .unset] [])) _
      refine XS.iloadN X0.here hx rfl (hb hby at_0) rfl ?_
      show Steps p.tables e below (s₁.setTop (mkF m 1 #[.val (.int p0), .val (.int p1), .unset, .unset, .unset, .unset] [(.int p0)])) _
      refine X0.ldcInt hx hown (mvT hZ (hw _ (List.mem_of_getElem? (i := 0) rfl))) (g := (mkF m 1 #[.val (.int p0), .val (.int p1), .unset, .unset, .unset, .unset] [(.int p0)])) rfl (hb hby at_1) _ ?_
      show Steps p.tables e below (s₁.setTop (mkF m 3 #[.val (.int p0), .val (.int p1), .unset, .unset, .unset, .unset] [(.int (2147483647 : Int32)), (.int p0)])) _
      refine XS.iand X0.here hx rfl (hb hby at_3) rfl ?_
      show Steps p.tables e below (s₁.setTop (mkF m 4 #[.val (.int p0), .val (.int p1), .unset, .unset, .unset, .unset] [(.int (p0 &&& (2147483647 : Int32)))])) _
      refine XS.iconst X0.here hx rfl (hb hby at_4) ?_
      show Steps p.tables e below (s₁.setTop (mkF m 5 #[.val (.int p0), .val (.int p1), .unset, .unset, .unset, .unset] [(.int (3 : Int32)), (.int (p0 &&& (2147483647 : Int32)))])) _
      refine iremM (g := (mkF m 5 #[.val (.int p0), .val (.int p1), .unset, .unset, .unset, .unset] [(.int (3 : Int32)), (.int (p0 &&& (2147483647 : Int32)))])) X0 hx rfl (hb hby at_5) rfl (by decide) ?_
      show Steps p.tables e below (s₁.setTop (mkF m 6 #[.val (.int p0), .val (.int p1), .unset, .unset, .unset, .unset] [(.int ((p0 &&& (2147483647 : Int32)) % (3 : Int32)))])) _
      refine XS.istoreN X0.here hx rfl (hb hby at_6) rfl (l' := #[.val (.int p0), .val (.int p1), .val (.int ((p0 &&& (2147483647 : Int32)) % (3 : Int32))), .unset, .unset, .unset]) rfl ?_
      show Steps p.tables e below (s₁.setTop (mkF m 7 #[.val (.int p0), .val (.int p1), .val (.int ((p0 &&& (2147483647 : Int32)) % (3 : Int32))), .unset, .unset, .unset] [])) _
      refine XS.iloadN X0.here hx rfl (hb hby at_7) rfl ?_
      show Steps p.tables e below (s₁.setTop (mkF m 8 #[.val (.int p0), .val (.int p1), .val (.int ((p0 &&& (2147483647 : Int32)) % (3 : Int32))), .unset, .unset, .unset] [(.int p1)])) _
      refine X0.ldcInt hx hown (mvT hZ (hw _ (List.mem_of_getElem? (i := 0) rfl))) (g := (mkF m 8 #[.val (.int p0), .val (.int p1), .val (.int ((p0 &&& (2147483647 : Int32)) % (3 : Int32))), .unset, .unset, .unset] [(.int p1)])) rfl (hb hby at_8) _ ?_
      show Steps p.tables e below (s₁.setTop (mkF m 10 #[.val (.int p0), .val (.int p1), .val (.int ((p0 &&& (2147483647 : Int32)) % (3 : Int32))), .unset, .unset, .unset] [(.int (2147483647 : Int32)), (.int p1)])) _
      refine XS.iand X0.here hx rfl (hb hby at_10) rfl ?_
      show Steps p.tables e below (s₁.setTop (mkF m 11 #[.val (.int p0), .val (.int p1), .val (.int ((p0 &&& (2147483647 : Int32)) % (3 : Int32))), .unset, .unset, .unset] [(.int (p1 &&& (2147483647 : Int32)))])) _
      refine XS.iconst X0.here hx rfl (hb hby at_11) ?_
      show Steps p.tables e below (s₁.setTop (mkF m 12 #[.val (.int p0), .val (.int p1), .val (.int ((p0 &&& (2147483647 : Int32)) % (3 : Int32))), .unset, .unset, .unset] [(.int (3 : Int32)), (.int (p1 &&& (2147483647 : Int32)))])) _
      refine iremM (g := (mkF m 12 #[.val (.int p0), .val (.int p1), .val (.int ((p0 &&& (2147483647 : Int32)) % (3 : Int32))), .unset, .unset, .unset] [(.int (3 : Int32)), (.int (p1 &&& (2147483647 : Int32)))])) X0 hx rfl (hb hby at_12) rfl (by decide) ?_
      show Steps p.tables e below (s₁.setTop (mkF m 13 #[.val (.int p0), .val (.int p1), .val (.int ((p0 &&& (2147483647 : Int32)) % (3 : Int32))), .unset, .unset, .unset] [(.int ((p1 &&& (2147483647 : Int32)) % (3 : Int32)))])) _
      refine XS.istoreN X0.here hx rfl (hb hby at_13) rfl (l' := #[.val (.int p0), .val (.int p1), .val (.int ((p0 &&& (2147483647 : Int32)) % (3 : Int32))), .val (.int ((p1 &&& (2147483647 : Int32)) % (3 : Int32))), .unset, .unset]) rfl ?_
      show Steps p.tables e below (s₁.setTop (mkF m 14 #[.val (.int p0), .val (.int p1), .val (.int ((p0 &&& (2147483647 : Int32)) % (3 : Int32))), .val (.int ((p1 &&& (2147483647 : Int32)) % (3 : Int32))), .unset, .unset] [])) _
      refine XS.iloadN X0.here hx rfl (hb hby at_14) rfl ?_
      show Steps p.tables e below (s₁.setTop (mkF m 15 #[.val (.int p0), .val (.int p1), .val (.int ((p0 &&& (2147483647 : Int32)) % (3 : Int32))), .val (.int ((p1 &&& (2147483647 : Int32)) % (3 : Int32))), .unset, .unset] [(.int ((p0 &&& (2147483647 : Int32)) % (3 : Int32)))])) _
      refine XS.iloadN X0.here hx rfl (hb hby at_15) rfl ?_
      show Steps p.tables e below (s₁.setTop (mkF m 16 #[.val (.int p0), .val (.int p1), .val (.int ((p0 &&& (2147483647 : Int32)) % (3 : Int32))), .val (.int ((p1 &&& (2147483647 : Int32)) % (3 : Int32))), .unset, .unset] [(.int ((p1 &&& (2147483647 : Int32)) % (3 : Int32))), (.int ((p0 &&& (2147483647 : Int32)) % (3 : Int32)))])) _
      refine XS.icmpYes X0.here hx rfl (pc0 := 16) (pc' := 29) rfl (hb hby at_16) rfl (teq hc1).1 (by decide) (by decide) ?_
      show Steps p.tables e below (s₁.setTop (mkF m 29 #[.val (.int p0), .val (.int p1), .val (.int ((p0 &&& (2147483647 : Int32)) % (3 : Int32))), .val (.int ((p1 &&& (2147483647 : Int32)) % (3 : Int32))), .unset, .unset] [])) _
      refine XS.iconst X0.here hx rfl (hb hby at_29) ?_
      show Steps p.tables e below (s₁.setTop (mkF m 30 #[.val (.int p0), .val (.int p1), .val (.int ((p0 &&& (2147483647 : Int32)) % (3 : Int32))), .val (.int ((p1 &&& (2147483647 : Int32)) % (3 : Int32))), .unset, .unset] [(.int (1 : Int32))])) _
      refine XS.goto X0.here hx rfl (pc0 := 30) (pc' := 34) rfl (hb hby at_30) (by decide) (by decide) ?_
      show Steps p.tables e below (s₁.setTop (mkF m 34 #[.val (.int p0), .val (.int p1), .val (.int ((p0 &&& (2147483647 : Int32)) % (3 : Int32))), .val (.int ((p1 &&& (2147483647 : Int32)) % (3 : Int32))), .unset, .unset] [(.int (1 : Int32))])) _
      refine XS.istore X0.here hx rfl (hb hby at_34) rfl (l' := #[.val (.int p0), .val (.int p1), .val (.int ((p0 &&& (2147483647 : Int32)) % (3 : Int32))), .val (.int ((p1 &&& (2147483647 : Int32)) % (3 : Int32))), .val (.int (1 : Int32)), .unset]) rfl ?_
      show Steps p.tables e below (s₁.setTop (mkF m 36 #[.val (.int p0), .val (.int p1), .val (.int ((p0 &&& (2147483647 : Int32)) % (3 : Int32))), .val (.int ((p1 &&& (2147483647 : Int32)) % (3 : Int32))), .val (.int (1 : Int32)), .unset] [])) _
      refine XS.iloadN X0.here hx rfl (hb hby at_36) rfl ?_
      show Steps p.tables e below (s₁.setTop (mkF m 37 #[.val (.int p0), .val (.int p1), .val (.int ((p0 &&& (2147483647 : Int32)) % (3 : Int32))), .val (.int ((p1 &&& (2147483647 : Int32)) % (3 : Int32))), .val (.int (1 : Int32)), .unset] [(.int ((p0 &&& (2147483647 : Int32)) % (3 : Int32)))])) _
      refine st2 _ ?_
      show Steps p.tables e below (T2.setTop (mkF m 40 #[.val (.int p0), .val (.int p1), .val (.int ((p0 &&& (2147483647 : Int32)) % (3 : Int32))), .val (.int ((p1 &&& (2147483647 : Int32)) % (3 : Int32))), .val (.int (1 : Int32)), .unset] [(.ref (own_pick ((p0 &&& (2147483647 : Int32)) % (3 : Int32)) w_CONTAINER w_DATA w_UNSTRUCTURED_DATA))])) _
      refine XS.iloadN X2.here hx rfl (hb hby at_40) rfl ?_
      show Steps p.tables e below (T2.setTop (mkF m 41 #[.val (.int p0), .val (.int p1), .val (.int ((p0 &&& (2147483647 : Int32)) % (3 : Int32))), .val (.int ((p1 &&& (2147483647 : Int32)) % (3 : Int32))), .val (.int (1 : Int32)), .unset] [(.int ((p1 &&& (2147483647 : Int32)) % (3 : Int32))), (.ref (own_pick ((p0 &&& (2147483647 : Int32)) % (3 : Int32)) w_CONTAINER w_DATA w_UNSTRUCTURED_DATA))])) _
      refine st3 _ ?_
      show Steps p.tables e below (T3.setTop (mkF m 44 #[.val (.int p0), .val (.int p1), .val (.int ((p0 &&& (2147483647 : Int32)) % (3 : Int32))), .val (.int ((p1 &&& (2147483647 : Int32)) % (3 : Int32))), .val (.int (1 : Int32)), .unset] [(.ref (own_pick ((p1 &&& (2147483647 : Int32)) % (3 : Int32)) w_CONTAINER w_DATA w_UNSTRUCTURED_DATA)), (.ref (own_pick ((p0 &&& (2147483647 : Int32)) % (3 : Int32)) w_CONTAINER w_DATA w_UNSTRUCTURED_DATA))])) _
      refine st4.trans ?_
      show Steps p.tables e below (T4.setTop (mkF m 47 #[.val (.int p0), .val (.int p1), .val (.int ((p0 &&& (2147483647 : Int32)) % (3 : Int32))), .val (.int ((p1 &&& (2147483647 : Int32)) % (3 : Int32))), .val (.int (1 : Int32)), .unset] [(.int (own_inc (own_pick ((p0 &&& (2147483647 : Int32)) % (3 : Int32)) w_CONTAINER w_DATA w_UNSTRUCTURED_DATA) (own_pick ((p1 &&& (2147483647 : Int32)) % (3 : Int32)) w_CONTAINER w_DATA w_UNSTRUCTURED_DATA) w_DATA (own_hb ((p1 &&& (2147483647 : Int32)) % (3 : Int32)))))])) _
      refine XS.istore X4.here hx rfl (hb hby at_47) rfl (l' := #[.val (.int p0), .val (.int p1), .val (.int ((p0 &&& (2147483647 : Int32)) % (3 : Int32))), .val (.int ((p1 &&& (2147483647 : Int32)) % (3 : Int32))), .val (.int (1 : Int32)), .val (.int (own_inc (own_pick ((p0 &&& (2147483647 : Int32)) % (3 : Int32)) w_CONTAINER w_DATA w_UNSTRUCTURED_DATA) (own_pick ((p1 &&& (2147483647 : Int32)) % (3 : Int32)) w_CONTAINER w_DATA w_UNSTRUCTURED_DATA) w_DATA (own_hb ((p1 &&& (2147483647 : Int32)) % (3 : Int32)))))]) rfl ?_
      show Steps p.tables e below (T4.setTop (mkF m 49 #[.val (.int p0), .val (.int p1), .val (.int ((p0 &&& (2147483647 : Int32)) % (3 : Int32))), .val (.int ((p1 &&& (2147483647 : Int32)) % (3 : Int32))), .val (.int (1 : Int32)), .val (.int (own_inc (own_pick ((p0 &&& (2147483647 : Int32)) % (3 : Int32)) w_CONTAINER w_DATA w_UNSTRUCTURED_DATA) (own_pick ((p1 &&& (2147483647 : Int32)) % (3 : Int32)) w_CONTAINER w_DATA w_UNSTRUCTURED_DATA) w_DATA (own_hb ((p1 &&& (2147483647 : Int32)) % (3 : Int32)))))] [])) _
      refine XS.iload X4.here hx rfl (hb hby at_49) rfl ?_
      show Steps p.tables e below (T4.setTop (mkF m 51 #[.val (.int p0), .val (.int p1), .val (.int ((p0 &&& (2147483647 : Int32)) % (3 : Int32))), .val (.int ((p1 &&& (2147483647 : Int32)) % (3 : Int32))), .val (.int (1 : Int32)), .val (.int (own_inc (own_pick ((p0 &&& (2147483647 : Int32)) % (3 : Int32)) w_CONTAINER w_DATA w_UNSTRUCTURED_DATA) (own_pick ((p1 &&& (2147483647 : Int32)) % (3 : Int32)) w_CONTAINER w_DATA w_UNSTRUCTURED_DATA) w_DATA (own_hb ((p1 &&& (2147483647 : Int32)) % (3 : Int32)))))] [(.int (own_inc (own_pick ((p0 &&& (2147483647 : Int32)) % (3 : Int32)) w_CONTAINER w_DATA w_UNSTRUCTURED_DATA) (own_pick ((p1 &&& (2147483647 : Int32)) % (3 : Int32)) w_CONTAINER w_DATA w_UNSTRUCTURED_DATA) w_DATA (own_hb ((p1 &&& (2147483647 : Int32)) % (3 : Int32)))))])) _
      refine XS.iload X4.here hx rfl (hb hby at_51) rfl ?_
      show Steps p.tables e below (T4.setTop (mkF m 53 #[.val (.int p0), .val (.int p1), .val (.int ((p0 &&& (2147483647 : Int32)) % (3 : Int32))), .val (.int ((p1 &&& (2147483647 : Int32)) % (3 : Int32))), .val (.int (1 : Int32)), .val (.int (own_inc (own_pick ((p0 &&& (2147483647 : Int32)) % (3 : Int32)) w_CONTAINER w_DATA w_UNSTRUCTURED_DATA) (own_pick ((p1 &&& (2147483647 : Int32)) % (3 : Int32)) w_CONTAINER w_DATA w_UNSTRUCTURED_DATA) w_DATA (own_hb ((p1 &&& (2147483647 : Int32)) % (3 : Int32)))))] [(.int (1 : Int32)), (.int (own_inc (own_pick ((p0 &&& (2147483647 : Int32)) % (3 : Int32)) w_CONTAINER w_DATA w_UNSTRUCTURED_DATA) (own_pick ((p1 &&& (2147483647 : Int32)) % (3 : Int32)) w_CONTAINER w_DATA w_UNSTRUCTURED_DATA) w_DATA (own_hb ((p1 &&& (2147483647 : Int32)) % (3 : Int32)))))])) _
      refine XS.icmpNo X4.here hx rfl (hb hby at_53) rfl (teq (by rw [own_val ne_CONTAINER_DATA ne_CONTAINER_UNSTRUCTURED_DATA ne_DATA_UNSTRUCTURED_DATA _ _ (own_mod3 _) (own_mod3 _), if_pos hc1] : (own_inc (own_pick ((p0 &&& (2147483647 : Int32)) % (3 : Int32)) w_CONTAINER w_DATA w_UNSTRUCTURED_DATA) (own_pick ((p1 &&& (2147483647 : Int32)) % (3 : Int32)) w_CONTAINER w_DATA w_UNSTRUCTURED_DATA) w_DATA (own_hb ((p1 &&& (2147483647 : Int32)) % (3 : Int32)))) = (1 : Int32))).2 ?_
      show Steps p.tables e below (T4.setTop (mkF m 56 #[.val (.int p0), .val (.int p1), .val (.int ((p0 &&& (2147483647 : Int32)) % (3 : Int32))), .val (.int ((p1 &&& (2147483647 : Int32)) % (3 : Int32))), .val (.int (1 : Int32)), .val (.int (own_inc (own_pick ((p0 &&& (2147483647 : Int32)) % (3 : Int32)) w_CONTAINER w_DATA w_UNSTRUCTURED_DATA) (own_pick ((p1 &&& (2147483647 : Int32)) % (3 : Int32)) w_CONTAINER w_DATA w_UNSTRUCTURED_DATA) w_DATA (own_hb ((p1 &&& (2147483647 : Int32)) % (3 : Int32)))))] [])) _
      refine XS.iconst X4.here hx rfl (hb hby at_56) ?_
      show Steps p.tables e below (T4.setTop (mkF m 57 #[.val (.int p0), .val (.int p1), .val (.int ((p0 &&& (2147483647 : Int32)) % (3 : Int32))), .val (.int ((p1 &&& (2147483647 : Int32)) % (3 : Int32))), .val (.int (1 : Int32)), .val (.int (own_inc (own_pick ((p0 &&& (2147483647 : Int32)) % (3 : Int32)) w_CONTAINER w_DATA w_UNSTRUCTURED_DATA) (own_pick ((p1 &&& (2147483647 : Int32)) % (3 : Int32)) w_CONTAINER w_DATA w_UNSTRUCTURED_DATA) w_DATA (own_hb ((p1 &&& (2147483647 : Int32)) % (3 : Int32)))))] [(.int (1 : Int32))])) _
      refine XS.goto X4.here hx rfl (pc0 := 57) (pc' := 61) rfl (hb hby at_57) (by decide) (by decide) ?_
      show Steps p.tables e below (T4.setTop (mkF m 61 #[.val (.int p0), .val (.int p1), .val (.int ((p0 &&& (2147483647 : Int32)) % (3 : Int32))), .val (.int ((p1 &&& (2147483647 : Int32)) % (3 : Int32))), .val (.int (1 : Int32)), .val (.int (own_inc (own_pick ((p0 &&& (2147483647 : Int32)) % (3 : Int32)) w_CONTAINER w_DATA w_UNSTRUCTURED_DATA) (own_pick ((p1 &&& (2147483647 : Int32)) % (3 : Int32)) w_CONTAINER w_DATA w_UNSTRUCTURED_DATA) w_DATA (own_hb ((p1 &&& (2147483647 : Int32)) % (3 : Int32)))))] [(.int (1 : Int32))])) _
      exact retN X4 hx (t := .boolean) Bd.returns (by simp) (hb hby at_61) hr
    · show Q_rm0 Z p0 p1 w_CONTAINER w_UNSTRUCTURED_DATA w_DATA h0 n0 _ T4.heap _
      rw [e4]
      exact ⟨rfl, N4, rfl⟩
  · by_cases hc5 : ((p0 &&& (2147483647 : Int32)) % (3 : Int32)) = (1 : Int32)
    · by_cases hc6 : ((p1 &&& (2147483647 : Int32)) % (3 : Int32)) = (2 : Int32)
      · obtain ⟨_, _, ⟨T7, L7, k7, n7⟩, -, X7, ⟨Lc7, hQ7, l7, y7, z7⟩, st7⟩ := Jvm.LawKit.callS X0 hx (y := (⟨"com/example/flagstaff/flagstaff/node/NodeTypeIncludesPinLaw", "pick", "(I)Lcom/example/flagstaff/flagstaff/node/NodeType;"⟩ : MethodName)) hown (mvT hZ (hw _ (List.mem_of_getElem? (i := 1) rfl))) (mvT hZ (hw _ (List.mem_of_getElem? (i := 2) rfl))) (mvT hZ (hw _ (List.mem_of_getElem? (i := 3) rfl))) (mvT hZ (hw _ (List.mem_of_getElem? (i := 4) rfl))) (by decide) (backOf (W := 0) (rm1 l Z a0 hw [] ((p0 &&& (2147483647 : Int32)) % (3 : Int32)) w_CONTAINER w_UNSTRUCTURED_DATA w_DATA h0 n0 Z0 WD) hZ (hw _ (List.mem_of_getElem? (i := 4) rfl)) (hw _ (List.mem_of_getElem? (i := 3) rfl)) (by decide) (by decide)) (g := (mkF m 37 #[.val (.int p0), .val (.int p1), .val (.int ((p0 &&& (2147483647 : Int32)) % (3 : Int32))), .val (.int ((p1 &&& (2147483647 : Int32)) % (3 : Int32))), .val (.int (1 : Int32)), .unset] [(.int ((p0 &&& (2147483647 : Int32)) % (3 : Int32)))])) rfl (by rw [hml]; rfl) (argsL := [(.int ((p0 &&& (2147483647 : Int32)) % (3 : Int32)))]) (rest := []) (lenOf pd_0 rfl) rfl (by show 2 * 0 + _ ≤ _; exact Nat.le_of_eq rfl) (hb hby at_37) (fun _ _ => ⟨rfl, e0, (by decide : 0 + 0 ≤ _), (by decide : 0 + 0 ≤ _)⟩)
        dsimp only [Pt.U, Pt.locs, Pt.cells, Pt.slots] at X7 l7 y7 z7 st7 hQ7
        subst l7 y7 z7
        obtain ⟨rfl, N7q, e7⟩ := hQ7
        have N7 := Fr.app N0 N7q
        obtain ⟨_, _, ⟨T8, L8, k8, n8⟩, -, X8, ⟨Lc8, hQ8, l8, y8, z8⟩, st8⟩ := Jvm.LawKit.callS X7 hx (y := (⟨"com/example/flagstaff/flagstaff/node/NodeTypeIncludesPinLaw", "pick", "(I)Lcom/example/flagstaff/flagstaff/node/NodeType;"⟩ : MethodName)) hown (mvT hZ (hw _ (List.mem_of_getElem? (i := 1) rfl))) (mvT hZ (hw _ (List.mem_of_getElem? (i := 2) rfl))) (mvT hZ (hw _ (List.mem_of_getElem? (i := 3) rfl))) (mvT hZ (hw _ (List.mem_of_getElem? (i := 4) rfl))) (by decide) (backOf (W := 1) (rm1 l Z a0 hw [] ((p1 &&& (2147483647 : Int32)) % (3 : Int32)) w_CONTAINER w_UNSTRUCTURED_DATA w_DATA h0 n0 Z0 WD) hZ (hw _ (List.mem_of_getElem? (i := 4) rfl)) (hw _ (List.mem_of_getElem? (i := 3) rfl)) (by decide) (by decide)) (g := (mkF m 41 #[.val (.int p0), .val (.int p1), .val (.int ((p0 &&& (2147483647 : Int32)) % (3 : Int32))), .val (.int ((p1 &&& (2147483647 : Int32)) % (3 : Int32))), .val (.int (1 : Int32)), .unset] [(.int ((p1 &&& (2147483647 : Int32)) % (3 : Int32))), (.ref (own_pick ((p0 &&& (2147483647 : Int32)) % (3 : Int32)) w_CONTAINER w_DATA w_UNSTRUCTURED_DATA))])) rfl (by rw [hml]; rfl) (argsL := [(.int ((p1 &&& (2147483647 : Int32)) % (3 : Int32)))]) (rest := [(.ref (own_pick ((p0 &&& (2147483647 : Int32)) % (3 : Int32)) w_CONTAINER w_DATA w_UNSTRUCTURED_DATA))]) (lenOf pd_0 rfl) rfl (by show 2 * 0 + _ ≤ _; exact Nat.le_of_eq rfl) (hb hby at_41) (fun _ _ => ⟨rfl, e7, (by decide : 0 + 0 ≤ _), (by decide : 0 + 0 ≤ _)⟩)
        dsimp only [Pt.U, Pt.locs, Pt.cells, Pt.slots] at X8 l8 y8 z8 st8 hQ8
        subst l8 y8 z8
        obtain ⟨rfl, N8q, e8⟩ := hQ8
        have N8 := Fr.app N7 N8q
        obtain ⟨cq9, kq9, q9a, q9b, q9c⟩ := isOf hZ e8 (own_exa WD ((p0 &&& (2147483647 : Int32)) % (3 : Int32)))
        obtain ⟨_, _, ⟨T9, L9, k9, n9⟩, -, X9, ⟨Lc9, hQ9, l9, y9, z9⟩, st9⟩ := X8.virtualBack hx (y := (⟨"com/example/flagstaff/flagstaff/node/NodeType", "includes", "(Lcom/example/flagstaff/flagstaff/node/NodeType;)Z"⟩ : MethodName)) (z := (⟨"com/example/flagstaff/flagstaff/node/NodeType", "includes", "(Lcom/example/flagstaff/flagstaff/node/NodeType;)Z"⟩ : MethodName)) hown (mvT hZ (hw _ (List.mem_of_getElem? (i := 8) rfl))) (mvT hZ (hw _ (List.mem_of_getElem? (i := 9) rfl))) (notFace_of_selects (args := #[]) (mvT hZ (hw _ (List.mem_of_getElem? (i := 11) rfl)))) (mvT hZ (hw _ (List.mem_of_getElem? (i := 11) rfl))) (mvT hZ (hw _ (List.mem_of_getElem? (i := 10) rfl))) (by decide) (backOf (W := 0) (rm2 l Z a0 hw [] (own_pick ((p0 &&& (2147483647 : Int32)) % (3 : Int32)) w_CONTAINER w_DATA w_UNSTRUCTURED_DATA) (own_pick ((p1 &&& (2147483647 : Int32)) % (3 : Int32)) w_CONTAINER w_DATA w_UNSTRUCTURED_DATA) (own_hb ((p1 &&& (2147483647 : Int32)) % (3 : Int32))) w_CONTAINER w_UNSTRUCTURED_DATA w_DATA h0 n0 Z0 WD (own_FH WD ((p1 &&& (2147483647 : Int32)) % (3 : Int32)))) hZ (hw _ (List.mem_of_getElem? (i := 12) rfl)) (hw _ (List.mem_of_getElem? (i := 6) rfl)) (by decide) (by decide)) q9a q9c (g := (mkF m 44 #[.val (.int p0), .val (.int p1), .val (.int ((p0 &&& (2147483647 : Int32)) % (3 : Int32))), .val (.int ((p1 &&& (2147483647 : Int32)) % (3 : Int32))), .val (.int (1 : Int32)), .unset] [(.ref (own_pick ((p1 &&& (2147483647 : Int32)) % (3 : Int32)) w_CONTAINER w_DATA w_UNSTRUCTURED_DATA)), (.ref (own_pick ((p0 &&& (2147483647 : Int32)) % (3 : Int32)) w_CONTAINER w_DATA w_UNSTRUCTURED_DATA))])) rfl (by rw [hml]; rfl) (Steps.refl _) (argsL := [(.ref (own_pick ((p1 &&& (2147483647 : Int32)) % (3 : Int32)) w_CONTAINER w_DATA w_UNSTRUCTURED_DATA))]) (rest := []) (lenOf pd_1 rfl) rfl (by show 2 * 0 + _ ≤ _; exact Nat.le_of_eq rfl) (hb hby at_44) (fun _ _ => ⟨rfl, e8, (by decide : 0 + 0 ≤ _), (by decide : 0 + 0 ≤ _)⟩)
        dsimp only [Pt.U, Pt.locs, Pt.cells, Pt.slots] at X9 l9 y9 z9 st9 hQ9
        subst l9 y9 z9
        obtain ⟨rfl, N9q, e9⟩ := hQ9
        have N9 := Fr.app N8 N9q
        obtain ⟨fs, hr, hrun, hended, hW, hsame⟩ := X9.leave (v := some (.int (1 : Int32))) (fun h => by rw [Bd.returns] at h; cases h)
        refine ⟨_, _, pre0 _ ?_, hrun, hended, _, _, rfl, ?_, ⟨_, rfl⟩, hW, hsame.mono (by decide) (by decide)⟩
        · show Steps p.tables e below (s₁.setTop (mkF m 0 #[.val (.int p0), .val (.int p1), .unset, .unset, .unset, .unset] [])) _
          refine XS.iloadN X0.here hx rfl (hb hby at_0) rfl ?_
          show Steps p.tables e below (s₁.setTop (mkF m 1 #[.val (.int p0), .val (.int p1), .unset, .unset, .unset, .unset] [(.int p0)])) _
          refine X0.ldcInt hx hown (mvT hZ (hw _ (List.mem_of_getElem? (i := 0) rfl))) (g := (mkF m 1 #[.val (.int p0), .val (.int p1), .unset, .unset, .unset, .unset] [(.int p0)])) rfl (hb hby at_1) _ ?_
          show Steps p.tables e below (s₁.setTop (mkF m 3 #[.val (.int p0), .val (.int p1), .unset, .unset, .unset, .unset] [(.int (2147483647 : Int32)), (.int p0)])) _
          refine XS.iand X0.here hx rfl (hb hby at_3) rfl ?_
          show Steps p.tables e below (s₁.setTop (mkF m 4 #[.val (.int p0), .val (.int p1), .unset, .unset, .unset, .unset] [(.int (p0 &&& (2147483647 : Int32)))])) _
          refine XS.iconst X0.here hx rfl (hb hby at_4) ?_
          show Steps p.tables e below (s₁.setTop (mkF m 5 #[.val (.int p0), .val (.int p1), .unset, .unset, .unset, .unset] [(.int (3 : Int32)), (.int (p0 &&& (2147483647 : Int32)))])) _
          refine iremM (g := (mkF m 5 #[.val (.int p0), .val (.int p1), .unset, .unset, .unset, .unset] [(.int (3 : Int32)), (.int (p0 &&& (2147483647 : Int32)))])) X0 hx rfl (hb hby at_5) rfl (by decide) ?_
          show Steps p.tables e below (s₁.setTop (mkF m 6 #[.val (.int p0), .val (.int p1), .unset, .unset, .unset, .unset] [(.int ((p0 &&& (2147483647 : Int32)) % (3 : Int32)))])) _
          refine XS.istoreN X0.here hx rfl (hb hby at_6) rfl (l' := #[.val (.int p0), .val (.int p1), .val (.int ((p0 &&& (2147483647 : Int32)) % (3 : Int32))), .unset, .unset, .unset]) rfl ?_
          show Steps p.tables e below (s₁.setTop (mkF m 7 #[.val (.int p0), .val (.int p1), .val (.int ((p0 &&& (2147483647 : Int32)) % (3 : Int32))), .unset, .unset, .unset] [])) _
          refine XS.iloadN X0.here hx rfl (hb hby at_7) rfl ?_
          show Steps p.tables e below (s₁.setTop (mkF m 8 #[.val (.int p0), .val (.int p1), .val (.int ((p0 &&& (2147483647 : Int32)) % (3 : Int32))), .unset, .unset, .unset] [(.int p1)])) _
          refine X0.ldcInt hx hown (mvT hZ (hw _ (List.mem_of_getElem? (i := 0) rfl))) (g := (mkF m 8 #[.val (.int p0), .val (.int p1), .val (.int ((p0 &&& (2147483647 : Int32)) % (3 : Int32))), .unset, .unset, .unset] [(.int p1)])) rfl (hb hby at_8) _ ?_
          show Steps p.tables e below (s₁.setTop (mkF m 10 #[.val (.int p0), .val (.int p1), .val (.int ((p0 &&& (2147483647 : Int32)) % (3 : Int32))), .unset, .unset, .unset] [(.int (2147483647 : Int32)), (.int p1)])) _
          refine XS.iand X0.here hx rfl (hb hby at_10) rfl ?_
          show Steps p.tables e below (s₁.setTop (mkF m 11 #[.val (.int p0), .val (.int p1), .val (.int ((p0 &&& (2147483647 : Int32)) % (3 : Int32))), .unset, .unset, .unset] [(.int (p1 &&& (2147483647 : Int32)))])) _
          refine XS.iconst X0.here hx rfl (hb hby at_11) ?_
          show Steps p.tables e below (s₁.setTop (mkF m 12 #[.val (.int p0), .val (.int p1), .val (.int ((p0 &&& (2147483647 : Int32)) % (3 : Int32))), .unset, .unset, .unset] [(.int (3 : Int32)), (.int (p1 &&& (2147483647 : Int32)))])) _
          refine iremM (g := (mkF m 12 #[.val (.int p0), .val (.int p1), .val (.int ((p0 &&& (2147483647 : Int32)) % (3 : Int32))), .unset, .unset, .unset] [(.int (3 : Int32)), (.int (p1 &&& (2147483647 : Int32)))])) X0 hx rfl (hb hby at_12) rfl (by decide) ?_
          show Steps p.tables e below (s₁.setTop (mkF m 13 #[.val (.int p0), .val (.int p1), .val (.int ((p0 &&& (2147483647 : Int32)) % (3 : Int32))), .unset, .unset, .unset] [(.int ((p1 &&& (2147483647 : Int32)) % (3 : Int32)))])) _
          refine XS.istoreN X0.here hx rfl (hb hby at_13) rfl (l' := #[.val (.int p0), .val (.int p1), .val (.int ((p0 &&& (2147483647 : Int32)) % (3 : Int32))), .val (.int ((p1 &&& (2147483647 : Int32)) % (3 : Int32))), .unset, .unset]) rfl ?_
          show Steps p.tables e below (s₁.setTop (mkF m 14 #[.val (.int p0), .val (.int p1), .val (.int ((p0 &&& (2147483647 : Int32)) % (3 : Int32))), .val (.int ((p1 &&& (2147483647 : Int32)) % (3 : Int32))), .unset, .unset] [])) _
          refine XS.iloadN X0.here hx rfl (hb hby at_14) rfl ?_
          show Steps p.tables e below (s₁.setTop (mkF m 15 #[.val (.int p0), .val (.int p1), .val (.int ((p0 &&& (2147483647 : Int32)) % (3 : Int32))), .val (.int ((p1 &&& (2147483647 : Int32)) % (3 : Int32))), .unset, .unset] [(.int ((p0 &&& (2147483647 : Int32)) % (3 : Int32)))])) _
          refine XS.iloadN X0.here hx rfl (hb hby at_15) rfl ?_
          show Steps p.tables e below (s₁.setTop (mkF m 16 #[.val (.int p0), .val (.int p1), .val (.int ((p0 &&& (2147483647 : Int32)) % (3 : Int32))), .val (.int ((p1 &&& (2147483647 : Int32)) % (3 : Int32))), .unset, .unset] [(.int ((p1 &&& (2147483647 : Int32)) % (3 : Int32))), (.int ((p0 &&& (2147483647 : Int32)) % (3 : Int32)))])) _
          refine XS.icmpNo X0.here hx rfl (hb hby at_16) rfl (feq hc1).1 ?_
          show Steps p.tables e below (s₁.setTop (mkF m 19 #[.val (.int p0), .val (.int p1), .val (.int ((p0 &&& (2147483647 : Int32)) % (3 : Int32))), .val (.int ((p1 &&& (2147483647 : Int32)) % (3 : Int32))), .unset, .unset] [])) _
          refine XS.iloadN X0.here hx rfl (hb hby at_19) rfl ?_
          show Steps p.tables e below (s₁.setTop (mkF m 20 #[.val (.int p0), .val (.int p1), .val (.int ((p0 &&& (2147483647 : Int32)) % (3 : Int32))), .val (.int ((p1 &&& (2147483647 : Int32)) % (3 : Int32))), .unset, .unset] [(.int ((p0 &&& (2147483647 : Int32)) % (3 : Int32)))])) _
          refine XS.iconst X0.here hx rfl (hb hby at_20) ?_
          show Steps p.tables e below (s₁.setTop (mkF m 21 #[.val (.int p0), .val (.int p1), .val (.int ((p0 &&& (2147483647 : Int32)) % (3 : Int32))), .val (.int ((p1 &&& (2147483647 : Int32)) % (3 : Int32))), .unset, .unset] [(.int (1 : Int32)), (.int ((p0 &&& (2147483647 : Int32)) % (3 : Int32)))])) _
          refine XS.icmpNo X0.here hx rfl (hb hby at_21) rfl (teq hc5).2 ?_
          show Steps p.tables e below (s₁.setTop (mkF m 24 #[.val (.int p0), .val (.int p1), .val (.int ((p0 &&& (2147483647 : Int32)) % (3 : Int32))), .val (.int ((p1 &&& (2147483647 : Int32)) % (3 : Int32))), .unset, .unset] [])) _
          refine XS.iloadN X0.here hx rfl (hb hby at_24) rfl ?_
          show Steps p.tables e below (s₁.setTop (mkF m 25 #[.val (.int p0), .val (.int p1), .val (.int ((p0 &&& (2147483647 : Int32)) % (3 : Int32))), .val (.int ((p1 &&& (2147483647 : Int32)) % (3 : Int32))), .unset, .unset] [(.int ((p1 &&& (2147483647 : Int32)) % (3 : Int32)))])) _
          refine XS.iconst X0.here hx rfl (hb hby at_25) ?_
          show Steps p.tables e below (s₁.setTop (mkF m 26 #[.val (.int p0), .val (.int p1), .val (.int ((p0 &&& (2147483647 : Int32)) % (3 : Int32))), .val (.int ((p1 &&& (2147483647 : Int32)) % (3 : Int32))), .unset, .unset] [(.int (2 : Int32)), (.int ((p1 &&& (2147483647 : Int32)) % (3 : Int32)))])) _
          refine XS.icmpNo X0.here hx rfl (hb hby at_26) rfl (teq hc6).2 ?_
          show Steps p.tables e below (s₁.setTop (mkF m 29 #[.val (.int p0), .val (.int p1), .val (.int ((p0 &&& (2147483647 : Int32)) % (3 : Int32))), .val (.int ((p1 &&& (2147483647 : Int32)) % (3 : Int32))), .unset, .unset] [])) _
          refine XS.iconst X0.here hx rfl (hb hby at_29) ?_
          show Steps p.tables e below (s₁.setTop (mkF m 30 #[.val (.int p0), .val (.int p1), .val (.int ((p0 &&& (2147483647 : Int32)) % (3 : Int32))), .val (.int ((p1 &&& (2147483647 : Int32)) % (3 : Int32))), .unset, .unset] [(.int (1 : Int32))])) _
          refine XS.goto X0.here hx rfl (pc0 := 30) (pc' := 34) rfl (hb hby at_30) (by decide) (by decide) ?_
          show Steps p.tables e below (s₁.setTop (mkF m 34 #[.val (.int p0), .val (.int p1), .val (.int ((p0 &&& (2147483647 : Int32)) % (3 : Int32))), .val (.int ((p1 &&& (2147483647 : Int32)) % (3 : Int32))), .unset, .unset] [(.int (1 : Int32))])) _
          refine XS.istore X0.here hx rfl (hb hby at_34) rfl (l' := #[.val (.int p0), .val (.int p1), .val (.int ((p0 &&& (2147483647 : Int32)) % (3 : Int32))), .val (.int ((p1 &&& (2147483647 : Int32)) % (3 : Int32))), .val (.int (1 : Int32)), .unset]) rfl ?_
          show Steps p.tables e below (s₁.setTop (mkF m 36 #[.val (.int p0), .val (.int p1), .val (.int ((p0 &&& (2147483647 : Int32)) % (3 : Int32))), .val (.int ((p1 &&& (2147483647 : Int32)) % (3 : Int32))), .val (.int (1 : Int32)), .unset] [])) _
          refine XS.iloadN X0.here hx rfl (hb hby at_36) rfl ?_
          show Steps p.tables e below (s₁.setTop (mkF m 37 #[.val (.int p0), .val (.int p1), .val (.int ((p0 &&& (2147483647 : Int32)) % (3 : Int32))), .val (.int ((p1 &&& (2147483647 : Int32)) % (3 : Int32))), .val (.int (1 : Int32)), .unset] [(.int ((p0 &&& (2147483647 : Int32)) % (3 : Int32)))])) _
          refine st7 _ ?_
          show Steps p.tables e below (T7.setTop (mkF m 40 #[.val (.int p0), .val (.int p1), .val (.int ((p0 &&& (2147483647 : Int32)) % (3 : Int32))), .val (.int ((p1 &&& (2147483647 : Int32)) % (3 : Int32))), .val (.int (1 : Int32)), .unset] [(.ref (own_pick ((p0 &&& (2147483647 : Int32)) % (3 : Int32)) w_CONTAINER w_DATA w_UNSTRUCTURED_DATA))])) _
          refine XS.iloadN X7.here hx rfl (hb hby at_40) rfl ?_
          show Steps p.tables e below (T7.setTop (mkF m 41 #[.val (.int p0), .val (.int p1), .val (.int ((p0 &&& (2147483647 : Int32)) % (3 : Int32))), .val (.int ((p1 &&& (2147483647 : Int32)) % (3 : Int32))), .val (.int (1 : Int32)), .unset] [(.int ((p1 &&& (2147483647 : Int32)) % (3 : Int32))), (.ref (own_pick ((p0 &&& (2147483647 : Int32)) % (3 : Int32)) w_CONTAINER w_DATA w_UNSTRUCTURED_DATA))])) _
          refine st8 _ ?_
          show Steps p.tables e below (T8.setTop (mkF m 44 #[.val (.int p0), .val (.int p1), .val (.int ((p0 &&& (2147483647 : Int32)) % (3 : Int32))), .val (.int ((p1 &&& (2147483647 : Int32)) % (3 : Int32))), .val (.int (1 : Int32)), .unset] [(.ref (own_pick ((p1 &&& (2147483647 : Int32)) % (3 : Int32)) w_CONTAINER w_DATA w_UNSTRUCTURED_DATA)), (.ref (own_pick ((p0 &&& (2147483647 : Int32)) % (3 : Int32)) w_CONTAINER w_DATA w_UNSTRUCTURED_DATA))])) _
          refine st9.trans ?_
          show Steps p.tables e below (T9.setTop (mkF m 47 #[.val (.int p0), .val (.int p1), .val (.int ((p0 &&& (2147483647 : Int32)) % (3 : Int32))), .val (.int ((p1 &&& (2147483647 : Int32)) % (3 : Int32))), .val (.int (1 : Int32)), .unset] [(.int (own_inc (own_pick ((p0 &&& (2147483647 : Int32)) % (3 : Int32)) w_CONTAINER w_DATA w_UNSTRUCTURED_DATA) (own_pick ((p1 &&& (2147483647 : Int32)) % (3 : Int32)) w_CONTAINER w_DATA w_UNSTRUCTURED_DATA) w_DATA (own_hb ((p1 &&& (2147483647 : Int32)) % (3 : Int32)))))])) _
          refine XS.istore X9.here hx rfl (hb hby at_47) rfl (l' := #[.val (.int p0), .val (.int p1), .val (.int ((p0 &&& (2147483647 : Int32)) % (3 : Int32))), .val (.int ((p1 &&& (2147483647 : Int32)) % (3 : Int32))), .val (.int (1 : Int32)), .val (.int (own_inc (own_pick ((p0 &&& (2147483647 : Int32)) % (3 : Int32)) w_CONTAINER w_DATA w_UNSTRUCTURED_DATA) (own_pick ((p1 &&& (2147483647 : Int32)) % (3 : Int32)) w_CONTAINER w_DATA w_UNSTRUCTURED_DATA) w_DATA (own_hb ((p1 &&& (2147483647 : Int32)) % (3 : Int32)))))]) rfl ?_
          show Steps p.tables e below (T9.setTop (mkF m 49 #[.val (.int p0), .val (.int p1), .val (.int ((p0 &&& (2147483647 : Int32)) % (3 : Int32))), .val (.int ((p1 &&& (2147483647 : Int32)) % (3 : Int32))), .val (.int (1 : Int32)), .val (.int (own_inc (own_pick ((p0 &&& (2147483647 : Int32)) % (3 : Int32)) w_CONTAINER w_DATA w_UNSTRUCTURED_DATA) (own_pick ((p1 &&& (2147483647 : Int32)) % (3 : Int32)) w_CONTAINER w_DATA w_UNSTRUCTURED_DATA) w_DATA (own_hb ((p1 &&& (2147483647 : Int32)) % (3 : Int32)))))] [])) _
          refine XS.iload X9.here hx rfl (hb hby at_49) rfl ?_
          show Steps p.tables e below (T9.setTop (mkF m 51 #[.val (.int p0), .val (.int p1), .val (.int ((p0 &&& (2147483647 : Int32)) % (3 : Int32))), .val (.int ((p1 &&& (2147483647 : Int32)) % (3 : Int32))), .val (.int (1 : Int32)), .val (.int (own_inc (own_pick ((p0 &&& (2147483647 : Int32)) % (3 : Int32)) w_CONTAINER w_DATA w_UNSTRUCTURED_DATA) (own_pick ((p1 &&& (2147483647 : Int32)) % (3 : Int32)) w_CONTAINER w_DATA w_UNSTRUCTURED_DATA) w_DATA (own_hb ((p1 &&& (2147483647 : Int32)) % (3 : Int32)))))] [(.int (own_inc (own_pick ((p0 &&& (2147483647 : Int32)) % (3 : Int32)) w_CONTAINER w_DATA w_UNSTRUCTURED_DATA) (own_pick ((p1 &&& (2147483647 : Int32)) % (3 : Int32)) w_CONTAINER w_DATA w_UNSTRUCTURED_DATA) w_DATA (own_hb ((p1 &&& (2147483647 : Int32)) % (3 : Int32)))))])) _
          refine XS.iload X9.here hx rfl (hb hby at_51) rfl ?_
          show Steps p.tables e below (T9.setTop (mkF m 53 #[.val (.int p0), .val (.int p1), .val (.int ((p0 &&& (2147483647 : Int32)) % (3 : Int32))), .val (.int ((p1 &&& (2147483647 : Int32)) % (3 : Int32))), .val (.int (1 : Int32)), .val (.int (own_inc (own_pick ((p0 &&& (2147483647 : Int32)) % (3 : Int32)) w_CONTAINER w_DATA w_UNSTRUCTURED_DATA) (own_pick ((p1 &&& (2147483647 : Int32)) % (3 : Int32)) w_CONTAINER w_DATA w_UNSTRUCTURED_DATA) w_DATA (own_hb ((p1 &&& (2147483647 : Int32)) % (3 : Int32)))))] [(.int (1 : Int32)), (.int (own_inc (own_pick ((p0 &&& (2147483647 : Int32)) % (3 : Int32)) w_CONTAINER w_DATA w_UNSTRUCTURED_DATA) (own_pick ((p1 &&& (2147483647 : Int32)) % (3 : Int32)) w_CONTAINER w_DATA w_UNSTRUCTURED_DATA) w_DATA (own_hb ((p1 &&& (2147483647 : Int32)) % (3 : Int32)))))])) _
          refine XS.icmpNo X9.here hx rfl (hb hby at_53) rfl (teq (by rw [own_val ne_CONTAINER_DATA ne_CONTAINER_UNSTRUCTURED_DATA ne_DATA_UNSTRUCTURED_DATA _ _ (own_mod3 _) (own_mod3 _), if_neg hc1, if_pos hc5, if_pos hc6] : (own_inc (own_pick ((p0 &&& (2147483647 : Int32)) % (3 : Int32)) w_CONTAINER w_DATA w_UNSTRUCTURED_DATA) (own_pick ((p1 &&& (2147483647 : Int32)) % (3 : Int32)) w_CONTAINER w_DATA w_UNSTRUCTURED_DATA) w_DATA (own_hb ((p1 &&& (2147483647 : Int32)) % (3 : Int32)))) = (1 : Int32))).2 ?_
          show Steps p.tables e below (T9.setTop (mkF m 56 #[.val (.int p0), .val (.int p1), .val (.int ((p0 &&& (2147483647 : Int32)) % (3 : Int32))), .val (.int ((p1 &&& (2147483647 : Int32)) % (3 : Int32))), .val (.int (1 : Int32)), .val (.int (own_inc (own_pick ((p0 &&& (2147483647 : Int32)) % (3 : Int32)) w_CONTAINER w_DATA w_UNSTRUCTURED_DATA) (own_pick ((p1 &&& (2147483647 : Int32)) % (3 : Int32)) w_CONTAINER w_DATA w_UNSTRUCTURED_DATA) w_DATA (own_hb ((p1 &&& (2147483647 : Int32)) % (3 : Int32)))))] [])) _
          refine XS.iconst X9.here hx rfl (hb hby at_56) ?_
          show Steps p.tables e below (T9.setTop (mkF m 57 #[.val (.int p0), .val (.int p1), .val (.int ((p0 &&& (2147483647 : Int32)) % (3 : Int32))), .val (.int ((p1 &&& (2147483647 : Int32)) % (3 : Int32))), .val (.int (1 : Int32)), .val (.int (own_inc (own_pick ((p0 &&& (2147483647 : Int32)) % (3 : Int32)) w_CONTAINER w_DATA w_UNSTRUCTURED_DATA) (own_pick ((p1 &&& (2147483647 : Int32)) % (3 : Int32)) w_CONTAINER w_DATA w_UNSTRUCTURED_DATA) w_DATA (own_hb ((p1 &&& (2147483647 : Int32)) % (3 : Int32)))))] [(.int (1 : Int32))])) _
          refine XS.goto X9.here hx rfl (pc0 := 57) (pc' := 61) rfl (hb hby at_57) (by decide) (by decide) ?_
          show Steps p.tables e below (T9.setTop (mkF m 61 #[.val (.int p0), .val (.int p1), .val (.int ((p0 &&& (2147483647 : Int32)) % (3 : Int32))), .val (.int ((p1 &&& (2147483647 : Int32)) % (3 : Int32))), .val (.int (1 : Int32)), .val (.int (own_inc (own_pick ((p0 &&& (2147483647 : Int32)) % (3 : Int32)) w_CONTAINER w_DATA w_UNSTRUCTURED_DATA) (own_pick ((p1 &&& (2147483647 : Int32)) % (3 : Int32)) w_CONTAINER w_DATA w_UNSTRUCTURED_DATA) w_DATA (own_hb ((p1 &&& (2147483647 : Int32)) % (3 : Int32)))))] [(.int (1 : Int32))])) _
          exact retN X9 hx (t := .boolean) Bd.returns (by simp) (hb hby at_61) hr
        · show Q_rm0 Z p0 p1 w_CONTAINER w_UNSTRUCTURED_DATA w_DATA h0 n0 _ T9.heap _
          rw [e9]
          exact ⟨rfl, N9, rfl⟩
      · obtain ⟨_, _, ⟨T10, L10, k10, n10⟩, -, X10, ⟨Lc10, hQ10, l10, y10, z10⟩, st10⟩ := Jvm.LawKit.callS X0 hx (y := (⟨"com/example/flagstaff/flagstaff/node/NodeTypeIncludesPinLaw", "pick", "(I)Lcom/example/flagstaff/flagstaff/node/NodeType;"⟩ : MethodName)) hown (mvT hZ (hw _ (List.mem_of_getElem? (i := 1) rfl))) (mvT hZ (hw _ (List.mem_of_getElem? (i := 2) rfl))) (mvT hZ (hw _ (List.mem_of_getElem? (i := 3) rfl))) (mvT hZ (hw _ (List.mem_of_getElem? (i := 4) rfl))) (by decide) (backOf (W := 0) (rm1 l Z a0 hw [] ((p0 &&& (2147483647 : Int32)) % (3 : Int32)) w_CONTAINER w_UNSTRUCTURED_DATA w_DATA h0 n0 Z0 WD) hZ (hw _ (List.mem_of_getElem? (i := 4) rfl)) (hw _ (List.mem_of_getElem? (i := 3) rfl)) (by decide) (by decide)) (g := (mkF m 37 #[.val (.int p0), .val (.int p1), .val (.int ((p0 &&& (2147483647 : Int32)) % (3 : Int32))), .val (.int ((p1 &&& (2147483647 : Int32)) % (3 : Int32))), .val (.int (0 : Int32)), .unset] [(.int ((p0 &&& (2147483647 : Int32)) % (3 : Int32)))])) rfl (by rw [hml]; rfl) (argsL := [(.int ((p0 &&& (2147483647 : Int32)) % (3 : Int32)))]) (rest := []) (lenOf pd_0 rfl) rfl (by show 2 * 0 + _ ≤ _; exact Nat.le_of_eq rfl) (hb hby at_37) (fun _ _ => ⟨rfl, e0, (by decide : 0 + 0 ≤ _), (by decide : 0 + 0 ≤ _)⟩)
        dsimp only [Pt.U, Pt.locs, Pt.cells, Pt.slots] at X10 l10 y10 z10 st10 hQ10
        subst l10 y10 z10
        obtain ⟨rfl, N10q, e10⟩ := hQ10
        have N10 := Fr.app N0 N10q
        obtain ⟨_, _, ⟨T11, L11, k11, n11⟩, -, X11, ⟨Lc11, hQ11, l11, y11, z11⟩, st11⟩ := Jvm.LawKit.callS X10 hx (y := (⟨"com/example/flagstaff/flagstaff/node/NodeTypeIncludesPinLaw", "pick", "(I)Lcom/example/flagstaff/flagstaff/node/NodeType;"⟩ : MethodName)) hown (mvT hZ (hw _ (List.mem_of_getElem? (i := 1) rfl))) (mvT hZ (hw _ (List.mem_of_getElem? (i := 2) rfl))) (mvT hZ (hw _ (List.mem_of_getElem? (i := 3) rfl))) (mvT hZ (hw _ (List.mem_of_getElem? (i := 4) rfl))) (by decide) (backOf (W := 1) (rm1 l Z a0 hw [] ((p1 &&& (2147483647 : Int32)) % (3 : Int32)) w_CONTAINER w_UNSTRUCTURED_DATA w_DATA h0 n0 Z0 WD) hZ (hw _ (List.mem_of_getElem? (i := 4) rfl)) (hw _ (List.mem_of_getElem? (i := 3) rfl)) (by decide) (by decide)) (g := (mkF m 41 #[.val (.int p0), .val (.int p1), .val (.int ((p0 &&& (2147483647 : Int32)) % (3 : Int32))), .val (.int ((p1 &&& (2147483647 : Int32)) % (3 : Int32))), .val (.int (0 : Int32)), .unset] [(.int ((p1 &&& (2147483647 : Int32)) % (3 : Int32))), (.ref (own_pick ((p0 &&& (2147483647 : Int32)) % (3 : Int32)) w_CONTAINER w_DATA w_UNSTRUCTURED_DATA))])) rfl (by rw [hml]; rfl) (argsL := [(.int ((p1 &&& (2147483647 : Int32)) % (3 : Int32)))]) (rest := [(.ref (own_pick ((p0 &&& (2147483647 : Int32)) % (3 : Int32)) w_CONTAINER w_DATA w_UNSTRUCTURED_DATA))]) (lenOf pd_0 rfl) rfl (by show 2 * 0 + _ ≤ _; exact Nat.le_of_eq rfl) (hb hby at_41) (fun _ _ => ⟨rfl, e10, (by decide : 0 + 0 ≤ _), (by decide : 0 + 0 ≤ _)⟩)
        dsimp only [Pt.U, Pt.locs, Pt.cells, Pt.slots] at X11 l11 y11 z11 st11 hQ11
        subst l11 y11 z11
        obtain ⟨rfl, N11q, e11⟩ := hQ11
        have N11 := Fr.app N10 N11q
        obtain ⟨cq12, kq12, q12a, q12b, q12c⟩ := isOf hZ e11 (own_exa WD ((p0 &&& (2147483647 : Int32)) % (3 : Int32)))
        obtain ⟨_, _, ⟨T12, L12, k12, n12⟩, -, X12, ⟨Lc12, hQ12, l12, y12, z12⟩, st12⟩ := X11.virtualBack hx (y := (⟨"com/example/flagstaff/flagstaff/node/NodeType", "includes", "(Lcom/example/flagstaff/flagstaff/node/NodeType;)Z"⟩ : MethodName)) (z := (⟨"com/example/flagstaff/flagstaff/node/NodeType", "includes", "(Lcom/example/flagstaff/flagstaff/node/NodeType;)Z"⟩ : MethodName)) hown (mvT hZ (hw _ (List.mem_of_getElem? (i := 8) rfl))) (mvT hZ (hw _ (List.mem_of_getElem? (i := 9) rfl))) (notFace_of_selects (args := #[]) (mvT hZ (hw _ (List.mem_of_getElem? (i := 11) rfl)))) (mvT hZ (hw _ (List.mem_of_getElem? (i := 11) rfl))) (mvT hZ (hw _ (List.mem_of_getElem? (i := 10) rfl))) (by decide) (backOf (W := 0) (rm2 l Z a0 hw [] (own_pick ((p0 &&& (2147483647 : Int32)) % (3 : Int32)) w_CONTAINER w_DATA w_UNSTRUCTURED_DATA) (own_pick ((p1 &&& (2147483647 : Int32)) % (3 : Int32)) w_CONTAINER w_DATA w_UNSTRUCTURED_DATA) (own_hb ((p1 &&& (2147483647 : Int32)) % (3 : Int32))) w_CONTAINER w_UNSTRUCTURED_DATA w_DATA h0 n0 Z0 WD (own_FH WD ((p1 &&& (2147483647 : Int32)) % (3 : Int32)))) hZ (hw _ (List.mem_of_getElem? (i := 12) rfl)) (hw _ (List.mem_of_getElem? (i := 6) rfl)) (by decide) (by decide)) q12a q12c (g := (mkF m 44 #[.val (.int p0), .val (.int p1), .val (.int ((p0 &&& (2147483647 : Int32)) % (3 : Int32))), .val (.int ((p1 &&& (2147483647 : Int32)) % (3 : Int32))), .val (.int (0 : Int32)), .unset] [(.ref (own_pick ((p1 &&& (2147483647 : Int32)) % (3 : Int32)) w_CONTAINER w_DATA w_UNSTRUCTURED_DATA)), (.ref (own_pick ((p0 &&& (2147483647 : Int32)) % (3 : Int32)) w_CONTAINER w_DATA w_UNSTRUCTURED_DATA))])) rfl (by rw [hml]; rfl) (Steps.refl _) (argsL := [(.ref (own_pick ((p1 &&& (2147483647 : Int32)) % (3 : Int32)) w_CONTAINER w_DATA w_UNSTRUCTURED_DATA))]) (rest := []) (lenOf pd_1 rfl) rfl (by show 2 * 0 + _ ≤ _; exact Nat.le_of_eq rfl) (hb hby at_44) (fun _ _ => ⟨rfl, e11, (by decide : 0 + 0 ≤ _), (by decide : 0 + 0 ≤ _)⟩)
        dsimp only [Pt.U, Pt.locs, Pt.cells, Pt.slots] at X12 l12 y12 z12 st12 hQ12
        subst l12 y12 z12
        obtain ⟨rfl, N12q, e12⟩ := hQ12
        have N12 := Fr.app N11 N12q
        obtain ⟨fs, hr, hrun, hended, hW, hsame⟩ := X12.leave (v := some (.int (1 : Int32))) (fun h => by rw [Bd.returns] at h; cases h)
        refine ⟨_, _, pre0 _ ?_, hrun, hended, _, _, rfl, ?_, ⟨_, rfl⟩, hW, hsame.mono (by decide) (by decide)⟩
        · show Steps p.tables e below (s₁.setTop (mkF m 0 #[.val (.int p0), .val (.int p1), .unset, .unset, .unset, .unset] [])) _
          refine XS.iloadN X0.here hx rfl (hb hby at_0) rfl ?_
          show Steps p.tables e below (s₁.setTop (mkF m 1 #[.val (.int p0), .val (.int p1), .unset, .unset, .unset, .unset] [(.int p0)])) _
          refine X0.ldcInt hx hown (mvT hZ (hw _ (List.mem_of_getElem? (i := 0) rfl))) (g := (mkF m 1 #[.val (.int p0), .val (.int p1), .unset, .unset, .unset, .unset] [(.int p0)])) rfl (hb hby at_1) _ ?_
          show Steps p.tables e below (s₁.setTop (mkF m 3 #[.val (.int p0), .val (.int p1), .unset, .unset, .unset, .unset] [(.int (2147483647 : Int32)), (.int p0)])) _
          refine XS.iand X0.here hx rfl (hb hby at_3) rfl ?_
          show Steps p.tables e below (s₁.setTop (mkF m 4 #[.val (.int p0), .val (.int p1), .unset, .unset, .unset, .unset] [(.int (p0 &&& (2147483647 : Int32)))])) _
          refine XS.iconst X0.here hx rfl (hb hby at_4) ?_
          show Steps p.tables e below (s₁.setTop (mkF m 5 #[.val (.int p0), .val (.int p1), .unset, .unset, .unset, .unset] [(.int (3 : Int32)), (.int (p0 &&& (2147483647 : Int32)))])) _
          refine iremM (g := (mkF m 5 #[.val (.int p0), .val (.int p1), .unset, .unset, .unset, .unset] [(.int (3 : Int32)), (.int (p0 &&& (2147483647 : Int32)))])) X0 hx rfl (hb hby at_5) rfl (by decide) ?_
          show Steps p.tables e below (s₁.setTop (mkF m 6 #[.val (.int p0), .val (.int p1), .unset, .unset, .unset, .unset] [(.int ((p0 &&& (2147483647 : Int32)) % (3 : Int32)))])) _
          refine XS.istoreN X0.here hx rfl (hb hby at_6) rfl (l' := #[.val (.int p0), .val (.int p1), .val (.int ((p0 &&& (2147483647 : Int32)) % (3 : Int32))), .unset, .unset, .unset]) rfl ?_
          show Steps p.tables e below (s₁.setTop (mkF m 7 #[.val (.int p0), .val (.int p1), .val (.int ((p0 &&& (2147483647 : Int32)) % (3 : Int32))), .unset, .unset, .unset] [])) _
          refine XS.iloadN X0.here hx rfl (hb hby at_7) rfl ?_
          show Steps p.tables e below (s₁.setTop (mkF m 8 #[.val (.int p0), .val (.int p1), .val (.int ((p0 &&& (2147483647 : Int32)) % (3 : Int32))), .unset, .unset, .unset] [(.int p1)])) _
          refine X0.ldcInt hx hown (mvT hZ (hw _ (List.mem_of_getElem? (i := 0) rfl))) (g := (mkF m 8 #[.val (.int p0), .val (.int p1), .val (.int ((p0 &&& (2147483647 : Int32)) % (3 : Int32))), .unset, .unset, .unset] [(.int p1)])) rfl (hb hby at_8) _ ?_
          show Steps p.tables e below (s₁.setTop (mkF m 10 #[.val (.int p0), .val (.int p1), .val (.int ((p0 &&& (2147483647 : Int32)) % (3 : Int32))), .unset, .unset, .unset] [(.int (2147483647 : Int32)), (.int p1)])) _
          refine XS.iand X0.here hx rfl (hb hby at_10) rfl ?_
          show Steps p.tables e below (s₁.setTop (mkF m 11 #[.val (.int p0), .val (.int p1), .val (.int ((p0 &&& (2147483647 : Int32)) % (3 : Int32))), .unset, .unset, .unset] [(.int (p1 &&& (2147483647 : Int32)))])) _
          refine XS.iconst X0.here hx rfl (hb hby at_11) ?_
          show Steps p.tables e below (s₁.setTop (mkF m 12 #[.val (.int p0), .val (.int p1), .val (.int ((p0 &&& (2147483647 : Int32)) % (3 : Int32))), .unset, .unset, .unset] [(.int (3 : Int32)), (.int (p1 &&& (2147483647 : Int32)))])) _
          refine iremM (g := (mkF m 12 #[.val (.int p0), .val (.int p1), .val (.int ((p0 &&& (2147483647 : Int32)) % (3 : Int32))), .unset, .unset, .unset] [(.int (3 : Int32)), (.int (p1 &&& (2147483647 : Int32)))])) X0 hx rfl (hb hby at_12) rfl (by decide) ?_
          show Steps p.tables e below (s₁.setTop (mkF m 13 #[.val (.int p0), .val (.int p1), .val (.int ((p0 &&& (2147483647 : Int32)) % (3 : Int32))), .unset, .unset, .unset] [(.int ((p1 &&& (2147483647 : Int32)) % (3 : Int32)))])) _
          refine XS.istoreN X0.here hx rfl (hb hby at_13) rfl (l' := #[.val (.int p0), .val (.int p1), .val (.int ((p0 &&& (2147483647 : Int32)) % (3 : Int32))), .val (.int ((p1 &&& (2147483647 : Int32)) % (3 : Int32))), .unset, .unset]) rfl ?_
          show Steps p.tables e below (s₁.setTop (mkF m 14 #[.val (.int p0), .val (.int p1), .val (.int ((p0 &&& (2147483647 : Int32)) % (3 : Int32))), .val (.int ((p1 &&& (2147483647 : Int32)) % (3 : Int32))), .unset, .unset] [])) _
          refine XS.iloadN X0.here hx rfl (hb hby at_14) rfl ?_
          show Steps p.tables e below (s₁.setTop (mkF m 15 #[.val (.int p0), .val (.int p1), .val (.int ((p0 &&& (2147483647 : Int32)) % (3 : Int32))), .val (.int ((p1 &&& (2147483647 : Int32)) % (3 : Int32))), .unset, .unset] [(.int ((p0 &&& (2147483647 : Int32)) % (3 : Int32)))])) _
          refine XS.iloadN X0.here hx rfl (hb hby at_15) rfl ?_
          show Steps p.tables e below (s₁.setTop (mkF m 16 #[.val (.int p0), .val (.int p1), .val (.int ((p0 &&& (2147483647 : Int32)) % (3 : Int32))), .val (.int ((p1 &&& (2147483647 : Int32)) % (3 : Int32))), .unset, .unset] [(.int ((p1 &&& (2147483647 : Int32)) % (3 : Int32))), (.int ((p0 &&& (2147483647 : Int32)) % (3 : Int32)))])) _
          refine XS.icmpNo X0.here hx rfl (hb hby at_16) rfl (feq hc1).1 ?_
          show Steps p.tables e below (s₁.setTop (mkF m 19 #[.val (.int p0), .val (.int p1), .val (.int ((p0 &&& (2147483647 : Int32)) % (3 : Int32))), .val (.int ((p1 &&& (2147483647 : Int32)) % (3 : Int32))), .unset, .unset] [])) _
          refine XS.iloadN X0.here hx rfl (hb hby at_19) rfl ?_
          show Steps p.tables e below (s₁.setTop (mkF m 20 #[.val (.int p0), .val (.int p1), .val (.int ((p0 &&& (2147483647 : Int32)) % (3 : Int32))), .val (.int ((p1 &&& (2147483647 : Int32)) % (3 : Int32))), .unset, .unset] [(.int ((p0 &&& (2147483647 : Int32)) % (3 : Int32)))])) _
          refine XS.iconst X0.here hx rfl (hb hby at_20) ?_
          show Steps p.tables e below (s₁.setTop (mkF m 21 #[.val (.int p0), .val (.int p1), .val (.int ((p0 &&& (2147483647 : Int32)) % (3 : Int32))), .val (.int ((p1 &&& (2147483647 : Int32)) % (3 : Int32))), .unset, .unset] [(.int (1 : Int32)), (.int ((p0 &&& (2147483647 : Int32)) % (3 : Int32)))])) _
          refine XS.icmpNo X0.here hx rfl (hb hby at_21) rfl (teq hc5).2 ?_
          show Steps p.tables e below (s₁.setTop (mkF m 24 #[.val (.int p0), .val (.int p1), .val (.int ((p0 &&& (2147483647 : Int32)) % (3 : Int32))), .val (.int ((p1 &&& (2147483647 : Int32)) % (3 : Int32))), .unset, .unset] [])) _
          refine XS.iloadN X0.here hx rfl (hb hby at_24) rfl ?_
          show Steps p.tables e below (s₁.setTop (mkF m 25 #[.val (.int p0), .val (.int p1), .val (.int ((p0 &&& (2147483647 : Int32)) % (3 : Int32))), .val (.int ((p1 &&& (2147483647 : Int32)) % (3 : Int32))), .unset, .unset] [(.int ((p1 &&& (2147483647 : Int32)) % (3 : Int32)))])) _
          refine XS.iconst X0.here hx rfl (hb hby at_25) ?_
          show Steps p.tables e below (s₁.setTop (mkF m 26 #[.val (.int p0), .val (.int p1), .val (.int ((p0 &&& (2147483647 : Int32)) % (3 : Int32))), .val (.int ((p1 &&& (2147483647 : Int32)) % (3 : Int32))), .unset, .unset] [(.int (2 : Int32)), (.int ((p1 &&& (2147483647 : Int32)) % (3 : Int32)))])) _
          refine XS.icmpYes X0.here hx rfl (pc0 := 26) (pc' := 33) rfl (hb hby at_26) rfl (feq hc6).2 (by decide) (by decide) ?_
          show Steps p.tables e below (s₁.setTop (mkF m 33 #[.val (.int p0), .val (.int p1), .val (.int ((p0 &&& (2147483647 : Int32)) % (3 : Int32))), .val (.int ((p1 &&& (2147483647 : Int32)) % (3 : Int32))), .unset, .unset] [])) _
          refine XS.iconst X0.here hx rfl (hb hby at_33) ?_
          show Steps p.tables e below (s₁.setTop (mkF m 34 #[.val (.int p0), .val (.int p1), .val (.int ((p0 &&& (2147483647 : Int32)) % (3 : Int32))), .val (.int ((p1 &&& (2147483647 : Int32)) % (3 : Int32))), .unset, .unset] [(.int (0 : Int32))])) _
          refine XS.istore X0.here hx rfl (hb hby at_34) rfl (l' := #[.val (.int p0), .val (.int p1), .val (.int ((p0 &&& (2147483647 : Int32)) % (3 : Int32))), .val (.int ((p1 &&& (2147483647 : Int32)) % (3 : Int32))), .val (.int (0 : Int32)), .unset]) rfl ?_
          show Steps p.tables e below (s₁.setTop (mkF m 36 #[.val (.int p0), .val (.int p1), .val (.int ((p0 &&& (2147483647 : Int32)) % (3 : Int32))), .val (.int ((p1 &&& (2147483647 : Int32)) % (3 : Int32))), .val (.int (0 : Int32)), .unset] [])) _
          refine XS.iloadN X0.here hx rfl (hb hby at_36) rfl ?_
          show Steps p.tables e below (s₁.setTop (mkF m 37 #[.val (.int p0), .val (.int p1), .val (.int ((p0 &&& (2147483647 : Int32)) % (3 : Int32))), .val (.int ((p1 &&& (2147483647 : Int32)) % (3 : Int32))), .val (.int (0 : Int32)), .unset] [(.int ((p0 &&& (2147483647 : Int32)) % (3 : Int32)))])) _
          refine st10 _ ?_
          show Steps p.tables e below (T10.setTop (mkF m 40 #[.val (.int p0), .val (.int p1), .val (.int ((p0 &&& (2147483647 : Int32)) % (3 : Int32))), .val (.int ((p1 &&& (2147483647 : Int32)) % (3 : Int32))), .val (.int (0 : Int32)), .unset] [(.ref (own_pick ((p0 &&& (2147483647 : Int32)) % (3 : Int32)) w_CONTAINER w_DATA w_UNSTRUCTURED_DATA))])) _
          refine XS.iloadN X10.here hx rfl (hb hby at_40) rfl ?_
          show Steps p.tables e below (T10.setTop (mkF m 41 #[.val (.int p0), .val (.int p1), .val (.int ((p0 &&& (2147483647 : Int32)) % (3 : Int32))), .val (.int ((p1 &&& (2147483647 : Int32)) % (3 : Int32))), .val (.int (0 : Int32)), .unset] [(.int ((p1 &&& (2147483647 : Int32)) % (3 : Int32))), (.ref (own_pick ((p0 &&& (2147483647 : Int32)) % (3 : Int32)) w_CONTAINER w_DATA w_UNSTRUCTURED_DATA))])) _
          refine st11 _ ?_
          show Steps p.tables e below (T11.setTop (mkF m 44 #[.val (.int p0), .val (.int p1), .val (.int ((p0 &&& (2147483647 : Int32)) % (3 : Int32))), .val (.int ((p1 &&& (2147483647 : Int32)) % (3 : Int32))), .val (.int (0 : Int32)), .unset] [(.ref (own_pick ((p1 &&& (2147483647 : Int32)) % (3 : Int32)) w_CONTAINER w_DATA w_UNSTRUCTURED_DATA)), (.ref (own_pick ((p0 &&& (2147483647 : Int32)) % (3 : Int32)) w_CONTAINER w_DATA w_UNSTRUCTURED_DATA))])) _
          refine st12.trans ?_
          show Steps p.tables e below (T12.setTop (mkF m 47 #[.val (.int p0), .val (.int p1), .val (.int ((p0 &&& (2147483647 : Int32)) % (3 : Int32))), .val (.int ((p1 &&& (2147483647 : Int32)) % (3 : Int32))), .val (.int (0 : Int32)), .unset] [(.int (own_inc (own_pick ((p0 &&& (2147483647 : Int32)) % (3 : Int32)) w_CONTAINER w_DATA w_UNSTRUCTURED_DATA) (own_pick ((p1 &&& (2147483647 : Int32)) % (3 : Int32)) w_CONTAINER w_DATA w_UNSTRUCTURED_DATA) w_DATA (own_hb ((p1 &&& (2147483647 : Int32)) % (3 : Int32)))))])) _
          refine XS.istore X12.here hx rfl (hb hby at_47) rfl (l' := #[.val (.int p0), .val (.int p1), .val (.int ((p0 &&& (2147483647 : Int32)) % (3 : Int32))), .val (.int ((p1 &&& (2147483647 : Int32)) % (3 : Int32))), .val (.int (0 : Int32)), .val (.int (own_inc (own_pick ((p0 &&& (2147483647 : Int32)) % (3 : Int32)) w_CONTAINER w_DATA w_UNSTRUCTURED_DATA) (own_pick ((p1 &&& (2147483647 : Int32)) % (3 : Int32)) w_CONTAINER w_DATA w_UNSTRUCTURED_DATA) w_DATA (own_hb ((p1 &&& (2147483647 : Int32)) % (3 : Int32)))))]) rfl ?_
          show Steps p.tables e below (T12.setTop (mkF m 49 #[.val (.int p0), .val (.int p1), .val (.int ((p0 &&& (2147483647 : Int32)) % (3 : Int32))), .val (.int ((p1 &&& (2147483647 : Int32)) % (3 : Int32))), .val (.int (0 : Int32)), .val (.int (own_inc (own_pick ((p0 &&& (2147483647 : Int32)) % (3 : Int32)) w_CONTAINER w_DATA w_UNSTRUCTURED_DATA) (own_pick ((p1 &&& (2147483647 : Int32)) % (3 : Int32)) w_CONTAINER w_DATA w_UNSTRUCTURED_DATA) w_DATA (own_hb ((p1 &&& (2147483647 : Int32)) % (3 : Int32)))))] [])) _
          refine XS.iload X12.here hx rfl (hb hby at_49) rfl ?_
          show Steps p.tables e below (T12.setTop (mkF m 51 #[.val (.int p0), .val (.int p1), .val (.int ((p0 &&& (2147483647 : Int32)) % (3 : Int32))), .val (.int ((p1 &&& (2147483647 : Int32)) % (3 : Int32))), .val (.int (0 : Int32)), .val (.int (own_inc (own_pick ((p0 &&& (2147483647 : Int32)) % (3 : Int32)) w_CONTAINER w_DATA w_UNSTRUCTURED_DATA) (own_pick ((p1 &&& (2147483647 : Int32)) % (3 : Int32)) w_CONTAINER w_DATA w_UNSTRUCTURED_DATA) w_DATA (own_hb ((p1 &&& (2147483647 : Int32)) % (3 : Int32)))))] [(.int (own_inc (own_pick ((p0 &&& (2147483647 : Int32)) % (3 : Int32)) w_CONTAINER w_DATA w_UNSTRUCTURED_DATA) (own_pick ((p1 &&& (2147483647 : Int32)) % (3 : Int32)) w_CONTAINER w_DATA w_UNSTRUCTURED_DATA) w_DATA (own_hb ((p1 &&& (2147483647 : Int32)) % (3 : Int32)))))])) _
          refine XS.iload X12.here hx rfl (hb hby at_51) rfl ?_
          show Steps p.tables e below (T12.setTop (mkF m 53 #[.val (.int p0), .val (.int p1), .val (.int ((p0 &&& (2147483647 : Int32)) % (3 : Int32))), .val (.int ((p1 &&& (2147483647 : Int32)) % (3 : Int32))), .val (.int (0 : Int32)), .val (.int (own_inc (own_pick ((p0 &&& (2147483647 : Int32)) % (3 : Int32)) w_CONTAINER w_DATA w_UNSTRUCTURED_DATA) (own_pick ((p1 &&& (2147483647 : Int32)) % (3 : Int32)) w_CONTAINER w_DATA w_UNSTRUCTURED_DATA) w_DATA (own_hb ((p1 &&& (2147483647 : Int32)) % (3 : Int32)))))] [(.int (0 : Int32)), (.int (own_inc (own_pick ((p0 &&& (2147483647 : Int32)) % (3 : Int32)) w_CONTAINER w_DATA w_UNSTRUCTURED_DATA) (own_pick ((p1 &&& (2147483647 : Int32)) % (3 : Int32)) w_CONTAINER w_DATA w_UNSTRUCTURED_DATA) w_DATA (own_hb ((p1 &&& (2147483647 : Int32)) % (3 : Int32)))))])) _
          refine XS.icmpNo X12.here hx rfl (hb hby at_53) rfl (teq (by rw [own_val ne_CONTAINER_DATA ne_CONTAINER_UNSTRUCTURED_DATA ne_DATA_UNSTRUCTURED_DATA _ _ (own_mod3 _) (own_mod3 _), if_neg hc1, if_pos hc5, if_neg hc6] : (own_inc (own_pick ((p0 &&& (2147483647 : Int32)) % (3 : Int32)) w_CONTAINER w_DATA w_UNSTRUCTURED_DATA) (own_pick ((p1 &&& (2147483647 : Int32)) % (3 : Int32)) w_CONTAINER w_DATA w_UNSTRUCTURED_DATA) w_DATA (own_hb ((p1 &&& (2147483647 : Int32)) % (3 : Int32)))) = (0 : Int32))).2 ?_
          show Steps p.tables e below (T12.setTop (mkF m 56 #[.val (.int p0), .val (.int p1), .val (.int ((p0 &&& (2147483647 : Int32)) % (3 : Int32))), .val (.int ((p1 &&& (2147483647 : Int32)) % (3 : Int32))), .val (.int (0 : Int32)), .val (.int (own_inc (own_pick ((p0 &&& (2147483647 : Int32)) % (3 : Int32)) w_CONTAINER w_DATA w_UNSTRUCTURED_DATA) (own_pick ((p1 &&& (2147483647 : Int32)) % (3 : Int32)) w_CONTAINER w_DATA w_UNSTRUCTURED_DATA) w_DATA (own_hb ((p1 &&& (2147483647 : Int32)) % (3 : Int32)))))] [])) _
          refine XS.iconst X12.here hx rfl (hb hby at_56) ?_
          show Steps p.tables e below (T12.setTop (mkF m 57 #[.val (.int p0), .val (.int p1), .val (.int ((p0 &&& (2147483647 : Int32)) % (3 : Int32))), .val (.int ((p1 &&& (2147483647 : Int32)) % (3 : Int32))), .val (.int (0 : Int32)), .val (.int (own_inc (own_pick ((p0 &&& (2147483647 : Int32)) % (3 : Int32)) w_CONTAINER w_DATA w_UNSTRUCTURED_DATA) (own_pick ((p1 &&& (2147483647 : Int32)) % (3 : Int32)) w_CONTAINER w_DATA w_UNSTRUCTURED_DATA) w_DATA (own_hb ((p1 &&& (2147483647 : Int32)) % (3 : Int32)))))] [(.int (1 : Int32))])) _
          refine XS.goto X12.here hx rfl (pc0 := 57) (pc' := 61) rfl (hb hby at_57) (by decide) (by decide) ?_
          show Steps p.tables e below (T12.setTop (mkF m 61 #[.val (.int p0), .val (.int p1), .val (.int ((p0 &&& (2147483647 : Int32)) % (3 : Int32))), .val (.int ((p1 &&& (2147483647 : Int32)) % (3 : Int32))), .val (.int (0 : Int32)), .val (.int (own_inc (own_pick ((p0 &&& (2147483647 : Int32)) % (3 : Int32)) w_CONTAINER w_DATA w_UNSTRUCTURED_DATA) (own_pick ((p1 &&& (2147483647 : Int32)) % (3 : Int32)) w_CONTAINER w_DATA w_UNSTRUCTURED_DATA) w_DATA (own_hb ((p1 &&& (2147483647 : Int32)) % (3 : Int32)))))] [(.int (1 : Int32))])) _
          exact retN X12 hx (t := .boolean) Bd.returns (by simp) (hb hby at_61) hr
        · show Q_rm0 Z p0 p1 w_CONTAINER w_UNSTRUCTURED_DATA w_DATA h0 n0 _ T12.heap _
          rw [e12]
          exact ⟨rfl, N12, rfl⟩
    · obtain ⟨_, _, ⟨T13, L13, k13, n13⟩, -, X13, ⟨Lc13, hQ13, l13, y13, z13⟩, st13⟩ := Jvm.LawKit.callS X0 hx (y := (⟨"com/example/flagstaff/flagstaff/node/NodeTypeIncludesPinLaw", "pick", "(I)Lcom/example/flagstaff/flagstaff/node/NodeType;"⟩ : MethodName)) hown (mvT hZ (hw _ (List.mem_of_getElem? (i := 1) rfl))) (mvT hZ (hw _ (List.mem_of_getElem? (i := 2) rfl))) (mvT hZ (hw _ (List.mem_of_getElem? (i := 3) rfl))) (mvT hZ (hw _ (List.mem_of_getElem? (i := 4) rfl))) (by decide) (backOf (W := 0) (rm1 l Z a0 hw [] ((p0 &&& (2147483647 : Int32)) % (3 : Int32)) w_CONTAINER w_UNSTRUCTURED_DATA w_DATA h0 n0 Z0 WD) hZ (hw _ (List.mem_of_getElem? (i := 4) rfl)) (hw _ (List.mem_of_getElem? (i := 3) rfl)) (by decide) (by decide)) (g := (mkF m 37 #[.val (.int p0), .val (.int p1), .val (.int ((p0 &&& (2147483647 : Int32)) % (3 : Int32))), .val (.int ((p1 &&& (2147483647 : Int32)) % (3 : Int32))), .val (.int (0 : Int32)), .unset] [(.int ((p0 &&& (2147483647 : Int32)) % (3 : Int32)))])) rfl (by rw [hml]; rfl) (argsL := [(.int ((p0 &&& (2147483647 : Int32)) % (3 : Int32)))]) (rest := []) (lenOf pd_0 rfl) rfl (by show 2 * 0 + _ ≤ _; exact Nat.le_of_eq rfl) (hb hby at_37) (fun _ _ => ⟨rfl, e0, (by decide : 0 + 0 ≤ _), (by decide : 0 + 0 ≤ _)⟩)
      dsimp only [Pt.U, Pt.locs, Pt.cells, Pt.slots] at X13 l13 y13 z13 st13 hQ13
      subst l13 y13 z13
      obtain ⟨rfl, N13q, e13⟩ := hQ13
      have N13 := Fr.app N0 N13q
      obtain ⟨_, _, ⟨T14, L14, k14, n14⟩, -, X14, ⟨Lc14, hQ14, l14, y14, z14⟩, st14⟩ := Jvm.LawKit.callS X13 hx (y := (⟨"com/example/flagstaff/flagstaff/node/NodeTypeIncludesPinLaw", "pick", "(I)Lcom/example/flagstaff/flagstaff/node/NodeType;"⟩ : MethodName)) hown (mvT hZ (hw _ (List.mem_of_getElem? (i := 1) rfl))) (mvT hZ (hw _ (List.mem_of_getElem? (i := 2) rfl))) (mvT hZ (hw _ (List.mem_of_getElem? (i := 3) rfl))) (mvT hZ (hw _ (List.mem_of_getElem? (i := 4) rfl))) (by decide) (backOf (W := 1) (rm1 l Z a0 hw [] ((p1 &&& (2147483647 : Int32)) % (3 : Int32)) w_CONTAINER w_UNSTRUCTURED_DATA w_DATA h0 n0 Z0 WD) hZ (hw _ (List.mem_of_getElem? (i := 4) rfl)) (hw _ (List.mem_of_getElem? (i := 3) rfl)) (by decide) (by decide)) (g := (mkF m 41 #[.val (.int p0), .val (.int p1), .val (.int ((p0 &&& (2147483647 : Int32)) % (3 : Int32))), .val (.int ((p1 &&& (2147483647 : Int32)) % (3 : Int32))), .val (.int (0 : Int32)), .unset] [(.int ((p1 &&& (2147483647 : Int32)) % (3 : Int32))), (.ref (own_pick ((p0 &&& (2147483647 : Int32)) % (3 : Int32)) w_CONTAINER w_DATA w_UNSTRUCTURED_DATA))])) rfl (by rw [hml]; rfl) (argsL := [(.int ((p1 &&& (2147483647 : Int32)) % (3 : Int32)))]) (rest := [(.ref (own_pick ((p0 &&& (2147483647 : Int32)) % (3 : Int32)) w_CONTAINER w_DATA w_UNSTRUCTURED_DATA))]) (lenOf pd_0 rfl) rfl (by show 2 * 0 + _ ≤ _; exact Nat.le_of_eq rfl) (hb hby at_41) (fun _ _ => ⟨rfl, e13, (by decide : 0 + 0 ≤ _), (by decide : 0 + 0 ≤ _)⟩)
      dsimp only [Pt.U, Pt.locs, Pt.cells, Pt.slots] at X14 l14 y14 z14 st14 hQ14
      subst l14 y14 z14
      obtain ⟨rfl, N14q, e14⟩ := hQ14
      have N14 := Fr.app N13 N14q
      obtain ⟨cq15, kq15, q15a, q15b, q15c⟩ := isOf hZ e14 (own_exa WD ((p0 &&& (2147483647 : Int32)) % (3 : Int32)))
      obtain ⟨_, _, ⟨T15, L15, k15, n15⟩, -, X15, ⟨Lc15, hQ15, l15, y15, z15⟩, st15⟩ := X14.virtualBack hx (y := (⟨"com/example/flagstaff/flagstaff/node/NodeType", "includes", "(Lcom/example/flagstaff/flagstaff/node/NodeType;)Z"⟩ : MethodName)) (z := (⟨"com/example/flagstaff/flagstaff/node/NodeType", "includes", "(Lcom/example/flagstaff/flagstaff/node/NodeType;)Z"⟩ : MethodName)) hown (mvT hZ (hw _ (List.mem_of_getElem? (i := 8) rfl))) (mvT hZ (hw _ (List.mem_of_getElem? (i := 9) rfl))) (notFace_of_selects (args := #[]) (mvT hZ (hw _ (List.mem_of_getElem? (i := 11) rfl)))) (mvT hZ (hw _ (List.mem_of_getElem? (i := 11) rfl))) (mvT hZ (hw _ (List.mem_of_getElem? (i := 10) rfl))) (by decide) (backOf (W := 0) (rm2 l Z a0 hw [] (own_pick ((p0 &&& (2147483647 : Int32)) % (3 : Int32)) w_CONTAINER w_DATA w_UNSTRUCTURED_DATA) (own_pick ((p1 &&& (2147483647 : Int32)) % (3 : Int32)) w_CONTAINER w_DATA w_UNSTRUCTURED_DATA) (own_hb ((p1 &&& (2147483647 : Int32)) % (3 : Int32))) w_CONTAINER w_UNSTRUCTURED_DATA w_DATA h0 n0 Z0 WD (own_FH WD ((p1 &&& (2147483647 : Int32)) % (3 : Int32)))) hZ (hw _ (List.mem_of_getElem? (i := 12) rfl)) (hw _ (List.mem_of_getElem? (i := 6) rfl)) (by decide) (by decide)) q15a q15c (g := (mkF m 44 #[.val (.int p0), .val (.int p1), .val (.int ((p0 &&& (2147483647 : Int32)) % (3 : Int32))), .val (.int ((p1 &&& (2147483647 : Int32)) % (3 : Int32))), .val (.int (0 : Int32)), .unset] [(.ref (own_pick ((p1 &&& (2147483647 : Int32)) % (3 : Int32)) w_CONTAINER w_DATA w_UNSTRUCTURED_DATA)), (.ref (own_pick ((p0 &&& (2147483647 : Int32)) % (3 : Int32)) w_CONTAINER w_DATA w_UNSTRUCTURED_DATA))])) rfl (by rw [hml]; rfl) (Steps.refl _) (argsL := [(.ref (own_pick ((p1 &&& (2147483647 : Int32)) % (3 : Int32)) w_CONTAINER w_DATA w_UNSTRUCTURED_DATA))]) (rest := []) (lenOf pd_1 rfl) rfl (by show 2 * 0 + _ ≤ _; exact Nat.le_of_eq rfl) (hb hby at_44) (fun _ _ => ⟨rfl, e14, (by decide : 0 + 0 ≤ _), (by decide : 0 + 0 ≤ _)⟩)
      dsimp only [Pt.U, Pt.locs, Pt.cells, Pt.slots] at X15 l15 y15 z15 st15 hQ15
      subst l15 y15 z15
      obtain ⟨rfl, N15q, e15⟩ := hQ15
      have N15 := Fr.app N14 N15q
      obtain ⟨fs, hr, hrun, hended, hW, hsame⟩ := X15.leave (v := some (.int (1 : Int32))) (fun h => by rw [Bd.returns] at h; cases h)
      refine ⟨_, _, pre0 _ ?_, hrun, hended, _, _, rfl, ?_, ⟨_, rfl⟩, hW, hsame.mono (by decide) (by decide)⟩
      · show Steps p.tables e below (s₁.setTop (mkF m 0 #[.val (.int p0), .val (.int p1), .unset, .unset, .unset, .unset] [])) _
        refine XS.iloadN X0.here hx rfl (hb hby at_0) rfl ?_
        show Steps p.tables e below (s₁.setTop (mkF m 1 #[.val (.int p0), .val (.int p1), .unset, .unset, .unset, .unset] [(.int p0)])) _
        refine X0.ldcInt hx hown (mvT hZ (hw _ (List.mem_of_getElem? (i := 0) rfl))) (g := (mkF m 1 #[.val (.int p0), .val (.int p1), .unset, .unset, .unset, .unset] [(.int p0)])) rfl (hb hby at_1) _ ?_
        show Steps p.tables e below (s₁.setTop (mkF m 3 #[.val (.int p0), .val (.int p1), .unset, .unset, .unset, .unset] [(.int (2147483647 : Int32)), (.int p0)])) _
        refine XS.iand X0.here hx rfl (hb hby at_3) rfl ?_
        show Steps p.tables e below (s₁.setTop (mkF m 4 #[.val (.int p0), .val (.int p1), .unset, .unset, .unset, .unset] [(.int (p0 &&& (2147483647 : Int32)))])) _
        refine XS.iconst X0.here hx rfl (hb hby at_4) ?_
        show Steps p.tables e below (s₁.setTop (mkF m 5 #[.val (.int p0), .val (.int p1), .unset, .unset, .unset, .unset] [(.int (3 : Int32)), (.int (p0 &&& (2147483647 : Int32)))])) _
        refine iremM (g := (mkF m 5 #[.val (.int p0), .val (.int p1), .unset, .unset, .unset, .unset] [(.int (3 : Int32)), (.int (p0 &&& (2147483647 : Int32)))])) X0 hx rfl (hb hby at_5) rfl (by decide) ?_
        show Steps p.tables e below (s₁.setTop (mkF m 6 #[.val (.int p0), .val (.int p1), .unset, .unset, .unset, .unset] [(.int ((p0 &&& (2147483647 : Int32)) % (3 : Int32)))])) _
        refine XS.istoreN X0.here hx rfl (hb hby at_6) rfl (l' := #[.val (.int p0), .val (.int p1), .val (.int ((p0 &&& (2147483647 : Int32)) % (3 : Int32))), .unset, .unset, .unset]) rfl ?_
        show Steps p.tables e below (s₁.setTop (mkF m 7 #[.val (.int p0), .val (.int p1), .val (.int ((p0 &&& (2147483647 : Int32)) % (3 : Int32))), .unset, .unset, .unset] [])) _
        refine XS.iloadN X0.here hx rfl (hb hby at_7) rfl ?_
        show Steps p.tables e below (s₁.setTop (mkF m 8 #[.val (.int p0), .val (.int p1), .val (.int ((p0 &&& (2147483647 : Int32)) % (3 : Int32))), .unset, .unset, .unset] [(.int p1)])) _
        refine X0.ldcInt hx hown (mvT hZ (hw _ (List.mem_of_getElem? (i := 0) rfl))) (g := (mkF m 8 #[.val (.int p0), .val (.int p1), .val (.int ((p0 &&& (2147483647 : Int32)) % (3 : Int32))), .unset, .unset, .unset] [(.int p1)])) rfl (hb hby at_8) _ ?_
        show Steps p.tables e below (s₁.setTop (mkF m 10 #[.val (.int p0), .val (.int p1), .val (.int ((p0 &&& (2147483647 : Int32)) % (3 : Int32))), .unset, .unset, .unset] [(.int (2147483647 : Int32)), (.int p1)])) _
        refine XS.iand X0.here hx rfl (hb hby at_10) rfl ?_
        show Steps p.tables e below (s₁.setTop (mkF m 11 #[.val (.int p0), .val (.int p1), .val (.int ((p0 &&& (2147483647 : Int32)) % (3 : Int32))), .unset, .unset, .unset] [(.int (p1 &&& (2147483647 : Int32)))])) _
        refine XS.iconst X0.here hx rfl (hb hby at_11) ?_
        show Steps p.tables e below (s₁.setTop (mkF m 12 #[.val (.int p0), .val (.int p1), .val (.int ((p0 &&& (2147483647 : Int32)) % (3 : Int32))), .unset, .unset, .unset] [(.int (3 : Int32)), (.int (p1 &&& (2147483647 : Int32)))])) _
        refine iremM (g := (mkF m 12 #[.val (.int p0), .val (.int p1), .val (.int ((p0 &&& (2147483647 : Int32)) % (3 : Int32))), .unset, .unset, .unset] [(.int (3 : Int32)), (.int (p1 &&& (2147483647 : Int32)))])) X0 hx rfl (hb hby at_12) rfl (by decide) ?_
        show Steps p.tables e below (s₁.setTop (mkF m 13 #[.val (.int p0), .val (.int p1), .val (.int ((p0 &&& (2147483647 : Int32)) % (3 : Int32))), .unset, .unset, .unset] [(.int ((p1 &&& (2147483647 : Int32)) % (3 : Int32)))])) _
        refine XS.istoreN X0.here hx rfl (hb hby at_13) rfl (l' := #[.val (.int p0), .val (.int p1), .val (.int ((p0 &&& (2147483647 : Int32)) % (3 : Int32))), .val (.int ((p1 &&& (2147483647 : Int32)) % (3 : Int32))), .unset, .unset]) rfl ?_
        show Steps p.tables e below (s₁.setTop (mkF m 14 #[.val (.int p0), .val (.int p1), .val (.int ((p0 &&& (2147483647 : Int32)) % (3 : Int32))), .val (.int ((p1 &&& (2147483647 : Int32)) % (3 : Int32))), .unset, .unset] [])) _
        refine XS.iloadN X0.here hx rfl (hb hby at_14) rfl ?_
        show Steps p.tables e below (s₁.setTop (mkF m 15 #[.val (.int p0), .val (.int p1), .val (.int ((p0 &&& (2147483647 : Int32)) % (3 : Int32))), .val (.int ((p1 &&& (2147483647 : Int32)) % (3 : Int32))), .unset, .unset] [(.int ((p0 &&& (2147483647 : Int32)) % (3 : Int32)))])) _
        refine XS.iloadN X0.here hx rfl (hb hby at_15) rfl ?_
        show Steps p.tables e below (s₁.setTop (mkF m 16 #[.val (.int p0), .val (.int p1), .val (.int ((p0 &&& (2147483647 : Int32)) % (3 : Int32))), .val (.int ((p1 &&& (2147483647 : Int32)) % (3 : Int32))), .unset, .unset] [(.int ((p1 &&& (2147483647 : Int32)) % (3 : Int32))), (.int ((p0 &&& (2147483647 : Int32)) % (3 : Int32)))])) _
        refine XS.icmpNo X0.here hx rfl (hb hby at_16) rfl (feq hc1).1 ?_
        show Steps p.tables e below (s₁.setTop (mkF m 19 #[.val (.int p0), .val (.int p1), .val (.int ((p0 &&& (2147483647 : Int32)) % (3 : Int32))), .val (.int ((p1 &&& (2147483647 : Int32)) % (3 : Int32))), .unset, .unset] [])) _
        refine XS.iloadN X0.here hx rfl (hb hby at_19) rfl ?_
        show Steps p.tables e below (s₁.setTop (mkF m 20 #[.val (.int p0), .val (.int p1), .val (.int ((p0 &&& (2147483647 : Int32)) % (3 : Int32))), .val (.int ((p1 &&& (2147483647 : Int32)) % (3 : Int32))), .unset, .unset] [(.int ((p0 &&& (2147483647 : Int32)) % (3 : Int32)))])) _
        refine XS.iconst X0.here hx rfl (hb hby at_20) ?_
        show Steps p.tables e below (s₁.setTop (mkF m 21 #[.val (.int p0), .val (.int p1), .val (.int ((p0 &&& (2147483647 : Int32)) % (3 : Int32))), .val (.int ((p1 &&& (2147483647 : Int32)) % (3 : Int32))), .unset, .unset] [(.int (1 : Int32)), (.int ((p0 &&& (2147483647 : Int32)) % (3 : Int32)))])) _
        refine XS.icmpYes X0.here hx rfl (pc0 := 21) (pc' := 33) rfl (hb hby at_21) rfl (feq hc5).2 (by decide) (by decide) ?_
        show Steps p.tables e below (s₁.setTop (mkF m 33 #[.val (.int p0), .val (.int p1), .val (.int ((p0 &&& (2147483647 : Int32)) % (3 : Int32))), .val (.int ((p1 &&& (2147483647 : Int32)) % (3 : Int32))), .unset, .unset] [])) _
        refine XS.iconst X0.here hx rfl (hb hby at_33) ?_
        show Steps p.tables e below (s₁.setTop (mkF m 34 #[.val (.int p0), .val (.int p1), .val (.int ((p0 &&& (2147483647 : Int32)) % (3 : Int32))), .val (.int ((p1 &&& (2147483647 : Int32)) % (3 : Int32))), .unset, .unset] [(.int (0 : Int32))])) _
        refine XS.istore X0.here hx rfl (hb hby at_34) rfl (l' := #[.val (.int p0), .val (.int p1), .val (.int ((p0 &&& (2147483647 : Int32)) % (3 : Int32))), .val (.int ((p1 &&& (2147483647 : Int32)) % (3 : Int32))), .val (.int (0 : Int32)), .unset]) rfl ?_
        show Steps p.tables e below (s₁.setTop (mkF m 36 #[.val (.int p0), .val (.int p1), .val (.int ((p0 &&& (2147483647 : Int32)) % (3 : Int32))), .val (.int ((p1 &&& (2147483647 : Int32)) % (3 : Int32))), .val (.int (0 : Int32)), .unset] [])) _
        refine XS.iloadN X0.here hx rfl (hb hby at_36) rfl ?_
        show Steps p.tables e below (s₁.setTop (mkF m 37 #[.val (.int p0), .val (.int p1), .val (.int ((p0 &&& (2147483647 : Int32)) % (3 : Int32))), .val (.int ((p1 &&& (2147483647 : Int32)) % (3 : Int32))), .val (.int (0 : Int32)), .unset] [(.int ((p0 &&& (2147483647 : Int32)) % (3 : Int32)))])) _
        refine st13 _ ?_
        show Steps p.tables e below (T13.setTop (mkF m 40 #[.val (.int p0), .val (.int p1), .val (.int ((p0 &&& (2147483647 : Int32)) % (3 : Int32))), .val (.int ((p1 &&& (2147483647 : Int32)) % (3 : Int32))), .val (.int (0 : Int32)), .unset] [(.ref (own_pick ((p0 &&& (2147483647 : Int32)) % (3 : Int32)) w_CONTAINER w_DATA w_UNSTRUCTURED_DATA))])) _
        refine XS.iloadN X13.here hx rfl (hb hby at_40) rfl ?_
        show Steps p.tables e below (T13.setTop (mkF m 41 #[.val (.int p0), .val (.int p1), .val (.int ((p0 &&& (2147483647 : Int32)) % (3 : Int32))), .val (.int ((p1 &&& (2147483647 : Int32)) % (3 : Int32))), .val (.int (0 : Int32)), .unset] [(.int ((p1 &&& (2147483647 : Int32)) % (3 : Int32))), (.ref (own_pick ((p0 &&& (2147483647 : Int32)) % (3 : Int32)) w_CONTAINER w_DATA w_UNSTRUCTURED_DATA))])) _
        refine st14 _ ?_
        show Steps p.tables e below (T14.setTop (mkF m 44 #[.val (.int p0), .val (.int p1), .val (.int ((p0 &&& (2147483647 : Int32)) % (3 : Int32))), .val (.int ((p1 &&& (2147483647 : Int32)) % (3 : Int32))), .val (.int (0 : Int32)), .unset] [(.ref (own_pick ((p1 &&& (2147483647 : Int32)) % (3 : Int32)) w_CONTAINER w_DATA w_UNSTRUCTURED_DATA)), (.ref (own_pick ((p0 &&& (2147483647 : Int32)) % (3 : Int32)) w_CONTAINER w_DATA w_UNSTRUCTURED_DATA))])) _
        refine st15.trans ?_
        show Steps p.tables e below (T15.setTop (mkF m 47 #[.val (.int p0), .val (.int p1), .val (.int ((p0 &&& (2147483647 : Int32)) % (3 : Int32))), .val (.int ((p1 &&& (2147483647 : Int32)) % (3 : Int32))), .val (.int (0 : Int32)), .unset] [(.int (own_inc (own_pick ((p0 &&& (2147483647 : Int32)) % (3 : Int32)) w_CONTAINER w_DATA w_UNSTRUCTURED_DATA) (own_pick ((p1 &&& (2147483647 : Int32)) % (3 : Int32)) w_CONTAINER w_DATA w_UNSTRUCTURED_DATA) w_DATA (own_hb ((p1 &&& (2147483647 : Int32)) % (3 : Int32)))))])) _
        refine XS.istore X15.here hx rfl (hb hby at_47) rfl (l' := #[.val (.int p0), .val (.int p1), .val (.int ((p0 &&& (2147483647 : Int32)) % (3 : Int32))), .val (.int ((p1 &&& (2147483647 : Int32)) % (3 : Int32))), .val (.int (0 : Int32)), .val (.int (own_inc (own_pick ((p0 &&& (2147483647 : Int32)) % (3 : Int32)) w_CONTAINER w_DATA w_UNSTRUCTURED_DATA) (own_pick ((p1 &&& (2147483647 : Int32)) % (3 : Int32)) w_CONTAINER w_DATA w_UNSTRUCTURED_DATA) w_DATA (own_hb ((p1 &&& (2147483647 : Int32)) % (3 : Int32)))))]) rfl ?_
        show Steps p.tables e below (T15.setTop (mkF m 49 #[.val (.int p0), .val (.int p1), .val (.int ((p0 &&& (2147483647 : Int32)) % (3 : Int32))), .val (.int ((p1 &&& (2147483647 : Int32)) % (3 : Int32))), .val (.int (0 : Int32)), .val (.int (own_inc (own_pick ((p0 &&& (2147483647 : Int32)) % (3 : Int32)) w_CONTAINER w_DATA w_UNSTRUCTURED_DATA) (own_pick ((p1 &&& (2147483647 : Int32)) % (3 : Int32)) w_CONTAINER w_DATA w_UNSTRUCTURED_DATA) w_DATA (own_hb ((p1 &&& (2147483647 : Int32)) % (3 : Int32)))))] [])) _
        refine XS.iload X15.here hx rfl (hb hby at_49) rfl ?_
        show Steps p.tables e below (T15.setTop (mkF m 51 #[.val (.int p0), .val (.int p1), .val (.int ((p0 &&& (2147483647 : Int32)) % (3 : Int32))), .val (.int ((p1 &&& (2147483647 : Int32)) % (3 : Int32))), .val (.int (0 : Int32)), .val (.int (own_inc (own_pick ((p0 &&& (2147483647 : Int32)) % (3 : Int32)) w_CONTAINER w_DATA w_UNSTRUCTURED_DATA) (own_pick ((p1 &&& (2147483647 : Int32)) % (3 : Int32)) w_CONTAINER w_DATA w_UNSTRUCTURED_DATA) w_DATA (own_hb ((p1 &&& (2147483647 : Int32)) % (3 : Int32)))))] [(.int (own_inc (own_pick ((p0 &&& (2147483647 : Int32)) % (3 : Int32)) w_CONTAINER w_DATA w_UNSTRUCTURED_DATA) (own_pick ((p1 &&& (2147483647 : Int32)) % (3 : Int32)) w_CONTAINER w_DATA w_UNSTRUCTURED_DATA) w_DATA (own_hb ((p1 &&& (2147483647 : Int32)) % (3 : Int32)))))])) _
        refine XS.iload X15.here hx rfl (hb hby at_51) rfl ?_
        show Steps p.tables e below (T15.setTop (mkF m 53 #[.val (.int p0), .val (.int p1), .val (.int ((p0 &&& (2147483647 : Int32)) % (3 : Int32))), .val (.int ((p1 &&& (2147483647 : Int32)) % (3 : Int32))), .val (.int (0 : Int32)), .val (.int (own_inc (own_pick ((p0 &&& (2147483647 : Int32)) % (3 : Int32)) w_CONTAINER w_DATA w_UNSTRUCTURED_DATA) (own_pick ((p1 &&& (2147483647 : Int32)) % (3 : Int32)) w_CONTAINER w_DATA w_UNSTRUCTURED_DATA) w_DATA (own_hb ((p1 &&& (2147483647 : Int32)) % (3 : Int32)))))] [(.int (0 : Int32)), (.int (own_inc (own_pick ((p0 &&& (2147483647 : Int32)) % (3 : Int32)) w_CONTAINER w_DATA w_UNSTRUCTURED_DATA) (own_pick ((p1 &&& (2147483647 : Int32)) % (3 : Int32)) w_CONTAINER w_DATA w_UNSTRUCTURED_DATA) w_DATA (own_hb ((p1 &&& (2147483647 : Int32)) % (3 : Int32)))))])) _
        refine XS.icmpNo X15.here hx rfl (hb hby at_53) rfl (teq (by rw [own_val ne_CONTAINER_DATA ne_CONTAINER_UNSTRUCTURED_DATA ne_DATA_UNSTRUCTURED_DATA _ _ (own_mod3 _) (own_mod3 _), if_neg hc1, if_neg hc5] : (own_inc (own_pick ((p0 &&& (2147483647 : Int32)) % (3 : Int32)) w_CONTAINER w_DATA w_UNSTRUCTURED_DATA) (own_pick ((p1 &&& (2147483647 : Int32)) % (3 : Int32)) w_CONTAINER w_DATA w_UNSTRUCTURED_DATA) w_DATA (own_hb ((p1 &&& (2147483647 : Int32)) % (3 : Int32)))) = (0 : Int32))).2 ?_
        show Steps p.tables e below (T15.setTop (mkF m 56 #[.val (.int p0), .val (.int p1), .val (.int ((p0 &&& (2147483647 : Int32)) % (3 : Int32))), .val (.int ((p1 &&& (2147483647 : Int32)) % (3 : Int32))), .val (.int (0 : Int32)), .val (.int (own_inc (own_pick ((p0 &&& (2147483647 : Int32)) % (3 : Int32)) w_CONTAINER w_DATA w_UNSTRUCTURED_DATA) (own_pick ((p1 &&& (2147483647 : Int32)) % (3 : Int32)) w_CONTAINER w_DATA w_UNSTRUCTURED_DATA) w_DATA (own_hb ((p1 &&& (2147483647 : Int32)) % (3 : Int32)))))] [])) _
        refine XS.iconst X15.here hx rfl (hb hby at_56) ?_
        show Steps p.tables e below (T15.setTop (mkF m 57 #[.val (.int p0), .val (.int p1), .val (.int ((p0 &&& (2147483647 : Int32)) % (3 : Int32))), .val (.int ((p1 &&& (2147483647 : Int32)) % (3 : Int32))), .val (.int (0 : Int32)), .val (.int (own_inc (own_pick ((p0 &&& (2147483647 : Int32)) % (3 : Int32)) w_CONTAINER w_DATA w_UNSTRUCTURED_DATA) (own_pick ((p1 &&& (2147483647 : Int32)) % (3 : Int32)) w_CONTAINER w_DATA w_UNSTRUCTURED_DATA) w_DATA (own_hb ((p1 &&& (2147483647 : Int32)) % (3 : Int32)))))] [(.int (1 : Int32))])) _
        refine XS.goto X15.here hx rfl (pc0 := 57) (pc' := 61) rfl (hb hby at_57) (by decide) (by decide) ?_
        show Steps p.tables e below (T15.setTop (mkF m 61 #[.val (.int p0), .val (.int p1), .val (.int ((p0 &&& (2147483647 : Int32)) % (3 : Int32))), .val (.int ((p1 &&& (2147483647 : Int32)) % (3 : Int32))), .val (.int (0 : Int32)), .val (.int (own_inc (own_pick ((p0 &&& (2147483647 : Int32)) % (3 : Int32)) w_CONTAINER w_DATA w_UNSTRUCTURED_DATA) (own_pick ((p1 &&& (2147483647 : Int32)) % (3 : Int32)) w_CONTAINER w_DATA w_UNSTRUCTURED_DATA) w_DATA (own_hb ((p1 &&& (2147483647 : Int32)) % (3 : Int32)))))] [(.int (1 : Int32))])) _
        exact retN X15 hx (t := .boolean) Bd.returns (by simp) (hb hby at_61) hr
      · show Q_rm0 Z p0 p1 w_CONTAINER w_UNSTRUCTURED_DATA w_DATA h0 n0 _ T15.heap _
        rw [e15]
        exact ⟨rfl, N15, rfl⟩
set_option maxRecDepth 65536 in
set_option maxHeartbeats 40000000 in
theorem comes_1 {Post : Tables → Env → Array Value → State → Outcome → State → Prop} (hpost : ∀ tb e args s v u, (limb_1_1.after args s (.returned v) u = true ∧ limb_1_2.after args s (.returned v) u = true ∧ True) → FrameEnd s (.returned v) u (Jvm.fieldLocs frame_1_writes args s ++ Jvm.arrayLocs frame_1_arrays args s ++ Jvm.staticLocs frame_1_statics s) 0 0 → Post tb e args s (.returned v) u) :
    ArmFor flags0 classFile x code maxLocals ret World_1 tables_1 room_1 Calls_1 rest_1 Pre_1 Post := by
  intro l hfl _ _ p e ha hc hk s m args below hf hA hF happ hP
  obtain ⟨hcalls, hrest, hpre⟩ := hP
  obtain ⟨-, -, -, hnamed, -, -, -, hat⟩ := (Spec.applies_iff hf).mp happ
  obtain ⟨hg, hn⟩ := and_e (Cond.before_iff.mp (show (Jvm.Cond.and given_1 narrow_1).before args s = true from hpre))
  obtain ⟨hg1a, hg1b⟩ := and_e hg
  obtain ⟨hg2a, hg2b⟩ := and_e hg1b
  obtain ⟨w0, w1, rfl⟩ : ∃ w0 w1 : Value, args = #[w0, w1] := by
    have hs : args.size = 2 := by simpa [Cond.value, given_1] using hg1a
    obtain ⟨L⟩ := args
    match L, hs with
    | [w0, w1], _ => exact ⟨w0, w1, rfl⟩
  have hw := fun d (hd : d ∈ tables_1) => atoms_spec (ws := Jvm.Cond.code x code maxLocals ret :: tables_1) hat d (List.mem_cons_of_mem _ hd)
  have hfit : Fit s := fun {y c} hc i hi => by
    obtain ⟨ha, rfl⟩ := Array.getElem?_eq_some_iff.mp hc
    have q := List.all_eq_true.mp ((Array.all_eq_true_iff_forall_mem.mp hF) _ (Array.getElem_mem ha)) i (List.mem_range.mpr hi)
    simpa [Array.getElem?_eq_getElem hi] using q
  obtain ⟨i0, ei0⟩ := is_v hg2a
  obtain rfl : w0 = (.int i0) := Option.some.inj ei0
  obtain ⟨i1, ei1⟩ := is_v hg2b
  obtain rfl : w1 = (.int i1) := Option.some.inj ei1
  obtain ⟨hn1a, hn1b⟩ := and_e hn
  obtain ⟨hn2a, hn2b⟩ := and_e hn1b
  obtain ⟨hn3a, hn3b⟩ := and_e hn2b
  obtain ⟨hn4a, hn4b⟩ := and_e hn3b
  obtain ⟨hn5a, hn5b⟩ := and_e hn4b
  obtain ⟨hn6a, hn6b⟩ := and_e hn5b
  obtain ⟨hn7a, hn7b⟩ := and_e hn6b
  obtain ⟨hn8a, hn8b⟩ := and_e hn7b
  obtain ⟨w_CONTAINER, evw_CONTAINER⟩ := exa_v hn1a
  have E_CONTAINER := Exa.start evw_CONTAINER hn1a
  have S_CONTAINER := Sta.start evw_CONTAINER (Or.inr ⟨(hw _ (List.mem_of_getElem? (i := 6) rfl)), (hw _ (List.mem_of_getElem? (i := 7) rfl))⟩)
  obtain ⟨w_UNSTRUCTURED_DATA, evw_UNSTRUCTURED_DATA⟩ := exa_v hn2a
  have E_UNSTRUCTURED_DATA := Exa.start evw_UNSTRUCTURED_DATA hn2a
  have S_UNSTRUCTURED_DATA := Sta.start evw_UNSTRUCTURED_DATA (Or.inr ⟨(hw _ (List.mem_of_getElem? (i := 6) rfl)), (hw _ (List.mem_of_getElem? (i := 14) rfl))⟩)
  obtain ⟨w_DATA, evw_DATA⟩ := exa_v hn3a
  have E_DATA := Exa.start evw_DATA hn3a
  have S_DATA := Sta.start evw_DATA (Or.inr ⟨(hw _ (List.mem_of_getElem? (i := 6) rfl)), (hw _ (List.mem_of_getElem? (i := 16) rfl))⟩)
  have F_UNSTRUCTURED_DATA_ordinal := own_fldI evw_UNSTRUCTURED_DATA hn4a
  have F_DATA_ordinal := own_fldI evw_DATA hn5a
  have F_CONTAINER_ordinal := own_fldI evw_CONTAINER hn6a
  have F_CONTAINER_holdsBytes := own_fldI evw_CONTAINER hn7a
  have F_UNSTRUCTURED_DATA_holdsBytes := own_fldI evw_UNSTRUCTURED_DATA hn8a
  have F_DATA_holdsBytes := own_fldI evw_DATA hn8b
  have WD : World s s.heap w_CONTAINER w_UNSTRUCTURED_DATA w_DATA := ⟨S_CONTAINER, E_CONTAINER, S_UNSTRUCTURED_DATA, E_UNSTRUCTURED_DATA, S_DATA, E_DATA, F_UNSTRUCTURED_DATA_ordinal, F_DATA_ordinal, F_CONTAINER_ordinal, F_CONTAINER_holdsBytes, F_UNSTRUCTURED_DATA_holdsBytes, F_DATA_holdsBytes⟩
  obtain ⟨n, o, h1, h2, h3, _, L, rfl, ⟨rfl, N, -⟩, hq⟩ := rm0 l s _ hw tables_1 i0 i1 w_CONTAINER w_UNSTRUCTURED_DATA w_DATA s.heap s.heap.size (Nat.le_refl _) WD p e ha hc hk s m _ below hf ((Spec.applies_iff_loose hf).mp happ).1 ⟨rfl, State.Warmed39.refl s, rfl⟩ trivial
  refine ⟨n, _, h1, h2, h3, hpost _ _ _ _ _ _ ⟨Cond.after_iff.mpr rfl, Cond.after_iff.mpr (eq_i res_at (Term.int_eval (1)) rfl), trivial⟩ ⟨hq.1, hq.2.1, (hq.2.2.sift fun y hy => Or.inr (N y hy)).mono (by decide) (by decide)⟩⟩
theorem main_1_1 : Claimed_1_1 := comes_1 fun _ _ _ _ _ _ h hF => ⟨h.1, hF⟩
theorem main_1_2 : Claimed_1_2 := comes_1 fun _ _ _ _ _ _ h hF => ⟨h.2.1, hF⟩
end Jvm.Pilot.@@N@@
namespace Jvm.Pilot.@@N@@
open Jvm Jvm.ClassFile Sem Op Lib Jvm.Free Jvm.Stand Jvm.Pilot.@@N@@.Jvm.D
/-! MADE BY PROGRAM (witnessworld.py) out of the Statement's table words and the real class files: 12 classes; the members and pool entries that the words name. The judged class is class 1, her method 2. -/
namespace start1
open Jvm.ClassFile
def u (s : String) : CpInfo := .utf8 (stringToUtf16 s)
/-- a pool by its gaps: so many unusable entries, then the entry; so many at the end -/
def gap : Nat → List CpInfo → List CpInfo
  | 0, r => r
  | n + 1, r => .unusable :: gap n r
def poolList (es : List (Nat × CpInfo)) (last : Nat) : List CpInfo := es.foldr (fun e r => gap e.1 (e.2 :: r)) (gap last [])
def pool (es : List (Nat × CpInfo)) (last : Nat) : Array CpInfo := ⟨poolList es last⟩
def fileOf (pool : Array CpInfo) (this : Nat) (attrs : Array Attribute := #[]) (ms : Array MethodInfo := #[]) (fl : Nat := 33) (sup : Nat := 0) (ifs : Array Nat := #[]) (fds : Array FieldInfo := #[]) : ClassFile where
  minorVersion := 0
  majorVersion := 65
  constantPool := pool
  accessFlags := fl
  thisClass := this
  superClass := sup
  interfaces := ifs
  fields := fds
  methods := ms
  attributes := attrs
def plain (name : String) (sup : Option ClassId) : Class where
  name := name
  kind := .ordinary
  loader := none
  accessFlags := 33
  super := sup
  interfaces := #[]
  cf := none
  fields := #[]
  methods := #[]
  instanceTypes := #[]
  staticTypes := #[]
  resolved := #[]
  callSites := []
  init := .initialized
  statics := none
  mirror := none

def pool0 : Array CpInfo := pool [(5, u "<init>"), (0, u "()V"), (1, .class_ 10), (1, u "java/lang/Object")] 113

def k0m0 : Method := { name := "<init>", desc := "()V", sig := { parameters := [], returnType := none }, accessFlags := 1, code := none }
/-- java/lang/Object -/
def k0 : Class := { plain "java/lang/Object" none with
  accessFlags := 33
  interfaces := #[]
  cf := some (fileOf pool0 8 #[] #[{ accessFlags := 1, nameIndex := 5, descriptorIndex := 6, attributes := #[] }] 33 0 #[] #[])
  fields := #[]
  methods := #[k0m0]
  instanceTypes := #[]
  staticTypes := #[]
  resolved := Array.replicate 124 none
  statics := none }

def pool1 : Array CpInfo := pool [(2, .class_ 4), (1, u "java/lang/Object"), (0, u "<init>"), (0, u "()V"), (0, .fieldref 8 9), (0, .class_ 10), (0, .nameAndType 11 12), (0, u "com/example/flagstaff/flagstaff/node/NodeType"), (0, u "CONTAINER"), (0, u "Lcom/example/flagstaff/flagstaff/node/NodeType;"), (0, .fieldref 8 14), (0, .nameAndType 15 12), (0, u "DATA"), (0, .fieldref 8 17), (0, .nameAndType 18 12), (0, u "UNSTRUCTURED_DATA"), (0, .integer 2147483647), (0, .methodref 21 22), (0, .class_ 23), (0, .nameAndType 24 25), (0, u "com/example/flagstaff/flagstaff/node/NodeTypeIncludesPinLaw"), (0, u "pick"), (0, u "(I)Lcom/example/flagstaff/flagstaff/node/NodeType;"), (0, .methodref 8 27), (0, .nameAndType 28 29), (0, u "includes"), (0, u "(Lcom/example/flagstaff/flagstaff/node/NodeType;)Z"), (3, u "law"), (0, u "(II)Z")] 2

def k1m0 : Method := { name := "<init>", desc := "()V", sig := { parameters := [], returnType := none }, accessFlags := 2, code := none }
def k1c1 : Code := { maxStack := 2, maxLocals := 1, code := method_2_code, exceptionTable := #[], attributes := #[] }
def k1m1 : Method := { name := "pick", desc := "(I)Lcom/example/flagstaff/flagstaff/node/NodeType;", sig := { parameters := [.int], returnType := some (.object "com/example/flagstaff/flagstaff/node/NodeType") }, accessFlags := 10, code := some k1c1 }
def k1c2 : Code := { maxStack := 2, maxLocals := 6, code := code, exceptionTable := #[], attributes := #[] }
def k1m2 : Method := { name := "law", desc := "(II)Z", sig := { parameters := [.int, .int], returnType := some .boolean }, accessFlags := 9, code := some k1c2 }
/-- com/example/flagstaff/flagstaff/node/NodeTypeIncludesPinLaw -/
def k1 : Class := { plain "com/example/flagstaff/flagstaff/node/NodeTypeIncludesPinLaw" (some 0) with
  accessFlags := 49
  interfaces := #[]
  cf := some (fileOf pool1 21 #[] #[{ accessFlags := 2, nameIndex := 5, descriptorIndex := 6, attributes := #[] }, { accessFlags := 10, nameIndex := 24, descriptorIndex := 25, attributes := #[] }, { accessFlags := 9, nameIndex := 33, descriptorIndex := 34, attributes := #[] }] 49 2 #[] #[])
  fields := #[]
  methods := #[k1m0, k1m1, k1m2]
  instanceTypes := #[]
  staticTypes := #[]
  resolved := Array.replicate 37 none
  statics := none }

def pool2 : Array CpInfo := pool [(1, .class_ 2), (0, u "java/lang/constant/Constable"), (0, .class_ 4), (0, u "java/lang/Object")] 6

/-- java/lang/constant/Constable -/
def k2 : Class := { plain "java/lang/constant/Constable" (some 0) with
  accessFlags := 1537
  interfaces := #[]
  cf := some (fileOf pool2 1 #[] #[] 1537 3 #[] #[])
  fields := #[]
  methods := #[]
  instanceTypes := #[]
  staticTypes := #[]
  resolved := Array.replicate 11 none
  statics := none }

def pool3 : Array CpInfo := pool [(1, .class_ 2), (0, u "java/lang/Comparable"), (0, .class_ 4), (0, u "java/lang/Object")] 7

/-- java/lang/Comparable -/
def k3 : Class := { plain "java/lang/Comparable" (some 0) with
  accessFlags := 1537
  interfaces := #[]
  cf := some (fileOf pool3 1 #[] #[] 1537 3 #[] #[])
  fields := #[]
  methods := #[]
  instanceTypes := #[]
  staticTypes := #[]
  resolved := Array.replicate 12 none
  statics := none }

def pool4 : Array CpInfo := pool [(1, .class_ 2), (0, u "java/io/Serializable"), (0, .class_ 4), (0, u "java/lang/Object")] 2

/-- java/io/Serializable -/
def k4 : Class := { plain "java/io/Serializable" (some 0) with
  accessFlags := 1537
  interfaces := #[]
  cf := some (fileOf pool4 1 #[] #[] 1537 3 #[] #[])
  fields := #[]
  methods := #[]
  instanceTypes := #[]
  staticTypes := #[]
  resolved := Array.replicate 7 none
  statics := none }

def pool5 : Array CpInfo := pool [(2, .class_ 4), (1, u "java/lang/Enum"), (0, u "name"), (0, u "Ljava/lang/String;"), (2, u "ordinal"), (0, u "I"), (1, .class_ 14), (1, u "java/lang/Object"), (4, u "hash"), (86, .class_ 108), (1, u "java/lang/Enum$EnumDesc"), (2, .class_ 112), (0, u "java/lang/constant/Constable"), (0, .class_ 114), (0, u "java/lang/Comparable"), (0, .class_ 116), (0, u "java/io/Serializable")] 87

/-- java/lang/Enum -/
def k5 : Class := { plain "java/lang/Enum" (some 0) with
  accessFlags := 1057
  interfaces := #[2, 3, 4]
  cf := some (fileOf pool5 2 #[.nestMembers #[106]] #[] 1057 12 #[111, 113, 115] #[{ accessFlags := 18, nameIndex := 5, descriptorIndex := 6, attributes := #[] }, { accessFlags := 18, nameIndex := 9, descriptorIndex := 10, attributes := #[] }, { accessFlags := 2, nameIndex := 19, descriptorIndex := 10, attributes := #[] }])
  fields := #[{ name := "name", type := (.object "java/lang/String"), accessFlags := 18, slot := 0, constantValue := 0 }, { name := "ordinal", type := .int, accessFlags := 18, slot := 1, constantValue := 0 }, { name := "hash", type := .int, accessFlags := 2, slot := 2, constantValue := 0 }]
  methods := #[]
  instanceTypes := #[(.object "java/lang/String"), .int, .int]
  staticTypes := #[]
  resolved := Array.replicate 204 none
  statics := none }

def pool6 : Array CpInfo := pool [(1, .class_ 2), (0, u "com/example/flagstaff/flagstaff/node/NodeType"), (2, u "CONTAINER"), (0, u "Lcom/example/flagstaff/flagstaff/node/NodeType;"), (0, .fieldref 1 8), (0, .nameAndType 9 6), (0, u "DATA"), (2, u "UNSTRUCTURED_DATA"), (2, u "$VALUES"), (0, u "[Lcom/example/flagstaff/flagstaff/node/NodeType;"), (6, .class_ 25), (1, u "java/lang/Enum"), (8, u "typeName"), (0, u "Ljava/lang/String;"), (0, .fieldref 1 37), (0, .nameAndType 38 39), (0, u "holdsBytes"), (0, u "Z"), (2, u "accepts"), (0, u "Ljava/util/List;"), (2, u "provides"), (104, u "includes"), (0, u "(Lcom/example/flagstaff/flagstaff/node/NodeType;)Z")] 20

def k6c0 : Code := { maxStack := 2, maxLocals := 2, code := prog_39_method_8_code, exceptionTable := #[], attributes := #[] }
def k6m0 : Method := { name := "includes", desc := "(Lcom/example/flagstaff/flagstaff/node/NodeType;)Z", sig := { parameters := [(.object "com/example/flagstaff/flagstaff/node/NodeType")], returnType := some .boolean }, accessFlags := 1, code := some k6c0 }
/-- com/example/flagstaff/flagstaff/node/NodeType -/
def k6 : Class := { plain "com/example/flagstaff/flagstaff/node/NodeType" (some 5) with
  accessFlags := 16433
  interfaces := #[]
  cf := some (fileOf pool6 1 #[] #[{ accessFlags := 1, nameIndex := 151, descriptorIndex := 152, attributes := #[] }] 16433 23 #[] #[{ accessFlags := 16409, nameIndex := 5, descriptorIndex := 6, attributes := #[] }, { accessFlags := 16409, nameIndex := 9, descriptorIndex := 6, attributes := #[] }, { accessFlags := 16409, nameIndex := 12, descriptorIndex := 6, attributes := #[] }, { accessFlags := 18, nameIndex := 34, descriptorIndex := 35, attributes := #[] }, { accessFlags := 18, nameIndex := 38, descriptorIndex := 39, attributes := #[] }, { accessFlags := 18, nameIndex := 42, descriptorIndex := 43, attributes := #[] }, { accessFlags := 18, nameIndex := 46, descriptorIndex := 43, attributes := #[] }, { accessFlags := 4122, nameIndex := 15, descriptorIndex := 16, attributes := #[] }])
  fields := #[{ name := "CONTAINER", type := (.object "com/example/flagstaff/flagstaff/node/NodeType"), accessFlags := 16409, slot := 0, constantValue := 0 }, { name := "DATA", type := (.object "com/example/flagstaff/flagstaff/node/NodeType"), accessFlags := 16409, slot := 1, constantValue := 0 }, { name := "UNSTRUCTURED_DATA", type := (.object "com/example/flagstaff/flagstaff/node/NodeType"), accessFlags := 16409, slot := 2, constantValue := 0 }, { name := "typeName", type := (.object "java/lang/String"), accessFlags := 18, slot := 3, constantValue := 0 }, { name := "holdsBytes", type := .boolean, accessFlags := 18, slot := 4, constantValue := 0 }, { name := "accepts", type := (.object "java/util/List"), accessFlags := 18, slot := 5, constantValue := 0 }, { name := "provides", type := (.object "java/util/List"), accessFlags := 18, slot := 6, constantValue := 0 }, { name := "$VALUES", type := (.array (.object "com/example/flagstaff/flagstaff/node/NodeType")), accessFlags := 4122, slot := 3, constantValue := 0 }]
  methods := #[k6m0]
  instanceTypes := #[(.object "java/lang/String"), .int, .int, (.object "java/lang/String"), .boolean, (.object "java/util/List"), (.object "java/util/List")]
  staticTypes := #[(.object "com/example/flagstaff/flagstaff/node/NodeType"), (.object "com/example/flagstaff/flagstaff/node/NodeType"), (.object "com/example/flagstaff/flagstaff/node/NodeType"), (.array (.object "com/example/flagstaff/flagstaff/node/NodeType"))]
  resolved := Array.replicate 173 none
  statics := some 0 }

def pool7 : Array CpInfo := pool [(1, u "java/lang/Cloneable"), (0, .class_ 1), (0, u "java/lang/Object"), (0, .class_ 3)] 3

/-- java/lang/Cloneable -/
def k7 : Class := { plain "java/lang/Cloneable" (some 0) with
  accessFlags := 1537
  interfaces := #[]
  cf := some (fileOf pool7 2 #[] #[] 1537 4 #[] #[])
  fields := #[]
  methods := #[]
  instanceTypes := #[]
  staticTypes := #[]
  resolved := Array.replicate 8 none
  statics := none }

/-- the primitive byte -/
def k8 : Class := { plain "byte" none with kind := .primitive 'B', accessFlags := 0x411 }
/-- [B -/
def k9 : Class := { plain "[B" (some 0) with kind := .array 8 .byte, interfaces := #[7, 4], accessFlags := 1041 }

/-- the primitive int -/
def k10 : Class := { plain "int" none with kind := .primitive 'I', accessFlags := 0x411 }
/-- [I -/
def k11 : Class := { plain "[I" (some 0) with kind := .array 10 .int, interfaces := #[7, 4], accessFlags := 1041 }

def heap : Heap := #[{ cls := 6, slots := #[.ref 1, .ref 3, .ref 2, .null], vm := .statics 6 },
  { cls := 6, slots := #[.null, .int 0, .int 0, .null, .int 0, .null, .null], vm := .none },
  { cls := 6, slots := #[.null, .int 2, .int 0, .null, .int 1, .null, .null], vm := .none },
  { cls := 6, slots := #[.null, .int 1, .int 0, .null, .int 1, .null, .null], vm := .none }]
def classes : Array Class := #[k0, k1, k2, k3, k4, k5, k6, k7, k8, k9, k10, k11]
def interned : List (Array UInt16 × Addr) := []
def slotsUsed : Nat := 25
def theMethod : MethodId := ⟨1, 2⟩
def args0 : Array Value := #[.int 5, .int 7]
def aboutOver (below : List Frame) : State where
  vm := { classes := classes, interned := interned.toArray }
  heap := heap
  slotsUsed := slotsUsed
  threads := #[{ frames := .invoking theMethod args0 :: below }]
def below0 : List Frame := [.native { method := ⟨0, 0⟩, args := #[] }]
def about1 : State := aboutOver below0
def p0 : Program := .bare "" "" ""
def e0 : Env := launch0.env 0 0 0
theorem w_frames : about1.frames = Frame.invoking theMethod args0 :: below0 := rfl
set_option maxRecDepth 65536 in
theorem w_args : argsFit about1.vm theMethod args0 = true := by decide +kernel
set_option maxRecDepth 65536 in
theorem w_heap : heapFits about1 = true := by decide +kernel
set_option maxRecDepth 65536 in
theorem w_runnable : about1.curStatus? = some .runnable := by decide +kernel
set_option maxRecDepth 65536 in
theorem w_alone : about1.alone = true := by decide +kernel
set_option maxRecDepth 65536 in
theorem w_named : about1.methodNamed? x = some theMethod := by decide +kernel
set_option maxRecDepth 65536 in
theorem w_hears : about1.hears theMethod below0 = true := by decide +kernel
set_option maxRecDepth 65536 in
theorem w_ripe : about1.ripe theMethod args0 below0 = true := by decide +kernel
theorem w_running : about1.status = .running := rfl
set_option maxRecDepth 65536 in
theorem w_room : about1.hasRoom e0.platform room_1 = true :=
  launch0.hasRoom_least _ room_1 (by decide +kernel) (by decide +kernel) (by decide +kernel) (by decide +kernel) (by decide +kernel) (by decide +kernel)
theorem allAtoms_all (ts : List Jvm.Cond) (a : Array Jvm.Value) (st : Jvm.State) : (allAtoms ts).before a st = ts.all (fun c => c.before a st) := by
  induction ts with
  | nil => rfl
  | cons c t ih =>
    show (Jvm.Cond.and c (allAtoms t)).before a st = _
    rw [Jvm.Cond.before_and, ih, List.all_cons]
def words1 : List Jvm.Cond := Jvm.Cond.code x code maxLocals ret :: tables_1
/-- a 'code' word, met by the world's own term for the bytes: nothing is compared byte by byte -/
theorem code_word {y : MethodName} {bytes : ByteArray} {mx : Nat} {rt : Option FieldType} {a : Array Value} {s : State} {m : MethodId} {meth : Method} {c : Code} (h1 : s.methodNamed? y = some m) (h2 : s.vm.method? m = some meth) (h3 : meth.code = some c) (h4 : c.code = bytes)
    (h5 : (c.maxLocals == mx && c.exceptionTable.isEmpty && decide (c.maxStack ≤ mostOperands) && decide (meth.sig.returnType = rt) && !meth.locks && decide (parseMethodDescriptor y.desc = some meth.sig)) = true) : (Jvm.Cond.code y bytes mx rt).before a s = true := by
  simp only [Bool.and_eq_true, beq_iff_eq, Bool.not_eq_true', decide_eq_true_eq] at h5
  obtain ⟨⟨⟨⟨⟨g1, g2⟩, g3⟩, g4⟩, g5⟩, g6⟩ := h5
  simp [Cond.before, Cond.holds, Cond.value, h1, h2, h3, h4, g1, g2, g3, g4, g5, g6]
def isCode : Jvm.Cond → Bool
  | .code _ _ _ _ => true
  | _ => false
theorem all_split {L : List Jvm.Cond} {P : Jvm.Cond → Bool} (h1 : L.all (fun c => isCode c || P c) = true) (h2 : ∀ c ∈ L.filter isCode, P c = true) : L.all P = true := by
  refine List.all_eq_true.mpr fun c hc => ?_
  have h := List.all_eq_true.mp h1 c hc
  rcases Bool.eq_false_or_eq_true (isCode c) with hi | hi
  · exact h2 c (List.mem_filter.mpr ⟨hc, hi⟩)
  · simpa [hi] using h
set_option maxRecDepth 65536 in
theorem w_c0 : (Jvm.Cond.code x code maxLocals ret).before args0 about1 = true := code_word (m := ⟨1, 2⟩) (meth := k1m2) (c := k1c2) (by decide +kernel) rfl rfl rfl (by decide +kernel)
set_option maxRecDepth 65536 in
theorem w_c1 : (Jvm.Cond.code ({ cls := "com/example/flagstaff/flagstaff/node/NodeTypeIncludesPinLaw", name := "pick", desc := "(I)Lcom/example/flagstaff/flagstaff/node/NodeType;" } : Jvm.MethodName) method_2_code (1 : Nat) (Option.some (Jvm.ClassFile.FieldType.object "com/example/flagstaff/flagstaff/node/NodeType"))).before args0 about1 = true := code_word (m := ⟨1, 1⟩) (meth := k1m1) (c := k1c1) (by decide +kernel) rfl rfl rfl (by decide +kernel)
set_option maxRecDepth 65536 in
theorem w_c2 : (Jvm.Cond.code ({ cls := "com/example/flagstaff/flagstaff/node/NodeType", name := "includes", desc := "(Lcom/example/flagstaff/flagstaff/node/NodeType;)Z" } : Jvm.MethodName) prog_39_method_8_code (2 : Nat) (Option.some Jvm.ClassFile.FieldType.boolean)).before args0 about1 = true := code_word (m := ⟨6, 0⟩) (meth := k6m0) (c := k6c0) (by decide +kernel) rfl rfl rfl (by decide +kernel)
def codes1 : List Jvm.Cond := [Jvm.Cond.code x code maxLocals ret, Jvm.Cond.code ({ cls := "com/example/flagstaff/flagstaff/node/NodeTypeIncludesPinLaw", name := "pick", desc := "(I)Lcom/example/flagstaff/flagstaff/node/NodeType;" } : Jvm.MethodName) method_2_code (1 : Nat) (Option.some (Jvm.ClassFile.FieldType.object "com/example/flagstaff/flagstaff/node/NodeType")), Jvm.Cond.code ({ cls := "com/example/flagstaff/flagstaff/node/NodeType", name := "includes", desc := "(Lcom/example/flagstaff/flagstaff/node/NodeType;)Z" } : Jvm.MethodName) prog_39_method_8_code (2 : Nat) (Option.some Jvm.ClassFile.FieldType.boolean)]
set_option maxRecDepth 65536 in
theorem codes_eq : words1.filter isCode = codes1 := rfl
theorem w_codes : ∀ c ∈ words1.filter isCode, c.before args0 about1 = true := by
  rw [codes_eq]
  intro c hc
  simp only [codes1, List.mem_cons, List.not_mem_nil, or_false] at hc
  rcases hc with rfl | rfl | rfl
  · exact w_c0
  · exact w_c1
  · exact w_c2
set_option maxRecDepth 65536 in
theorem w_t1 : words1.all (fun c => isCode c || c.before args0 about1) = true := by decide +kernel
theorem w_tables : (allAtoms (Jvm.Cond.code x code maxLocals ret :: tables_1)).before args0 about1 = true := by
  rw [allAtoms_all]
  show words1.all (fun c => c.before args0 about1) = true
  refine all_split ?_ w_codes
  rw [w_t1]
set_option maxRecDepth 65536 in
theorem w_case : (Jvm.Cond.and given_1 narrow_1).before args0 about1 = true := by decide +kernel
theorem w_applies : (headSpec (Jvm.Cond.code x code maxLocals ret :: tables_1) room_1).applies x e0.platform about1 = true :=
  (Spec.applies_iff w_frames).mpr ⟨w_running, w_runnable, w_alone, w_named, w_hears, w_ripe, w_room, w_tables⟩
theorem atStart : AtStart classFile x code maxLocals ret World_1 tables_1 room_1 Calls_1 rest_1 Pre_1 launch0 p0 e0 about1 theMethod args0 below0 :=
  ⟨lists_1, trivial, launch0.admits_env _ _ _, launch0.least_env, fairChoices_fair.cas, fairChoices_fair.clock, w_frames, w_args, w_heap, w_applies, trivial, trivial, w_case⟩
end start1
theorem witness_1 : WitnessClaimed_1 := ⟨start1.p0, start1.e0, start1.about1, start1.theMethod, start1.args0, start1.below0, start1.atStart⟩
end Jvm.Pilot.@@N@@
