import JvmDerived
import JvmDerived.Pilot.@@N@@Statement
import JvmDerived.Pilot.@@N@@Code
set_option linter.unusedVariables false
set_option linter.unusedSimpArgs false
namespace Jvm.Pilot.@@N@@
open Jvm Jvm.ClassFile Sem Op Lib Jvm.Free Jvm.Stand Jvm.LawKit Jvm.RoadKit Bundle Jvm.Pilot.@@N@@.Jvm.D
theorem own_fldI {t : Term} {C n d : String} {args : Array Value} {s : State} {a : Addr} {z : Int32} (ev : t.eval args s none [] s = some (.ref a)) (h : (Jvm.Cond.eq (Term.field t C n d) (Term.int z)).value args s none s [] = some true) : Fld s s.heap a C n d (.int z) := by
  obtain ⟨x, y, hx, hy, k1, k2⟩ := cmp_v (Or.inl h)
  cases (Term.int_eval z).symm.trans hy
  obtain ⟨q, rfl⟩ := k2
  have hq : q = z := by
    have h' := h
    simp only [Cond.value, hx, Term.int_eval] at h'
    simpa using h'
  subst hq
  exact Fld.start ((fld_at ev).symm.trans hx)
theorem own_fldR {t u : Term} {C n d : String} {args : Array Value} {s : State} {a b : Addr} (ev : t.eval args s none [] s = some (.ref a)) (eu : u.eval args s none [] s = some (.ref b)) (h : (Jvm.Cond.eq (Term.field t C n d) u).value args s none s [] = some true) : Fld s s.heap a C n d (.ref b) := by
  obtain ⟨x, y, hx, hy, k1, k2⟩ := cmp_v (Or.inl h)
  cases eu.symm.trans hy
  have hxr : x.isRef = true := k2.2
  have hq : x = .ref b := gotT (eq_R hx eu hxr rfl) h
  subst hq
  exact Fld.start ((fld_at ev).symm.trans hx)
theorem own_fldN {t : Term} {C n d : String} {args : Array Value} {s : State} {a : Addr} (ev : t.eval args s none [] s = some (.ref a)) (h : (Jvm.Cond.eq (Term.field t C n d) .null).value args s none s [] = some true) : Fld s s.heap a C n d .null :=
  Fld.start ((fld_at ev).symm.trans (null_v h))
theorem own_inj {Z : State} {h : Heap} {a : Addr} {C n d : String} {v w : Value} (F : Fld Z h a C n d v) (G : Fld Z h a C n d w) : v = w := by
  obtain ⟨c1, cf, k, i, f, h1, h2, -, -, -, -, h7⟩ := F
  obtain ⟨c2, cf', k', i', f', g1, g2, -, -, -, -, g7⟩ := G
  cases h1.symm.trans g1
  cases h2.symm.trans g2
  exact Option.some.inj (h7.symm.trans g7)
theorem own_ne {Z : State} {h : Heap} {a b : Addr} {C n d : String} {x y : Int32} (F : Fld Z h a C n d (.int x)) (G : Fld Z h b C n d (.int y)) (hn : x ≠ y) : ¬ (a = b) := fun e => by
  subst e
  exact hn (Value.int.inj (own_inj F G))
def World (Z : State) (h : Heap) (w_SHARED w_READ w_Action_READ w_COMMIT w_Action_COMMIT w_ABORT w_Action_ABORT w_WRITE w_Action_WRITE w_UNLOCK w_EXCLUSIVE : Addr) : Prop := Sta Z h "com/example/serigraph/serigraph/history/Schedule$Action" "SHARED" "Lcom/example/serigraph/serigraph/history/Schedule$Action;" (.ref w_SHARED) ∧ Exa Z h w_SHARED "com/example/serigraph/serigraph/history/Schedule$Action" ∧ Fld Z h w_SHARED "com/example/serigraph/serigraph/history/Schedule$Action" "operation" "Lcom/example/serigraph/serigraph/history/Operation$Action;" .null ∧ Sta Z h "com/example/serigraph/serigraph/history/Schedule$Action" "READ" "Lcom/example/serigraph/serigraph/history/Schedule$Action;" (.ref w_READ) ∧ Exa Z h w_READ "com/example/serigraph/serigraph/history/Schedule$Action" ∧ Sta Z h "com/example/serigraph/serigraph/history/Operation$Action" "READ" "Lcom/example/serigraph/serigraph/history/Operation$Action;" (.ref w_Action_READ) ∧ Exa Z h w_Action_READ "com/example/serigraph/serigraph/history/Operation$Action" ∧ Fld Z h w_READ "com/example/serigraph/serigraph/history/Schedule$Action" "operation" "Lcom/example/serigraph/serigraph/history/Operation$Action;" (.ref w_Action_READ) ∧ Sta Z h "com/example/serigraph/serigraph/history/Schedule$Action" "COMMIT" "Lcom/example/serigraph/serigraph/history/Schedule$Action;" (.ref w_COMMIT) ∧ Exa Z h w_COMMIT "com/example/serigraph/serigraph/history/Schedule$Action" ∧ Sta Z h "com/example/serigraph/serigraph/history/Operation$Action" "COMMIT" "Lcom/example/serigraph/serigraph/history/Operation$Action;" (.ref w_Action_COMMIT) ∧ Exa Z h w_Action_COMMIT "com/example/serigraph/serigraph/history/Operation$Action" ∧ Fld Z h w_COMMIT "com/example/serigraph/serigraph/history/Schedule$Action" "operation" "Lcom/example/serigraph/serigraph/history/Operation$Action;" (.ref w_Action_COMMIT) ∧ Sta Z h "com/example/serigraph/serigraph/history/Schedule$Action" "ABORT" "Lcom/example/serigraph/serigraph/history/Schedule$Action;" (.ref w_ABORT) ∧ Exa Z h w_ABORT "com/example/serigraph/serigraph/history/Schedule$Action" ∧ Sta Z h "com/example/serigraph/serigraph/history/Operation$Action" "ABORT" "Lcom/example/serigraph/serigraph/history/Operation$Action;" (.ref w_Action_ABORT) ∧ Exa Z h w_Action_ABORT "com/example/serigraph/serigraph/history/Operation$Action" ∧ Fld Z h w_ABORT "com/example/serigraph/serigraph/history/Schedule$Action" "operation" "Lcom/example/serigraph/serigraph/history/Operation$Action;" (.ref w_Action_ABORT) ∧ Sta Z h "com/example/serigraph/serigraph/history/Schedule$Action" "WRITE" "Lcom/example/serigraph/serigraph/history/Schedule$Action;" (.ref w_WRITE) ∧ Exa Z h w_WRITE "com/example/serigraph/serigraph/history/Schedule$Action" ∧ Sta Z h "com/example/serigraph/serigraph/history/Operation$Action" "WRITE" "Lcom/example/serigraph/serigraph/history/Operation$Action;" (.ref w_Action_WRITE) ∧ Exa Z h w_Action_WRITE "com/example/serigraph/serigraph/history/Operation$Action" ∧ Fld Z h w_WRITE "com/example/serigraph/serigraph/history/Schedule$Action" "operation" "Lcom/example/serigraph/serigraph/history/Operation$Action;" (.ref w_Action_WRITE) ∧ Sta Z h "com/example/serigraph/serigraph/history/Schedule$Action" "UNLOCK" "Lcom/example/serigraph/serigraph/history/Schedule$Action;" (.ref w_UNLOCK) ∧ Exa Z h w_UNLOCK "com/example/serigraph/serigraph/history/Schedule$Action" ∧ Fld Z h w_UNLOCK "com/example/serigraph/serigraph/history/Schedule$Action" "operation" "Lcom/example/serigraph/serigraph/history/Operation$Action;" .null ∧ Sta Z h "com/example/serigraph/serigraph/history/Schedule$Action" "EXCLUSIVE" "Lcom/example/serigraph/serigraph/history/Schedule$Action;" (.ref w_EXCLUSIVE) ∧ Exa Z h w_EXCLUSIVE "com/example/serigraph/serigraph/history/Schedule$Action" ∧ Fld Z h w_EXCLUSIVE "com/example/serigraph/serigraph/history/Schedule$Action" "operation" "Lcom/example/serigraph/serigraph/history/Operation$Action;" .null
def own_pick (k : Int32) (w_SHARED w_READ w_Action_READ w_COMMIT w_Action_COMMIT w_ABORT w_Action_ABORT w_WRITE w_Action_WRITE w_UNLOCK w_EXCLUSIVE : Addr) : Addr := if k = (0 : Int32) then w_SHARED else if k = (1 : Int32) then w_EXCLUSIVE else if k = (2 : Int32) then w_UNLOCK else if k = (3 : Int32) then w_READ else if k = (4 : Int32) then w_WRITE else if k = (5 : Int32) then w_COMMIT else w_ABORT
def own_op (k : Int32) (w_SHARED w_READ w_Action_READ w_COMMIT w_Action_COMMIT w_ABORT w_Action_ABORT w_WRITE w_Action_WRITE w_UNLOCK w_EXCLUSIVE : Addr) : Addr := if k = (3 : Int32) then w_Action_READ else if k = (4 : Int32) then w_Action_WRITE else if k = (5 : Int32) then w_Action_COMMIT else w_Action_ABORT
theorem own_exa {Z : State} {h : Heap} {w_SHARED w_READ w_Action_READ w_COMMIT w_Action_COMMIT w_ABORT w_Action_ABORT w_WRITE w_Action_WRITE w_UNLOCK w_EXCLUSIVE : Addr} (WD : World Z h w_SHARED w_READ w_Action_READ w_COMMIT w_Action_COMMIT w_ABORT w_Action_ABORT w_WRITE w_Action_WRITE w_UNLOCK w_EXCLUSIVE) (k : Int32) : Exa Z h (own_pick k w_SHARED w_READ w_Action_READ w_COMMIT w_Action_COMMIT w_ABORT w_Action_ABORT w_WRITE w_Action_WRITE w_UNLOCK w_EXCLUSIVE) "com/example/serigraph/serigraph/history/Schedule$Action" := by
  obtain ⟨S_SHARED, E_SHARED, F_SHARED_operation, S_READ, E_READ, S_Action_READ, E_Action_READ, F_READ_operation, S_COMMIT, E_COMMIT, S_Action_COMMIT, E_Action_COMMIT, F_COMMIT_operation, S_ABORT, E_ABORT, S_Action_ABORT, E_Action_ABORT, F_ABORT_operation, S_WRITE, E_WRITE, S_Action_WRITE, E_Action_WRITE, F_WRITE_operation, S_UNLOCK, E_UNLOCK, F_UNLOCK_operation, S_EXCLUSIVE, E_EXCLUSIVE, F_EXCLUSIVE_operation⟩ := WD
  unfold own_pick
  repeat (split; · assumption)
  assumption
theorem own_FN {Z : State} {h : Heap} {w_SHARED w_READ w_Action_READ w_COMMIT w_Action_COMMIT w_ABORT w_Action_ABORT w_WRITE w_Action_WRITE w_UNLOCK w_EXCLUSIVE : Addr} (WD : World Z h w_SHARED w_READ w_Action_READ w_COMMIT w_Action_COMMIT w_ABORT w_Action_ABORT w_WRITE w_Action_WRITE w_UNLOCK w_EXCLUSIVE) (k : Int32) (hk : k = 0 ∨ k = 1 ∨ k = 2) : Fld Z h (own_pick k w_SHARED w_READ w_Action_READ w_COMMIT w_Action_COMMIT w_ABORT w_Action_ABORT w_WRITE w_Action_WRITE w_UNLOCK w_EXCLUSIVE) "com/example/serigraph/serigraph/history/Schedule$Action" "operation" "Lcom/example/serigraph/serigraph/history/Operation$Action;" .null := by
  obtain ⟨S_SHARED, E_SHARED, F_SHARED_operation, S_READ, E_READ, S_Action_READ, E_Action_READ, F_READ_operation, S_COMMIT, E_COMMIT, S_Action_COMMIT, E_Action_COMMIT, F_COMMIT_operation, S_ABORT, E_ABORT, S_Action_ABORT, E_Action_ABORT, F_ABORT_operation, S_WRITE, E_WRITE, S_Action_WRITE, E_Action_WRITE, F_WRITE_operation, S_UNLOCK, E_UNLOCK, F_UNLOCK_operation, S_EXCLUSIVE, E_EXCLUSIVE, F_EXCLUSIVE_operation⟩ := WD
  rcases hk with rfl | rfl | rfl <;> simp [own_pick] <;> assumption
theorem own_FR {Z : State} {h : Heap} {w_SHARED w_READ w_Action_READ w_COMMIT w_Action_COMMIT w_ABORT w_Action_ABORT w_WRITE w_Action_WRITE w_UNLOCK w_EXCLUSIVE : Addr} (WD : World Z h w_SHARED w_READ w_Action_READ w_COMMIT w_Action_COMMIT w_ABORT w_Action_ABORT w_WRITE w_Action_WRITE w_UNLOCK w_EXCLUSIVE) (k : Int32) (k0 : ¬ k = 0) (k1 : ¬ k = 1) (k2 : ¬ k = 2) : Fld Z h (own_pick k w_SHARED w_READ w_Action_READ w_COMMIT w_Action_COMMIT w_ABORT w_Action_ABORT w_WRITE w_Action_WRITE w_UNLOCK w_EXCLUSIVE) "com/example/serigraph/serigraph/history/Schedule$Action" "operation" "Lcom/example/serigraph/serigraph/history/Operation$Action;" (.ref (own_op k w_SHARED w_READ w_Action_READ w_COMMIT w_Action_COMMIT w_ABORT w_Action_ABORT w_WRITE w_Action_WRITE w_UNLOCK w_EXCLUSIVE)) := by
  obtain ⟨S_SHARED, E_SHARED, F_SHARED_operation, S_READ, E_READ, S_Action_READ, E_Action_READ, F_READ_operation, S_COMMIT, E_COMMIT, S_Action_COMMIT, E_Action_COMMIT, F_COMMIT_operation, S_ABORT, E_ABORT, S_Action_ABORT, E_Action_ABORT, F_ABORT_operation, S_WRITE, E_WRITE, S_Action_WRITE, E_Action_WRITE, F_WRITE_operation, S_UNLOCK, E_UNLOCK, F_UNLOCK_operation, S_EXCLUSIVE, E_EXCLUSIVE, F_EXCLUSIVE_operation⟩ := WD
  unfold own_pick own_op
  rw [if_neg k0, if_neg k1, if_neg k2]
  repeat (split; · assumption)
  assumption
theorem d1_0 : decode method_2_code 0 = .ok (.iload_n 0, 1) := by decide +kernel
theorem d1_1 : decode method_2_code 1 = .ok (.ifCond .ne 7, 3) := by decide +kernel
theorem d1_4 : decode method_2_code 4 = .ok (.getstatic 7, 3) := by decide +kernel
theorem d1_7 : decode method_2_code 7 = .ok (.areturn, 1) := by decide +kernel
theorem d1_8 : decode method_2_code 8 = .ok (.iload_n 0, 1) := by decide +kernel
theorem d1_9 : decode method_2_code 9 = .ok (.iconst 1, 1) := by decide +kernel
theorem d1_10 : decode method_2_code 10 = .ok (.if_icmp .ne 7, 3) := by decide +kernel
theorem d1_13 : decode method_2_code 13 = .ok (.getstatic 13, 3) := by decide +kernel
theorem d1_16 : decode method_2_code 16 = .ok (.areturn, 1) := by decide +kernel
theorem d1_17 : decode method_2_code 17 = .ok (.iload_n 0, 1) := by decide +kernel
theorem d1_18 : decode method_2_code 18 = .ok (.iconst 2, 1) := by decide +kernel
theorem d1_19 : decode method_2_code 19 = .ok (.if_icmp .ne 7, 3) := by decide +kernel
theorem d1_22 : decode method_2_code 22 = .ok (.getstatic 16, 3) := by decide +kernel
theorem d1_25 : decode method_2_code 25 = .ok (.areturn, 1) := by decide +kernel
theorem d1_26 : decode method_2_code 26 = .ok (.iload_n 0, 1) := by decide +kernel
theorem d1_27 : decode method_2_code 27 = .ok (.iconst 3, 1) := by decide +kernel
theorem d1_28 : decode method_2_code 28 = .ok (.if_icmp .ne 7, 3) := by decide +kernel
theorem d1_31 : decode method_2_code 31 = .ok (.getstatic 19, 3) := by decide +kernel
theorem d1_34 : decode method_2_code 34 = .ok (.areturn, 1) := by decide +kernel
theorem d1_35 : decode method_2_code 35 = .ok (.iload_n 0, 1) := by decide +kernel
theorem d1_36 : decode method_2_code 36 = .ok (.iconst 4, 1) := by decide +kernel
theorem d1_37 : decode method_2_code 37 = .ok (.if_icmp .ne 7, 3) := by decide +kernel
theorem d1_40 : decode method_2_code 40 = .ok (.getstatic 22, 3) := by decide +kernel
theorem d1_43 : decode method_2_code 43 = .ok (.areturn, 1) := by decide +kernel
theorem d1_44 : decode method_2_code 44 = .ok (.iload_n 0, 1) := by decide +kernel
theorem d1_45 : decode method_2_code 45 = .ok (.iconst 5, 1) := by decide +kernel
theorem d1_46 : decode method_2_code 46 = .ok (.if_icmp .ne 7, 3) := by decide +kernel
theorem d1_49 : decode method_2_code 49 = .ok (.getstatic 25, 3) := by decide +kernel
theorem d1_52 : decode method_2_code 52 = .ok (.areturn, 1) := by decide +kernel
theorem d1_53 : decode method_2_code 53 = .ok (.getstatic 28, 3) := by decide +kernel
theorem d1_56 : decode method_2_code 56 = .ok (.areturn, 1) := by decide +kernel
theorem pn_0 : plainName "com/example/serigraph/serigraph/history/ActionIsLockStepPinLaw" = true := by first | (simp [plainName, overriddenIn]; done) | decide +kernel
theorem ef_rm1 (m : MethodId) (x0 : Int32) : entryFrame m #[(.int x0)] 1 = mkF m 0 #[.val (.int x0)] [] := by first | (simp [entryFrame, mkF, argsToLocals, Value.category]; done) | rfl
def Q_rm1 (Z : State) (p1 : Int32) (w_SHARED : Addr) (w_READ : Addr) (w_Action_READ : Addr) (w_COMMIT : Addr) (w_Action_COMMIT : Addr) (w_ABORT : Addr) (w_Action_ABORT : Addr) (w_WRITE : Addr) (w_Action_WRITE : Addr) (w_UNLOCK : Addr) (w_EXCLUSIVE : Addr) (h0 : Heap) (n0 : Nat) (v : Option Value) (h : Heap) (L : List Loc) : Prop := v = some (.ref (own_pick p1 w_SHARED w_READ w_Action_READ w_COMMIT w_Action_COMMIT w_ABORT w_Action_ABORT w_WRITE w_Action_WRITE w_UNLOCK w_EXCLUSIVE)) ∧ Fr n0 L ∧ h = h0
set_option maxRecDepth 65536 in
set_option maxHeartbeats 40000000 in
theorem rm1 (l : Launch) (Z : State) (a0 : Array Value) (hw : ∀ d ∈ tables_1, d.before a0 Z = true) (ws : List Jvm.Cond) (p1 : Int32) (w_SHARED : Addr) (w_READ : Addr) (w_Action_READ : Addr) (w_COMMIT : Addr) (w_Action_COMMIT : Addr) (w_ABORT : Addr) (w_Action_ABORT : Addr) (w_WRITE : Addr) (w_Action_WRITE : Addr) (w_UNLOCK : Addr) (w_EXCLUSIVE : Addr) (h0 : Heap) (n0 : Nat) (Z0 : n0 ≤ h0.size) (WD : World Z h0 w_SHARED w_READ w_Action_READ w_COMMIT w_Action_COMMIT w_ABORT w_Action_ABORT w_WRITE w_Action_WRITE w_UNLOCK w_EXCLUSIVE) :
    MetFree l (⟨"com/example/serigraph/serigraph/history/ActionIsLockStepPinLaw", "pick", "(I)Lcom/example/serigraph/serigraph/history/Schedule$Action;"⟩ : MethodName) (head1 (Jvm.Cond.code (⟨"com/example/serigraph/serigraph/history/ActionIsLockStepPinLaw", "pick", "(I)Lcom/example/serigraph/serigraph/history/Schedule$Action;"⟩ : MethodName) method_2_code 1 (some (.object "com/example/serigraph/serigraph/history/Schedule$Action")) :: ws) ({ frames := 0, cells := 0, slots := 0, locals := 0 } : Room)) (fun a U => a = #[(.int p1)] ∧ Z.Warmed39 U.vm ∧ U.heap = h0) (fun _ _ _ _ _ => True) (fun _ U o U' => ∃ v L, o = .returned v ∧ Q_rm1 Z p1 w_SHARED w_READ w_Action_READ w_COMMIT w_Action_COMMIT w_ABORT w_Action_ABORT w_WRITE w_Action_WRITE w_UNLOCK w_EXCLUSIVE h0 n0 v U'.heap L ∧ FrameEnd U o U' L ({ frames := 0, cells := 0, slots := 0, locals := 0 } : Room).cells ({ frames := 0, cells := 0, slots := 0, locals := 0 } : Room).slots) := by
  refine MetFree.of_bodySF (plainFor_of_name pn_0) hisR ?_
  intro p e s m args below meth c s₁ Bd hml0 hP hK
  obtain ⟨rfl, hZ, hh⟩ := hP
  have hx := Bd.exec
  have hby := Bd.bytes
  have hml : c.maxLocals = 1 := hml0
  have hown : s.vm.findClass "com/example/serigraph/serigraph/history/ActionIsLockStepPinLaw" = some m.cls := findClass_of_methodNamed Bd.named
  have hnm := (name_of_methodNamed Bd.named Bd.method).1
  have X0 : Stand p l e ({ frames := 0, cells := 0, slots := 0, locals := 0 } : Room) s m #[(.int p1)] below meth c s₁ [] 0 0 := Stand.of_body Bd
  have e0 : s₁.heap = h0 := by rw [← hh, Bd.state]; rfl
  have N0 := Fr.nil n0
  have pre0 : ∀ t, Steps p.tables e below (s₁.setTop (mkF m 0 #[.val (.int p1)] [])) t → Steps p.tables e below (s₁.setTop (entryFrame m #[(.int p1)] 1)) t := fun t k => castTop (ef_rm1 m (p1)) k
  obtain ⟨S_SHARED, E_SHARED, F_SHARED_operation, S_READ, E_READ, S_Action_READ, E_Action_READ, F_READ_operation, S_COMMIT, E_COMMIT, S_Action_COMMIT, E_Action_COMMIT, F_COMMIT_operation, S_ABORT, E_ABORT, S_Action_ABORT, E_Action_ABORT, F_ABORT_operation, S_WRITE, E_WRITE, S_Action_WRITE, E_Action_WRITE, F_WRITE_operation, S_UNLOCK, E_UNLOCK, F_UNLOCK_operation, S_EXCLUSIVE, E_EXCLUSIVE, F_EXCLUSIVE_operation⟩ := WD
  by_cases hc1 : p1 = (0 : Int32)
  · obtain ⟨T2, X2, e2, st2⟩ := getS2 X0 hx hZ hown (host := "") (Or.inl (hw _ (List.mem_of_getElem? (i := 5) rfl))) Via.refl e0 S_SHARED (g := (mkF m 4 #[.val (.int p1)] [])) rfl (hb hby d1_4)
    obtain ⟨fs, hr, hrun, hended, hW, hsame⟩ := X2.leave (v := some (.ref w_SHARED)) (fun h => by rw [Bd.returns] at h; cases h)
    refine ⟨_, _, pre0 _ ?_, hrun, hended, _, _, rfl, ?_, ⟨_, rfl⟩, hW, hsame.mono (by decide) (by decide)⟩
    · show Steps p.tables e below (s₁.setTop (mkF m 0 #[.val (.int p1)] [])) _
      refine XS.iloadN X0.here hx rfl (hb hby d1_0) rfl ?_
      show Steps p.tables e below (s₁.setTop (mkF m 1 #[.val (.int p1)] [(.int p1)])) _
      refine XS.ifNo X0.here hx rfl (hb hby d1_1) rfl ((if0 _ _).trans (teq hc1).2) ?_
      show Steps p.tables e below (s₁.setTop (mkF m 4 #[.val (.int p1)] [])) _
      refine st2 _ ?_
      show Steps p.tables e below (T2.setTop (mkF m 7 #[.val (.int p1)] [(.ref w_SHARED)])) _
      jvm_step X2.here [X2.here.top, hx, (hb hby d1_7), X2.method', Bd.returns, Value.isRef, FieldType.isReference]
      first | (intro acts; rw [hr _ acts rfl rfl rfl]) | rw [hr _ _ rfl rfl rfl]
      exact Steps.refl _
    · show Q_rm1 Z p1 w_SHARED w_READ w_Action_READ w_COMMIT w_Action_COMMIT w_ABORT w_Action_ABORT w_WRITE w_Action_WRITE w_UNLOCK w_EXCLUSIVE h0 n0 _ T2.heap _
      rw [e2]
      exact ⟨(by simp [own_pick, hc1]), N0, rfl⟩
  · by_cases hc3 : p1 = (1 : Int32)
    · obtain ⟨T4, X4, e4, st4⟩ := getS2 X0 hx hZ hown (host := "") (Or.inl (hw _ (List.mem_of_getElem? (i := 30) rfl))) Via.refl e0 S_EXCLUSIVE (g := (mkF m 13 #[.val (.int p1)] [])) rfl (hb hby d1_13)
      obtain ⟨fs, hr, hrun, hended, hW, hsame⟩ := X4.leave (v := some (.ref w_EXCLUSIVE)) (fun h => by rw [Bd.returns] at h; cases h)
      refine ⟨_, _, pre0 _ ?_, hrun, hended, _, _, rfl, ?_, ⟨_, rfl⟩, hW, hsame.mono (by decide) (by decide)⟩
      · show Steps p.tables e below (s₁.setTop (mkF m 0 #[.val (.int p1)] [])) _
        refine XS.iloadN X0.here hx rfl (hb hby d1_0) rfl ?_
        show Steps p.tables e below (s₁.setTop (mkF m 1 #[.val (.int p1)] [(.int p1)])) _
        refine XS.ifYes X0.here hx rfl (pc0 := 1) (pc' := 8) rfl (hb hby d1_1) rfl ((if0 _ _).trans (feq hc1).2) (by decide) (by decide) ?_
        show Steps p.tables e below (s₁.setTop (mkF m 8 #[.val (.int p1)] [])) _
        refine XS.iloadN X0.here hx rfl (hb hby d1_8) rfl ?_
        show Steps p.tables e below (s₁.setTop (mkF m 9 #[.val (.int p1)] [(.int p1)])) _
        refine XS.iconst X0.here hx rfl (hb hby d1_9) ?_
        show Steps p.tables e below (s₁.setTop (mkF m 10 #[.val (.int p1)] [(.int (1 : Int32)), (.int p1)])) _
        refine XS.icmpNo X0.here hx rfl (hb hby d1_10) rfl (teq hc3).2 ?_
        show Steps p.tables e below (s₁.setTop (mkF m 13 #[.val (.int p1)] [])) _
        refine st4 _ ?_
        show Steps p.tables e below (T4.setTop (mkF m 16 #[.val (.int p1)] [(.ref w_EXCLUSIVE)])) _
        jvm_step X4.here [X4.here.top, hx, (hb hby d1_16), X4.method', Bd.returns, Value.isRef, FieldType.isReference]
        first | (intro acts; rw [hr _ acts rfl rfl rfl]) | rw [hr _ _ rfl rfl rfl]
        exact Steps.refl _
      · show Q_rm1 Z p1 w_SHARED w_READ w_Action_READ w_COMMIT w_Action_COMMIT w_ABORT w_Action_ABORT w_WRITE w_Action_WRITE w_UNLOCK w_EXCLUSIVE h0 n0 _ T4.heap _
        rw [e4]
        exact ⟨(by simp [own_pick, hc1, hc3]), N0, rfl⟩
    · by_cases hc5 : p1 = (2 : Int32)
      · obtain ⟨T6, X6, e6, st6⟩ := getS2 X0 hx hZ hown (host := "") (Or.inl (hw _ (List.mem_of_getElem? (i := 28) rfl))) Via.refl e0 S_UNLOCK (g := (mkF m 22 #[.val (.int p1)] [])) rfl (hb hby d1_22)
        obtain ⟨fs, hr, hrun, hended, hW, hsame⟩ := X6.leave (v := some (.ref w_UNLOCK)) (fun h => by rw [Bd.returns] at h; cases h)
        refine ⟨_, _, pre0 _ ?_, hrun, hended, _, _, rfl, ?_, ⟨_, rfl⟩, hW, hsame.mono (by decide) (by decide)⟩
        · show Steps p.tables e below (s₁.setTop (mkF m 0 #[.val (.int p1)] [])) _
          refine XS.iloadN X0.here hx rfl (hb hby d1_0) rfl ?_
          show Steps p.tables e below (s₁.setTop (mkF m 1 #[.val (.int p1)] [(.int p1)])) _
          refine XS.ifYes X0.here hx rfl (pc0 := 1) (pc' := 8) rfl (hb hby d1_1) rfl ((if0 _ _).trans (feq hc1).2) (by decide) (by decide) ?_
          show Steps p.tables e below (s₁.setTop (mkF m 8 #[.val (.int p1)] [])) _
          refine XS.iloadN X0.here hx rfl (hb hby d1_8) rfl ?_
          show Steps p.tables e below (s₁.setTop (mkF m 9 #[.val (.int p1)] [(.int p1)])) _
          refine XS.iconst X0.here hx rfl (hb hby d1_9) ?_
          show Steps p.tables e below (s₁.setTop (mkF m 10 #[.val (.int p1)] [(.int (1 : Int32)), (.int p1)])) _
          refine XS.icmpYes X0.here hx rfl (pc0 := 10) (pc' := 17) rfl (hb hby d1_10) rfl (feq hc3).2 (by decide) (by decide) ?_
          show Steps p.tables e below (s₁.setTop (mkF m 17 #[.val (.int p1)] [])) _
          refine XS.iloadN X0.here hx rfl (hb hby d1_17) rfl ?_
          show Steps p.tables e below (s₁.setTop (mkF m 18 #[.val (.int p1)] [(.int p1)])) _
          refine XS.iconst X0.here hx rfl (hb hby d1_18) ?_
          show Steps p.tables e below (s₁.setTop (mkF m 19 #[.val (.int p1)] [(.int (2 : Int32)), (.int p1)])) _
          refine XS.icmpNo X0.here hx rfl (hb hby d1_19) rfl (teq hc5).2 ?_
          show Steps p.tables e below (s₁.setTop (mkF m 22 #[.val (.int p1)] [])) _
          refine st6 _ ?_
          show Steps p.tables e below (T6.setTop (mkF m 25 #[.val (.int p1)] [(.ref w_UNLOCK)])) _
          jvm_step X6.here [X6.here.top, hx, (hb hby d1_25), X6.method', Bd.returns, Value.isRef, FieldType.isReference]
          first | (intro acts; rw [hr _ acts rfl rfl rfl]) | rw [hr _ _ rfl rfl rfl]
          exact Steps.refl _
        · show Q_rm1 Z p1 w_SHARED w_READ w_Action_READ w_COMMIT w_Action_COMMIT w_ABORT w_Action_ABORT w_WRITE w_Action_WRITE w_UNLOCK w_EXCLUSIVE h0 n0 _ T6.heap _
          rw [e6]
          exact ⟨(by simp [own_pick, hc1, hc3, hc5]), N0, rfl⟩
      · by_cases hc7 : p1 = (3 : Int32)
        · obtain ⟨T8, X8, e8, st8⟩ := getS2 X0 hx hZ hown (host := "") (Or.inl (hw _ (List.mem_of_getElem? (i := 15) rfl))) Via.refl e0 S_READ (g := (mkF m 31 #[.val (.int p1)] [])) rfl (hb hby d1_31)
          obtain ⟨fs, hr, hrun, hended, hW, hsame⟩ := X8.leave (v := some (.ref w_READ)) (fun h => by rw [Bd.returns] at h; cases h)
          refine ⟨_, _, pre0 _ ?_, hrun, hended, _, _, rfl, ?_, ⟨_, rfl⟩, hW, hsame.mono (by decide) (by decide)⟩
          · show Steps p.tables e below (s₁.setTop (mkF m 0 #[.val (.int p1)] [])) _
            refine XS.iloadN X0.here hx rfl (hb hby d1_0) rfl ?_
            show Steps p.tables e below (s₁.setTop (mkF m 1 #[.val (.int p1)] [(.int p1)])) _
            refine XS.ifYes X0.here hx rfl (pc0 := 1) (pc' := 8) rfl (hb hby d1_1) rfl ((if0 _ _).trans (feq hc1).2) (by decide) (by decide) ?_
            show Steps p.tables e below (s₁.setTop (mkF m 8 #[.val (.int p1)] [])) _
            refine XS.iloadN X0.here hx rfl (hb hby d1_8) rfl ?_
            show Steps p.tables e below (s₁.setTop (mkF m 9 #[.val (.int p1)] [(.int p1)])) _
            refine XS.iconst X0.here hx rfl (hb hby d1_9) ?_
            show Steps p.tables e below (s₁.setTop (mkF m 10 #[.val (.int p1)] [(.int (1 : Int32)), (.int p1)])) _
            refine XS.icmpYes X0.here hx rfl (pc0 := 10) (pc' := 17) rfl (hb hby d1_10) rfl (feq hc3).2 (by decide) (by decide) ?_
            show Steps p.tables e below (s₁.setTop (mkF m 17 #[.val (.int p1)] [])) _
            refine XS.iloadN X0.here hx rfl (hb hby d1_17) rfl ?_
            show Steps p.tables e below (s₁.setTop (mkF m 18 #[.val (.int p1)] [(.int p1)])) _
            refine XS.iconst X0.here hx rfl (hb hby d1_18) ?_
            show Steps p.tables e below (s₁.setTop (mkF m 19 #[.val (.int p1)] [(.int (2 : Int32)), (.int p1)])) _
            refine XS.icmpYes X0.here hx rfl (pc0 := 19) (pc' := 26) rfl (hb hby d1_19) rfl (feq hc5).2 (by decide) (by decide) ?_
            show Steps p.tables e below (s₁.setTop (mkF m 26 #[.val (.int p1)] [])) _
            refine XS.iloadN X0.here hx rfl (hb hby d1_26) rfl ?_
            show Steps p.tables e below (s₁.setTop (mkF m 27 #[.val (.int p1)] [(.int p1)])) _
            refine XS.iconst X0.here hx rfl (hb hby d1_27) ?_
            show Steps p.tables e below (s₁.setTop (mkF m 28 #[.val (.int p1)] [(.int (3 : Int32)), (.int p1)])) _
            refine XS.icmpNo X0.here hx rfl (hb hby d1_28) rfl (teq hc7).2 ?_
            show Steps p.tables e below (s₁.setTop (mkF m 31 #[.val (.int p1)] [])) _
            refine st8 _ ?_
            show Steps p.tables e below (T8.setTop (mkF m 34 #[.val (.int p1)] [(.ref w_READ)])) _
            jvm_step X8.here [X8.here.top, hx, (hb hby d1_34), X8.method', Bd.returns, Value.isRef, FieldType.isReference]
            first | (intro acts; rw [hr _ acts rfl rfl rfl]) | rw [hr _ _ rfl rfl rfl]
            exact Steps.refl _
          · show Q_rm1 Z p1 w_SHARED w_READ w_Action_READ w_COMMIT w_Action_COMMIT w_ABORT w_Action_ABORT w_WRITE w_Action_WRITE w_UNLOCK w_EXCLUSIVE h0 n0 _ T8.heap _
            rw [e8]
            exact ⟨(by simp [own_pick, hc1, hc3, hc5, hc7]), N0, rfl⟩
        · by_cases hc9 : p1 = (4 : Int32)
          · obtain ⟨T10, X10, e10, st10⟩ := getS2 X0 hx hZ hown (host := "") (Or.inl (hw _ (List.mem_of_getElem? (i := 25) rfl))) Via.refl e0 S_WRITE (g := (mkF m 40 #[.val (.int p1)] [])) rfl (hb hby d1_40)
            obtain ⟨fs, hr, hrun, hended, hW, hsame⟩ := X10.leave (v := some (.ref w_WRITE)) (fun h => by rw [Bd.returns] at h; cases h)
            refine ⟨_, _, pre0 _ ?_, hrun, hended, _, _, rfl, ?_, ⟨_, rfl⟩, hW, hsame.mono (by decide) (by decide)⟩
            · show Steps p.tables e below (s₁.setTop (mkF m 0 #[.val (.int p1)] [])) _
              refine XS.iloadN X0.here hx rfl (hb hby d1_0) rfl ?_
              show Steps p.tables e below (s₁.setTop (mkF m 1 #[.val (.int p1)] [(.int p1)])) _
              refine XS.ifYes X0.here hx rfl (pc0 := 1) (pc' := 8) rfl (hb hby d1_1) rfl ((if0 _ _).trans (feq hc1).2) (by decide) (by decide) ?_
              show Steps p.tables e below (s₁.setTop (mkF m 8 #[.val (.int p1)] [])) _
              refine XS.iloadN X0.here hx rfl (hb hby d1_8) rfl ?_
              show Steps p.tables e below (s₁.setTop (mkF m 9 #[.val (.int p1)] [(.int p1)])) _
              refine XS.iconst X0.here hx rfl (hb hby d1_9) ?_
              show Steps p.tables e below (s₁.setTop (mkF m 10 #[.val (.int p1)] [(.int (1 : Int32)), (.int p1)])) _
              refine XS.icmpYes X0.here hx rfl (pc0 := 10) (pc' := 17) rfl (hb hby d1_10) rfl (feq hc3).2 (by decide) (by decide) ?_
              show Steps p.tables e below (s₁.setTop (mkF m 17 #[.val (.int p1)] [])) _
              refine XS.iloadN X0.here hx rfl (hb hby d1_17) rfl ?_
              show Steps p.tables e below (s₁.setTop (mkF m 18 #[.val (.int p1)] [(.int p1)])) _
              refine XS.iconst X0.here hx rfl (hb hby d1_18) ?_
              show Steps p.tables e below (s₁.setTop (mkF m 19 #[.val (.int p1)] [(.int (2 : Int32)), (.int p1)])) _
              refine XS.icmpYes X0.here hx rfl (pc0 := 19) (pc' := 26) rfl (hb hby d1_19) rfl (feq hc5).2 (by decide) (by decide) ?_
              show Steps p.tables e below (s₁.setTop (mkF m 26 #[.val (.int p1)] [])) _
              refine XS.iloadN X0.here hx rfl (hb hby d1_26) rfl ?_
              show Steps p.tables e below (s₁.setTop (mkF m 27 #[.val (.int p1)] [(.int p1)])) _
              refine XS.iconst X0.here hx rfl (hb hby d1_27) ?_
              show Steps p.tables e below (s₁.setTop (mkF m 28 #[.val (.int p1)] [(.int (3 : Int32)), (.int p1)])) _
              refine XS.icmpYes X0.here hx rfl (pc0 := 28) (pc' := 35) rfl (hb hby d1_28) rfl (feq hc7).2 (by decide) (by decide) ?_
              show Steps p.tables e below (s₁.setTop (mkF m 35 #[.val (.int p1)] [])) _
              refine XS.iloadN X0.here hx rfl (hb hby d1_35) rfl ?_
              show Steps p.tables e below (s₁.setTop (mkF m 36 #[.val (.int p1)] [(.int p1)])) _
              refine XS.iconst X0.here hx rfl (hb hby d1_36) ?_
              show Steps p.tables e below (s₁.setTop (mkF m 37 #[.val (.int p1)] [(.int (4 : Int32)), (.int p1)])) _
              refine XS.icmpNo X0.here hx rfl (hb hby d1_37) rfl (teq hc9).2 ?_
              show Steps p.tables e below (s₁.setTop (mkF m 40 #[.val (.int p1)] [])) _
              refine st10 _ ?_
              show Steps p.tables e below (T10.setTop (mkF m 43 #[.val (.int p1)] [(.ref w_WRITE)])) _
              jvm_step X10.here [X10.here.top, hx, (hb hby d1_43), X10.method', Bd.returns, Value.isRef, FieldType.isReference]
              first | (intro acts; rw [hr _ acts rfl rfl rfl]) | rw [hr _ _ rfl rfl rfl]
              exact Steps.refl _
            · show Q_rm1 Z p1 w_SHARED w_READ w_Action_READ w_COMMIT w_Action_COMMIT w_ABORT w_Action_ABORT w_WRITE w_Action_WRITE w_UNLOCK w_EXCLUSIVE h0 n0 _ T10.heap _
              rw [e10]
              exact ⟨(by simp [own_pick, hc1, hc3, hc5, hc7, hc9]), N0, rfl⟩
          · by_cases hc11 : p1 = (5 : Int32)
            · obtain ⟨T12, X12, e12, st12⟩ := getS2 X0 hx hZ hown (host := "") (Or.inl (hw _ (List.mem_of_getElem? (i := 19) rfl))) Via.refl e0 S_COMMIT (g := (mkF m 49 #[.val (.int p1)] [])) rfl (hb hby d1_49)
              obtain ⟨fs, hr, hrun, hended, hW, hsame⟩ := X12.leave (v := some (.ref w_COMMIT)) (fun h => by rw [Bd.returns] at h; cases h)
              refine ⟨_, _, pre0 _ ?_, hrun, hended, _, _, rfl, ?_, ⟨_, rfl⟩, hW, hsame.mono (by decide) (by decide)⟩
              · show Steps p.tables e below (s₁.setTop (mkF m 0 #[.val (.int p1)] [])) _
                refine XS.iloadN X0.here hx rfl (hb hby d1_0) rfl ?_
                show Steps p.tables e below (s₁.setTop (mkF m 1 #[.val (.int p1)] [(.int p1)])) _
                refine XS.ifYes X0.here hx rfl (pc0 := 1) (pc' := 8) rfl (hb hby d1_1) rfl ((if0 _ _).trans (feq hc1).2) (by decide) (by decide) ?_
                show Steps p.tables e below (s₁.setTop (mkF m 8 #[.val (.int p1)] [])) _
                refine XS.iloadN X0.here hx rfl (hb hby d1_8) rfl ?_
                show Steps p.tables e below (s₁.setTop (mkF m 9 #[.val (.int p1)] [(.int p1)])) _
                refine XS.iconst X0.here hx rfl (hb hby d1_9) ?_
                show Steps p.tables e below (s₁.setTop (mkF m 10 #[.val (.int p1)] [(.int (1 : Int32)), (.int p1)])) _
                refine XS.icmpYes X0.here hx rfl (pc0 := 10) (pc' := 17) rfl (hb hby d1_10) rfl (feq hc3).2 (by decide) (by decide) ?_
                show Steps p.tables e below (s₁.setTop (mkF m 17 #[.val (.int p1)] [])) _
                refine XS.iloadN X0.here hx rfl (hb hby d1_17) rfl ?_
                show Steps p.tables e below (s₁.setTop (mkF m 18 #[.val (.int p1)] [(.int p1)])) _
                refine XS.iconst X0.here hx rfl (hb hby d1_18) ?_
                show Steps p.tables e below (s₁.setTop (mkF m 19 #[.val (.int p1)] [(.int (2 : Int32)), (.int p1)])) _
                refine XS.icmpYes X0.here hx rfl (pc0 := 19) (pc' := 26) rfl (hb hby d1_19) rfl (feq hc5).2 (by decide) (by decide) ?_
                show Steps p.tables e below (s₁.setTop (mkF m 26 #[.val (.int p1)] [])) _
                refine XS.iloadN X0.here hx rfl (hb hby d1_26) rfl ?_
                show Steps p.tables e below (s₁.setTop (mkF m 27 #[.val (.int p1)] [(.int p1)])) _
                refine XS.iconst X0.here hx rfl (hb hby d1_27) ?_
                show Steps p.tables e below (s₁.setTop (mkF m 28 #[.val (.int p1)] [(.int (3 : Int32)), (.int p1)])) _
                refine XS.icmpYes X0.here hx rfl (pc0 := 28) (pc' := 35) rfl (hb hby d1_28) rfl (feq hc7).2 (by decide) (by decide) ?_
                show Steps p.tables e below (s₁.setTop (mkF m 35 #[.val (.int p1)] [])) _
                refine XS.iloadN X0.here hx rfl (hb hby d1_35) rfl ?_
                show Steps p.tables e below (s₁.setTop (mkF m 36 #[.val (.int p1)] [(.int p1)])) _
                refine XS.iconst X0.here hx rfl (hb hby d1_36) ?_
                show Steps p.tables e below (s₁.setTop (mkF m 37 #[.val (.int p1)] [(.int (4 : Int32)), (.int p1)])) _
                refine XS.icmpYes X0.here hx rfl (pc0 := 37) (pc' := 44) rfl (hb hby d1_37) rfl (feq hc9).2 (by decide) (by decide) ?_
                show Steps p.tables e below (s₁.setTop (mkF m 44 #[.val (.int p1)] [])) _
                refine XS.iloadN X0.here hx rfl (hb hby d1_44) rfl ?_
                show Steps p.tables e below (s₁.setTop (mkF m 45 #[.val (.int p1)] [(.int p1)])) _
                refine XS.iconst X0.here hx rfl (hb hby d1_45) ?_
                show Steps p.tables e below (s₁.setTop (mkF m 46 #[.val (.int p1)] [(.int (5 : Int32)), (.int p1)])) _
                refine XS.icmpNo X0.here hx rfl (hb hby d1_46) rfl (teq hc11).2 ?_
                show Steps p.tables e below (s₁.setTop (mkF m 49 #[.val (.int p1)] [])) _
                refine st12 _ ?_
                show Steps p.tables e below (T12.setTop (mkF m 52 #[.val (.int p1)] [(.ref w_COMMIT)])) _
                jvm_step X12.here [X12.here.top, hx, (hb hby d1_52), X12.method', Bd.returns, Value.isRef, FieldType.isReference]
                first | (intro acts; rw [hr _ acts rfl rfl rfl]) | rw [hr _ _ rfl rfl rfl]
                exact Steps.refl _
              · show Q_rm1 Z p1 w_SHARED w_READ w_Action_READ w_COMMIT w_Action_COMMIT w_ABORT w_Action_ABORT w_WRITE w_Action_WRITE w_UNLOCK w_EXCLUSIVE h0 n0 _ T12.heap _
                rw [e12]
                exact ⟨(by simp [own_pick, hc1, hc3, hc5, hc7, hc9, hc11]), N0, rfl⟩
            · obtain ⟨T13, X13, e13, st13⟩ := getS2 X0 hx hZ hown (host := "") (Or.inl (hw _ (List.mem_of_getElem? (i := 22) rfl))) Via.refl e0 S_ABORT (g := (mkF m 53 #[.val (.int p1)] [])) rfl (hb hby d1_53)
              obtain ⟨fs, hr, hrun, hended, hW, hsame⟩ := X13.leave (v := some (.ref w_ABORT)) (fun h => by rw [Bd.returns] at h; cases h)
              refine ⟨_, _, pre0 _ ?_, hrun, hended, _, _, rfl, ?_, ⟨_, rfl⟩, hW, hsame.mono (by decide) (by decide)⟩
              · show Steps p.tables e below (s₁.setTop (mkF m 0 #[.val (.int p1)] [])) _
                refine XS.iloadN X0.here hx rfl (hb hby d1_0) rfl ?_
                show Steps p.tables e below (s₁.setTop (mkF m 1 #[.val (.int p1)] [(.int p1)])) _
                refine XS.ifYes X0.here hx rfl (pc0 := 1) (pc' := 8) rfl (hb hby d1_1) rfl ((if0 _ _).trans (feq hc1).2) (by decide) (by decide) ?_
                show Steps p.tables e below (s₁.setTop (mkF m 8 #[.val (.int p1)] [])) _
                refine XS.iloadN X0.here hx rfl (hb hby d1_8) rfl ?_
                show Steps p.tables e below (s₁.setTop (mkF m 9 #[.val (.int p1)] [(.int p1)])) _
                refine XS.iconst X0.here hx rfl (hb hby d1_9) ?_
                show Steps p.tables e below (s₁.setTop (mkF m 10 #[.val (.int p1)] [(.int (1 : Int32)), (.int p1)])) _
                refine XS.icmpYes X0.here hx rfl (pc0 := 10) (pc' := 17) rfl (hb hby d1_10) rfl (feq hc3).2 (by decide) (by decide) ?_
                show Steps p.tables e below (s₁.setTop (mkF m 17 #[.val (.int p1)] [])) _
                refine XS.iloadN X0.here hx rfl (hb hby d1_17) rfl ?_
                show Steps p.tables e below (s₁.setTop (mkF m 18 #[.val (.int p1)] [(.int p1)])) _
                refine XS.iconst X0.here hx rfl (hb hby d1_18) ?_
                show Steps p.tables e below (s₁.setTop (mkF m 19 #[.val (.int p1)] [(.int (2 : Int32)), (.int p1)])) _
                refine XS.icmpYes X0.here hx rfl (pc0 := 19) (pc' := 26) rfl (hb hby d1_19) rfl (feq hc5).2 (by decide) (by decide) ?_
                show Steps p.tables e below (s₁.setTop (mkF m 26 #[.val (.int p1)] [])) _
                refine XS.iloadN X0.here hx rfl (hb hby d1_26) rfl ?_
                show Steps p.tables e below (s₁.setTop (mkF m 27 #[.val (.int p1)] [(.int p1)])) _
                refine XS.iconst X0.here hx rfl (hb hby d1_27) ?_
                show Steps p.tables e below (s₁.setTop (mkF m 28 #[.val (.int p1)] [(.int (3 : Int32)), (.int p1)])) _
                refine XS.icmpYes X0.here hx rfl (pc0 := 28) (pc' := 35) rfl (hb hby d1_28) rfl (feq hc7).2 (by decide) (by decide) ?_
                show Steps p.tables e below (s₁.setTop (mkF m 35 #[.val (.int p1)] [])) _
                refine XS.iloadN X0.here hx rfl (hb hby d1_35) rfl ?_
                show Steps p.tables e below (s₁.setTop (mkF m 36 #[.val (.int p1)] [(.int p1)])) _
                refine XS.iconst X0.here hx rfl (hb hby d1_36) ?_
                show Steps p.tables e below (s₁.setTop (mkF m 37 #[.val (.int p1)] [(.int (4 : Int32)), (.int p1)])) _
                refine XS.icmpYes X0.here hx rfl (pc0 := 37) (pc' := 44) rfl (hb hby d1_37) rfl (feq hc9).2 (by decide) (by decide) ?_
                show Steps p.tables e below (s₁.setTop (mkF m 44 #[.val (.int p1)] [])) _
                refine XS.iloadN X0.here hx rfl (hb hby d1_44) rfl ?_
                show Steps p.tables e below (s₁.setTop (mkF m 45 #[.val (.int p1)] [(.int p1)])) _
                refine XS.iconst X0.here hx rfl (hb hby d1_45) ?_
                show Steps p.tables e below (s₁.setTop (mkF m 46 #[.val (.int p1)] [(.int (5 : Int32)), (.int p1)])) _
                refine XS.icmpYes X0.here hx rfl (pc0 := 46) (pc' := 53) rfl (hb hby d1_46) rfl (feq hc11).2 (by decide) (by decide) ?_
                show Steps p.tables e below (s₁.setTop (mkF m 53 #[.val (.int p1)] [])) _
                refine st13 _ ?_
                show Steps p.tables e below (T13.setTop (mkF m 56 #[.val (.int p1)] [(.ref w_ABORT)])) _
                jvm_step X13.here [X13.here.top, hx, (hb hby d1_56), X13.method', Bd.returns, Value.isRef, FieldType.isReference]
                first | (intro acts; rw [hr _ acts rfl rfl rfl]) | rw [hr _ _ rfl rfl rfl]
                exact Steps.refl _
              · show Q_rm1 Z p1 w_SHARED w_READ w_Action_READ w_COMMIT w_Action_COMMIT w_ABORT w_Action_ABORT w_WRITE w_Action_WRITE w_UNLOCK w_EXCLUSIVE h0 n0 _ T13.heap _
                rw [e13]
                exact ⟨(by simp [own_pick, hc1, hc3, hc5, hc7, hc9, hc11]), N0, rfl⟩
theorem d2_0 : decode prog_21_method_4_code 0 = .ok (.aload_n 0, 1) := by decide +kernel
theorem d2_1 : decode prog_21_method_4_code 1 = .ok (.getfield 44, 3) := by decide +kernel
theorem d2_4 : decode prog_21_method_4_code 4 = .ok (.ifnonnull 7, 3) := by decide +kernel
theorem d2_7 : decode prog_21_method_4_code 7 = .ok (.iconst 1, 1) := by decide +kernel
theorem d2_8 : decode prog_21_method_4_code 8 = .ok (.goto 4, 3) := by decide +kernel
theorem d2_11 : decode prog_21_method_4_code 11 = .ok (.iconst 0, 1) := by decide +kernel
theorem d2_12 : decode prog_21_method_4_code 12 = .ok (.ireturn, 1) := by decide +kernel
theorem pn_1 : plainName "com/example/serigraph/serigraph/history/Schedule$Action" = true := by first | (simp [plainName, overriddenIn]; done) | decide +kernel
theorem ef_rm2n (m : MethodId) (x0 : Addr) : entryFrame m #[(.ref x0)] 1 = mkF m 0 #[.val (.ref x0)] [] := by first | (simp [entryFrame, mkF, argsToLocals, Value.category]; done) | rfl
def Q_rm2n (Z : State) (a1 : Addr) (h0 : Heap) (n0 : Nat) (v : Option Value) (h : Heap) (L : List Loc) : Prop := v = some (.int (1 : Int32)) ∧ Fr n0 L ∧ h = h0
set_option maxRecDepth 65536 in
set_option maxHeartbeats 40000000 in
theorem rm2n (l : Launch) (Z : State) (a0 : Array Value) (hw : ∀ d ∈ tables_1, d.before a0 Z = true) (ws : List Jvm.Cond) (a1 : Addr) (h0 : Heap) (n0 : Nat) (Z0 : n0 ≤ h0.size) (FO : Fld Z h0 a1 "com/example/serigraph/serigraph/history/Schedule$Action" "operation" "Lcom/example/serigraph/serigraph/history/Operation$Action;" .null) :
    MetFree l (⟨"com/example/serigraph/serigraph/history/Schedule$Action", "isLockStep", "()Z"⟩ : MethodName) (head1 (Jvm.Cond.code (⟨"com/example/serigraph/serigraph/history/Schedule$Action", "isLockStep", "()Z"⟩ : MethodName) prog_21_method_4_code 1 (some .boolean) :: ws) ({ frames := 0, cells := 0, slots := 0, locals := 0 } : Room)) (fun a U => a = #[(.ref a1)] ∧ Z.Warmed39 U.vm ∧ U.heap = h0) (fun _ _ _ _ _ => True) (fun _ U o U' => ∃ v L, o = .returned v ∧ Q_rm2n Z a1 h0 n0 v U'.heap L ∧ FrameEnd U o U' L ({ frames := 0, cells := 0, slots := 0, locals := 0 } : Room).cells ({ frames := 0, cells := 0, slots := 0, locals := 0 } : Room).slots) := by
  refine MetFree.of_bodySF (plainFor_of_name pn_1) hisR ?_
  intro p e s m args below meth c s₁ Bd hml0 hP hK
  obtain ⟨rfl, hZ, hh⟩ := hP
  have hx := Bd.exec
  have hby := Bd.bytes
  have hml : c.maxLocals = 1 := hml0
  have hown : s.vm.findClass "com/example/serigraph/serigraph/history/Schedule$Action" = some m.cls := findClass_of_methodNamed Bd.named
  have hnm := (name_of_methodNamed Bd.named Bd.method).1
  have X0 : Stand p l e ({ frames := 0, cells := 0, slots := 0, locals := 0 } : Room) s m #[(.ref a1)] below meth c s₁ [] 0 0 := Stand.of_body Bd
  have e0 : s₁.heap = h0 := by rw [← hh, Bd.state]; rfl
  have N0 := Fr.nil n0
  have pre0 : ∀ t, Steps p.tables e below (s₁.setTop (mkF m 0 #[.val (.ref a1)] [])) t → Steps p.tables e below (s₁.setTop (entryFrame m #[(.ref a1)] 1)) t := fun t k => castTop (ef_rm2n m (a1)) k
  obtain ⟨T1, X1, e1, st1⟩ := getF X0 hx hZ hown (host := "") (Or.inl (hw _ (List.mem_of_getElem? (i := 13) rfl))) Via.refl e0 FO (g := (mkF m 1 #[.val (.ref a1)] [(.ref a1)])) rfl rfl (hb hby d2_1)
  obtain ⟨fs, hr, hrun, hended, hW, hsame⟩ := X1.leave (v := some (.int (1 : Int32))) (fun h => by rw [Bd.returns] at h; cases h)
  refine ⟨_, _, pre0 _ ?_, hrun, hended, _, _, rfl, ?_, ⟨_, rfl⟩, hW, hsame.mono (by decide) (by decide)⟩
  · show Steps p.tables e below (s₁.setTop (mkF m 0 #[.val (.ref a1)] [])) _
    refine XS.aloadN X0.here hx rfl (hb hby d2_0) rfl rfl ?_
    show Steps p.tables e below (s₁.setTop (mkF m 1 #[.val (.ref a1)] [(.ref a1)])) _
    refine st1 _ ?_
    show Steps p.tables e below (T1.setTop (mkF m 4 #[.val (.ref a1)] [.null])) _
    refine XS.ifnonnullNo X1.here hx rfl (hb hby d2_4) rfl ?_
    show Steps p.tables e below (T1.setTop (mkF m 7 #[.val (.ref a1)] [])) _
    refine XS.iconst X1.here hx rfl (hb hby d2_7) ?_
    show Steps p.tables e below (T1.setTop (mkF m 8 #[.val (.ref a1)] [(.int (1 : Int32))])) _
    refine XS.goto X1.here hx rfl (pc0 := 8) (pc' := 12) rfl (hb hby d2_8) (by decide) (by decide) ?_
    show Steps p.tables e below (T1.setTop (mkF m 12 #[.val (.ref a1)] [(.int (1 : Int32))])) _
    exact retN X1 hx (t := .boolean) Bd.returns (by simp) (hb hby d2_12) hr
  · show Q_rm2n Z a1 h0 n0 _ T1.heap _
    rw [e1]
    exact ⟨rfl, N0, rfl⟩
theorem ef_rm2r (m : MethodId) (x0 : Addr) : entryFrame m #[(.ref x0)] 1 = mkF m 0 #[.val (.ref x0)] [] := by first | (simp [entryFrame, mkF, argsToLocals, Value.category]; done) | rfl
def Q_rm2r (Z : State) (a1 : Addr) (b1 : Addr) (h0 : Heap) (n0 : Nat) (v : Option Value) (h : Heap) (L : List Loc) : Prop := v = some (.int (0 : Int32)) ∧ Fr n0 L ∧ h = h0
set_option maxRecDepth 65536 in
set_option maxHeartbeats 40000000 in
theorem rm2r (l : Launch) (Z : State) (a0 : Array Value) (hw : ∀ d ∈ tables_1, d.before a0 Z = true) (ws : List Jvm.Cond) (a1 : Addr) (b1 : Addr) (h0 : Heap) (n0 : Nat) (Z0 : n0 ≤ h0.size) (FO : Fld Z h0 a1 "com/example/serigraph/serigraph/history/Schedule$Action" "operation" "Lcom/example/serigraph/serigraph/history/Operation$Action;" (.ref b1)) :
    MetFree l (⟨"com/example/serigraph/serigraph/history/Schedule$Action", "isLockStep", "()Z"⟩ : MethodName) (head1 (Jvm.Cond.code (⟨"com/example/serigraph/serigraph/history/Schedule$Action", "isLockStep", "()Z"⟩ : MethodName) prog_21_method_4_code 1 (some .boolean) :: ws) ({ frames := 0, cells := 0, slots := 0, locals := 0 } : Room)) (fun a U => a = #[(.ref a1)] ∧ Z.Warmed39 U.vm ∧ U.heap = h0) (fun _ _ _ _ _ => True) (fun _ U o U' => ∃ v L, o = .returned v ∧ Q_rm2r Z a1 b1 h0 n0 v U'.heap L ∧ FrameEnd U o U' L ({ frames := 0, cells := 0, slots := 0, locals := 0 } : Room).cells ({ frames := 0, cells := 0, slots := 0, locals := 0 } : Room).slots) := by
  refine MetFree.of_bodySF (plainFor_of_name pn_1) hisR ?_
  intro p e s m args below meth c s₁ Bd hml0 hP hK
  obtain ⟨rfl, hZ, hh⟩ := hP
  have hx := Bd.exec
  have hby := Bd.bytes
  have hml : c.maxLocals = 1 := hml0
  have hown : s.vm.findClass "com/example/serigraph/serigraph/history/Schedule$Action" = some m.cls := findClass_of_methodNamed Bd.named
  have hnm := (name_of_methodNamed Bd.named Bd.method).1
  have X0 : Stand p l e ({ frames := 0, cells := 0, slots := 0, locals := 0 } : Room) s m #[(.ref a1)] below meth c s₁ [] 0 0 := Stand.of_body Bd
  have e0 : s₁.heap = h0 := by rw [← hh, Bd.state]; rfl
  have N0 := Fr.nil n0
  have pre0 : ∀ t, Steps p.tables e below (s₁.setTop (mkF m 0 #[.val (.ref a1)] [])) t → Steps p.tables e below (s₁.setTop (entryFrame m #[(.ref a1)] 1)) t := fun t k => castTop (ef_rm2r m (a1)) k
  obtain ⟨T1, X1, e1, st1⟩ := getF X0 hx hZ hown (host := "") (Or.inl (hw _ (List.mem_of_getElem? (i := 13) rfl))) Via.refl e0 FO (g := (mkF m 1 #[.val (.ref a1)] [(.ref a1)])) rfl rfl (hb hby d2_1)
  obtain ⟨fs, hr, hrun, hended, hW, hsame⟩ := X1.leave (v := some (.int (0 : Int32))) (fun h => by rw [Bd.returns] at h; cases h)
  refine ⟨_, _, pre0 _ ?_, hrun, hended, _, _, rfl, ?_, ⟨_, rfl⟩, hW, hsame.mono (by decide) (by decide)⟩
  · show Steps p.tables e below (s₁.setTop (mkF m 0 #[.val (.ref a1)] [])) _
    refine XS.aloadN X0.here hx rfl (hb hby d2_0) rfl rfl ?_
    show Steps p.tables e below (s₁.setTop (mkF m 1 #[.val (.ref a1)] [(.ref a1)])) _
    refine st1 _ ?_
    show Steps p.tables e below (T1.setTop (mkF m 4 #[.val (.ref a1)] [(.ref b1)])) _
    refine XS.ifnonnullYes X1.here hx rfl (pc0 := 4) (pc' := 11) rfl (hb hby d2_4) rfl (by decide) (by decide) ?_
    show Steps p.tables e below (T1.setTop (mkF m 11 #[.val (.ref a1)] [])) _
    refine XS.iconst X1.here hx rfl (hb hby d2_11) ?_
    show Steps p.tables e below (T1.setTop (mkF m 12 #[.val (.ref a1)] [(.int (0 : Int32))])) _
    exact retN X1 hx (t := .boolean) Bd.returns (by simp) (hb hby d2_12) hr
  · show Q_rm2r Z a1 b1 h0 n0 _ T1.heap _
    rw [e1]
    exact ⟨rfl, N0, rfl⟩
theorem pd_0 : parseMethodDescriptor "(I)Lcom/example/serigraph/serigraph/history/Schedule$Action;" = some ⟨[.int], some (.object "com/example/serigraph/serigraph/history/Schedule$Action")⟩ := by decide +kernel
theorem pd_1 : parseMethodDescriptor "()Z" = some ⟨[], some .boolean⟩ := by decide +kernel
theorem ef_rm0 (m : MethodId) (x0 : Int32) : entryFrame m #[(.int x0)] maxLocals = mkF m 0 #[.val (.int x0), .unset, .unset, .unset] [] := by first | (simp [entryFrame, mkF, argsToLocals, Value.category, maxLocals]; done) | rfl
def Q_rm0 (Z : State) (p0 : Int32) (w_SHARED : Addr) (w_READ : Addr) (w_Action_READ : Addr) (w_COMMIT : Addr) (w_Action_COMMIT : Addr) (w_ABORT : Addr) (w_Action_ABORT : Addr) (w_WRITE : Addr) (w_Action_WRITE : Addr) (w_UNLOCK : Addr) (w_EXCLUSIVE : Addr) (h0 : Heap) (n0 : Nat) (v : Option Value) (h : Heap) (L : List Loc) : Prop := v = some (.int (1 : Int32)) ∧ Fr n0 L ∧ h = h0
set_option maxRecDepth 65536 in
set_option maxHeartbeats 40000000 in
theorem rm0 (l : Launch) (Z : State) (a0 : Array Value) (hw : ∀ d ∈ tables_1, d.before a0 Z = true) (ws : List Jvm.Cond) (p0 : Int32) (w_SHARED : Addr) (w_READ : Addr) (w_Action_READ : Addr) (w_COMMIT : Addr) (w_Action_COMMIT : Addr) (w_ABORT : Addr) (w_Action_ABORT : Addr) (w_WRITE : Addr) (w_Action_WRITE : Addr) (w_UNLOCK : Addr) (w_EXCLUSIVE : Addr) (h0 : Heap) (n0 : Nat) (Z0 : n0 ≤ h0.size) (WD : World Z h0 w_SHARED w_READ w_Action_READ w_COMMIT w_Action_COMMIT w_ABORT w_Action_ABORT w_WRITE w_Action_WRITE w_UNLOCK w_EXCLUSIVE) :
    MetFree l x (head1 (Jvm.Cond.code x code maxLocals ret :: ws) room_1) (fun a U => a = #[(.int p0)] ∧ Z.Warmed39 U.vm ∧ U.heap = h0) (fun _ _ _ _ _ => True) (fun _ U o U' => ∃ v L, o = .returned v ∧ Q_rm0 Z p0 w_SHARED w_READ w_Action_READ w_COMMIT w_Action_COMMIT w_ABORT w_Action_ABORT w_WRITE w_Action_WRITE w_UNLOCK w_EXCLUSIVE h0 n0 v U'.heap L ∧ FrameEnd U o U' L room_1.cells room_1.slots) := by
  refine MetFree.of_bodySF (plainFor_of_name pn_0) hisR ?_
  intro p e s m args below meth c s₁ Bd hml0 hP hK
  obtain ⟨rfl, hZ, hh⟩ := hP
  have hx := Bd.exec
  have hby := Bd.bytes
  have hml : c.maxLocals = 4 := hml0
  have hown : s.vm.findClass "com/example/serigraph/serigraph/history/ActionIsLockStepPinLaw" = some m.cls := findClass_of_methodNamed Bd.named
  have hnm := (name_of_methodNamed Bd.named Bd.method).1
  have X0 : Stand p l e room_1 s m #[(.int p0)] below meth c s₁ [] 0 0 := Stand.of_body Bd
  have e0 : s₁.heap = h0 := by rw [← hh, Bd.state]; rfl
  have N0 := Fr.nil n0
  have pre0 : ∀ t, Steps p.tables e below (s₁.setTop (mkF m 0 #[.val (.int p0), .unset, .unset, .unset] [])) t → Steps p.tables e below (s₁.setTop (entryFrame m #[(.int p0)] maxLocals)) t := fun t k => castTop (ef_rm0 m (p0)) k
  obtain ⟨S_SHARED, E_SHARED, F_SHARED_operation, S_READ, E_READ, S_Action_READ, E_Action_READ, F_READ_operation, S_COMMIT, E_COMMIT, S_Action_COMMIT, E_Action_COMMIT, F_COMMIT_operation, S_ABORT, E_ABORT, S_Action_ABORT, E_Action_ABORT, F_ABORT_operation, S_WRITE, E_WRITE, S_Action_WRITE, E_Action_WRITE, F_WRITE_operation, S_UNLOCK, E_UNLOCK, F_UNLOCK_operation, S_EXCLUSIVE, E_EXCLUSIVE, F_EXCLUSIVE_operation⟩ := id WD
  obtain ⟨_, _, ⟨T1, L1, k1, n1⟩, -, X1, ⟨Lc1, hQ1, l1, y1, z1⟩, st1⟩ := Jvm.LawKit.callS X0 hx (y := (⟨"com/example/serigraph/serigraph/history/ActionIsLockStepPinLaw", "pick", "(I)Lcom/example/serigraph/serigraph/history/Schedule$Action;"⟩ : MethodName)) hown (mvT hZ (hw _ (List.mem_of_getElem? (i := 1) rfl))) (mvT hZ (hw _ (List.mem_of_getElem? (i := 2) rfl))) (mvT hZ (hw _ (List.mem_of_getElem? (i := 3) rfl))) (mvT hZ (hw _ (List.mem_of_getElem? (i := 4) rfl))) (by decide) (backOf (W := 0) (rm1 l Z a0 hw [] ((p0 &&& (2147483647 : Int32)) % (7 : Int32)) w_SHARED w_READ w_Action_READ w_COMMIT w_Action_COMMIT w_ABORT w_Action_ABORT w_WRITE w_Action_WRITE w_UNLOCK w_EXCLUSIVE h0 n0 Z0 WD) hZ (hw _ (List.mem_of_getElem? (i := 4) rfl)) (hw _ (List.mem_of_getElem? (i := 3) rfl)) (by decide) (by decide)) (g := (mkF m 9 #[.val (.int p0), .val (.int ((p0 &&& (2147483647 : Int32)) % (7 : Int32))), .unset, .unset] [(.int ((p0 &&& (2147483647 : Int32)) % (7 : Int32)))])) rfl (by rw [hml]; rfl) (argsL := [(.int ((p0 &&& (2147483647 : Int32)) % (7 : Int32)))]) (rest := []) (lenOf pd_0 rfl) rfl (by show 2 * 0 + _ ≤ _; exact Nat.le_of_eq rfl) (hb hby at_9) (fun _ _ => ⟨rfl, e0, (by decide : 0 + 0 ≤ _), (by decide : 0 + 0 ≤ _)⟩)
  dsimp only [Pt.U, Pt.locs, Pt.cells, Pt.slots] at X1 l1 y1 z1 st1 hQ1
  subst l1 y1 z1
  obtain ⟨rfl, N1q, e1⟩ := hQ1
  have N1 := Fr.app N0 N1q
  by_cases hc2 : ((p0 &&& (2147483647 : Int32)) % (7 : Int32)) = (0 : Int32)
  · obtain ⟨cq3, kq3, q3a, q3b, q3c⟩ := isOf hZ e1 (own_exa WD ((p0 &&& (2147483647 : Int32)) % (7 : Int32)))
    obtain ⟨_, _, ⟨T3, L3, k3, n3⟩, -, X3, ⟨Lc3, hQ3, l3, y3, z3⟩, st3⟩ := X1.virtualBack hx (y := (⟨"com/example/serigraph/serigraph/history/Schedule$Action", "isLockStep", "()Z"⟩ : MethodName)) (z := (⟨"com/example/serigraph/serigraph/history/Schedule$Action", "isLockStep", "()Z"⟩ : MethodName)) hown (mvT hZ (hw _ (List.mem_of_getElem? (i := 8) rfl))) (mvT hZ (hw _ (List.mem_of_getElem? (i := 9) rfl))) (notFace_of_selects (args := #[]) (mvT hZ (hw _ (List.mem_of_getElem? (i := 11) rfl)))) (mvT hZ (hw _ (List.mem_of_getElem? (i := 11) rfl))) (mvT hZ (hw _ (List.mem_of_getElem? (i := 10) rfl))) (by decide) (backOf (W := 0) (rm2n l Z a0 hw [] (own_pick ((p0 &&& (2147483647 : Int32)) % (7 : Int32)) w_SHARED w_READ w_Action_READ w_COMMIT w_Action_COMMIT w_ABORT w_Action_ABORT w_WRITE w_Action_WRITE w_UNLOCK w_EXCLUSIVE) h0 n0 Z0 (own_FN WD _ (Or.inl hc2))) hZ (hw _ (List.mem_of_getElem? (i := 12) rfl)) (hw _ (List.mem_of_getElem? (i := 6) rfl)) (by decide) (by decide)) q3a q3c (g := (mkF m 34 #[.val (.int p0), .val (.int ((p0 &&& (2147483647 : Int32)) % (7 : Int32))), .val (.ref (own_pick ((p0 &&& (2147483647 : Int32)) % (7 : Int32)) w_SHARED w_READ w_Action_READ w_COMMIT w_Action_COMMIT w_ABORT w_Action_ABORT w_WRITE w_Action_WRITE w_UNLOCK w_EXCLUSIVE)), .val (.int (1 : Int32))] [(.ref (own_pick ((p0 &&& (2147483647 : Int32)) % (7 : Int32)) w_SHARED w_READ w_Action_READ w_COMMIT w_Action_COMMIT w_ABORT w_Action_ABORT w_WRITE w_Action_WRITE w_UNLOCK w_EXCLUSIVE))])) rfl (by rw [hml]; rfl) (Steps.refl _) (argsL := []) (rest := []) (lenOf pd_1 rfl) rfl (by show 2 * 0 + _ ≤ _; exact Nat.le_of_eq rfl) (hb hby at_34) (fun _ _ => ⟨rfl, e1, (by decide : 0 + 0 ≤ _), (by decide : 0 + 0 ≤ _)⟩)
    dsimp only [Pt.U, Pt.locs, Pt.cells, Pt.slots] at X3 l3 y3 z3 st3 hQ3
    subst l3 y3 z3
    obtain ⟨rfl, N3q, e3⟩ := hQ3
    have N3 := Fr.app N1 N3q
    obtain ⟨fs, hr, hrun, hended, hW, hsame⟩ := X3.leave (v := some (.int (1 : Int32))) (fun h => by rw [Bd.returns] at h; cases h)
    refine ⟨_, _, pre0 _ ?_, hrun, hended, _, _, rfl, ?_, ⟨_, rfl⟩, hW, hsame.mono (by decide) (by decide)⟩
    · show Steps p.tables e below (s₁.setTop (mkF m 0 #[.val (.int p0), .unset, .unset, .unset] [])) _
      refine XS.iloadN X0.here hx rfl (hb hby at_0) rfl ?_
      show Steps p.tables e below (s₁.setTop (mkF m 1 #[.val (.int p0), .unset, .unset, .unset] [(.int p0)])) _
      refine X0.ldcInt hx hown (mvT hZ (hw _ (List.mem_of_getElem? (i := 0) rfl))) (g := (mkF m 1 #[.val (.int p0), .unset, .unset, .unset] [(.int p0)])) rfl (hb hby at_1) _ ?_
      show Steps p.tables e below (s₁.setTop (mkF m 3 #[.val (.int p0), .unset, .unset, .unset] [(.int (2147483647 : Int32)), (.int p0)])) _
      refine XS.iand X0.here hx rfl (hb hby at_3) rfl ?_
      show Steps p.tables e below (s₁.setTop (mkF m 4 #[.val (.int p0), .unset, .unset, .unset] [(.int (p0 &&& (2147483647 : Int32)))])) _
      refine XS.bipush X0.here hx rfl (hb hby at_4) ?_
      show Steps p.tables e below (s₁.setTop (mkF m 6 #[.val (.int p0), .unset, .unset, .unset] [(.int (7 : Int32)), (.int (p0 &&& (2147483647 : Int32)))])) _
      refine iremM (g := (mkF m 6 #[.val (.int p0), .unset, .unset, .unset] [(.int (7 : Int32)), (.int (p0 &&& (2147483647 : Int32)))])) X0 hx rfl (hb hby at_6) rfl (by decide) ?_
      show Steps p.tables e below (s₁.setTop (mkF m 7 #[.val (.int p0), .unset, .unset, .unset] [(.int ((p0 &&& (2147483647 : Int32)) % (7 : Int32)))])) _
      refine XS.istoreN X0.here hx rfl (hb hby at_7) rfl (l' := #[.val (.int p0), .val (.int ((p0 &&& (2147483647 : Int32)) % (7 : Int32))), .unset, .unset]) rfl ?_
      show Steps p.tables e below (s₁.setTop (mkF m 8 #[.val (.int p0), .val (.int ((p0 &&& (2147483647 : Int32)) % (7 : Int32))), .unset, .unset] [])) _
      refine XS.iloadN X0.here hx rfl (hb hby at_8) rfl ?_
      show Steps p.tables e below (s₁.setTop (mkF m 9 #[.val (.int p0), .val (.int ((p0 &&& (2147483647 : Int32)) % (7 : Int32))), .unset, .unset] [(.int ((p0 &&& (2147483647 : Int32)) % (7 : Int32)))])) _
      refine st1 _ ?_
      show Steps p.tables e below (T1.setTop (mkF m 12 #[.val (.int p0), .val (.int ((p0 &&& (2147483647 : Int32)) % (7 : Int32))), .unset, .unset] [(.ref (own_pick ((p0 &&& (2147483647 : Int32)) % (7 : Int32)) w_SHARED w_READ w_Action_READ w_COMMIT w_Action_COMMIT w_ABORT w_Action_ABORT w_WRITE w_Action_WRITE w_UNLOCK w_EXCLUSIVE))])) _
      refine XS.astoreN X1.here hx rfl (hb hby at_12) rfl rfl (l' := #[.val (.int p0), .val (.int ((p0 &&& (2147483647 : Int32)) % (7 : Int32))), .val (.ref (own_pick ((p0 &&& (2147483647 : Int32)) % (7 : Int32)) w_SHARED w_READ w_Action_READ w_COMMIT w_Action_COMMIT w_ABORT w_Action_ABORT w_WRITE w_Action_WRITE w_UNLOCK w_EXCLUSIVE)), .unset]) rfl ?_
      show Steps p.tables e below (T1.setTop (mkF m 13 #[.val (.int p0), .val (.int ((p0 &&& (2147483647 : Int32)) % (7 : Int32))), .val (.ref (own_pick ((p0 &&& (2147483647 : Int32)) % (7 : Int32)) w_SHARED w_READ w_Action_READ w_COMMIT w_Action_COMMIT w_ABORT w_Action_ABORT w_WRITE w_Action_WRITE w_UNLOCK w_EXCLUSIVE)), .unset] [])) _
      refine XS.iloadN X1.here hx rfl (hb hby at_13) rfl ?_
      show Steps p.tables e below (T1.setTop (mkF m 14 #[.val (.int p0), .val (.int ((p0 &&& (2147483647 : Int32)) % (7 : Int32))), .val (.ref (own_pick ((p0 &&& (2147483647 : Int32)) % (7 : Int32)) w_SHARED w_READ w_Action_READ w_COMMIT w_Action_COMMIT w_ABORT w_Action_ABORT w_WRITE w_Action_WRITE w_UNLOCK w_EXCLUSIVE)), .unset] [(.int ((p0 &&& (2147483647 : Int32)) % (7 : Int32)))])) _
      refine XS.ifYes X1.here hx rfl (pc0 := 14) (pc' := 27) rfl (hb hby at_14) rfl ((if0 _ _).trans (teq hc2).1) (by decide) (by decide) ?_
      show Steps p.tables e below (T1.setTop (mkF m 27 #[.val (.int p0), .val (.int ((p0 &&& (2147483647 : Int32)) % (7 : Int32))), .val (.ref (own_pick ((p0 &&& (2147483647 : Int32)) % (7 : Int32)) w_SHARED w_READ w_Action_READ w_COMMIT w_Action_COMMIT w_ABORT w_Action_ABORT w_WRITE w_Action_WRITE w_UNLOCK w_EXCLUSIVE)), .unset] [])) _
      refine XS.iconst X1.here hx rfl (hb hby at_27) ?_
      show Steps p.tables e below (T1.setTop (mkF m 28 #[.val (.int p0), .val (.int ((p0 &&& (2147483647 : Int32)) % (7 : Int32))), .val (.ref (own_pick ((p0 &&& (2147483647 : Int32)) % (7 : Int32)) w_SHARED w_READ w_Action_READ w_COMMIT w_Action_COMMIT w_ABORT w_Action_ABORT w_WRITE w_Action_WRITE w_UNLOCK w_EXCLUSIVE)), .unset] [(.int (1 : Int32))])) _
      refine XS.goto X1.here hx rfl (pc0 := 28) (pc' := 32) rfl (hb hby at_28) (by decide) (by decide) ?_
      show Steps p.tables e below (T1.setTop (mkF m 32 #[.val (.int p0), .val (.int ((p0 &&& (2147483647 : Int32)) % (7 : Int32))), .val (.ref (own_pick ((p0 &&& (2147483647 : Int32)) % (7 : Int32)) w_SHARED w_READ w_Action_READ w_COMMIT w_Action_COMMIT w_ABORT w_Action_ABORT w_WRITE w_Action_WRITE w_UNLOCK w_EXCLUSIVE)), .unset] [(.int (1 : Int32))])) _
      refine XS.istoreN X1.here hx rfl (hb hby at_32) rfl (l' := #[.val (.int p0), .val (.int ((p0 &&& (2147483647 : Int32)) % (7 : Int32))), .val (.ref (own_pick ((p0 &&& (2147483647 : Int32)) % (7 : Int32)) w_SHARED w_READ w_Action_READ w_COMMIT w_Action_COMMIT w_ABORT w_Action_ABORT w_WRITE w_Action_WRITE w_UNLOCK w_EXCLUSIVE)), .val (.int (1 : Int32))]) rfl ?_
      show Steps p.tables e below (T1.setTop (mkF m 33 #[.val (.int p0), .val (.int ((p0 &&& (2147483647 : Int32)) % (7 : Int32))), .val (.ref (own_pick ((p0 &&& (2147483647 : Int32)) % (7 : Int32)) w_SHARED w_READ w_Action_READ w_COMMIT w_Action_COMMIT w_ABORT w_Action_ABORT w_WRITE w_Action_WRITE w_UNLOCK w_EXCLUSIVE)), .val (.int (1 : Int32))] [])) _
      refine XS.aloadN X1.here hx rfl (hb hby at_33) rfl rfl ?_
      show Steps p.tables e below (T1.setTop (mkF m 34 #[.val (.int p0), .val (.int ((p0 &&& (2147483647 : Int32)) % (7 : Int32))), .val (.ref (own_pick ((p0 &&& (2147483647 : Int32)) % (7 : Int32)) w_SHARED w_READ w_Action_READ w_COMMIT w_Action_COMMIT w_ABORT w_Action_ABORT w_WRITE w_Action_WRITE w_UNLOCK w_EXCLUSIVE)), .val (.int (1 : Int32))] [(.ref (own_pick ((p0 &&& (2147483647 : Int32)) % (7 : Int32)) w_SHARED w_READ w_Action_READ w_COMMIT w_Action_COMMIT w_ABORT w_Action_ABORT w_WRITE w_Action_WRITE w_UNLOCK w_EXCLUSIVE))])) _
      refine st3.trans ?_
      show Steps p.tables e below (T3.setTop (mkF m 37 #[.val (.int p0), .val (.int ((p0 &&& (2147483647 : Int32)) % (7 : Int32))), .val (.ref (own_pick ((p0 &&& (2147483647 : Int32)) % (7 : Int32)) w_SHARED w_READ w_Action_READ w_COMMIT w_Action_COMMIT w_ABORT w_Action_ABORT w_WRITE w_Action_WRITE w_UNLOCK w_EXCLUSIVE)), .val (.int (1 : Int32))] [(.int (1 : Int32))])) _
      refine XS.iloadN X3.here hx rfl (hb hby at_37) rfl ?_
      show Steps p.tables e below (T3.setTop (mkF m 38 #[.val (.int p0), .val (.int ((p0 &&& (2147483647 : Int32)) % (7 : Int32))), .val (.ref (own_pick ((p0 &&& (2147483647 : Int32)) % (7 : Int32)) w_SHARED w_READ w_Action_READ w_COMMIT w_Action_COMMIT w_ABORT w_Action_ABORT w_WRITE w_Action_WRITE w_UNLOCK w_EXCLUSIVE)), .val (.int (1 : Int32))] [(.int (1 : Int32)), (.int (1 : Int32))])) _
      refine XS.icmpNo X3.here hx rfl (hb hby at_38) rfl (teq (by decide : (1 : Int32) = (1 : Int32))).2 ?_
      show Steps p.tables e below (T3.setTop (mkF m 41 #[.val (.int p0), .val (.int ((p0 &&& (2147483647 : Int32)) % (7 : Int32))), .val (.ref (own_pick ((p0 &&& (2147483647 : Int32)) % (7 : Int32)) w_SHARED w_READ w_Action_READ w_COMMIT w_Action_COMMIT w_ABORT w_Action_ABORT w_WRITE w_Action_WRITE w_UNLOCK w_EXCLUSIVE)), .val (.int (1 : Int32))] [])) _
      refine XS.iconst X3.here hx rfl (hb hby at_41) ?_
      show Steps p.tables e below (T3.setTop (mkF m 42 #[.val (.int p0), .val (.int ((p0 &&& (2147483647 : Int32)) % (7 : Int32))), .val (.ref (own_pick ((p0 &&& (2147483647 : Int32)) % (7 : Int32)) w_SHARED w_READ w_Action_READ w_COMMIT w_Action_COMMIT w_ABORT w_Action_ABORT w_WRITE w_Action_WRITE w_UNLOCK w_EXCLUSIVE)), .val (.int (1 : Int32))] [(.int (1 : Int32))])) _
      refine XS.goto X3.here hx rfl (pc0 := 42) (pc' := 46) rfl (hb hby at_42) (by decide) (by decide) ?_
      show Steps p.tables e below (T3.setTop (mkF m 46 #[.val (.int p0), .val (.int ((p0 &&& (2147483647 : Int32)) % (7 : Int32))), .val (.ref (own_pick ((p0 &&& (2147483647 : Int32)) % (7 : Int32)) w_SHARED w_READ w_Action_READ w_COMMIT w_Action_COMMIT w_ABORT w_Action_ABORT w_WRITE w_Action_WRITE w_UNLOCK w_EXCLUSIVE)), .val (.int (1 : Int32))] [(.int (1 : Int32))])) _
      exact retN X3 hx (t := .boolean) Bd.returns (by simp) (hb hby at_46) hr
    · show Q_rm0 Z p0 w_SHARED w_READ w_Action_READ w_COMMIT w_Action_COMMIT w_ABORT w_Action_ABORT w_WRITE w_Action_WRITE w_UNLOCK w_EXCLUSIVE h0 n0 _ T3.heap _
      rw [e3]
      exact ⟨rfl, N3, rfl⟩
  · by_cases hc4 : ((p0 &&& (2147483647 : Int32)) % (7 : Int32)) = (1 : Int32)
    · obtain ⟨cq5, kq5, q5a, q5b, q5c⟩ := isOf hZ e1 (own_exa WD ((p0 &&& (2147483647 : Int32)) % (7 : Int32)))
      obtain ⟨_, _, ⟨T5, L5, k5, n5⟩, -, X5, ⟨Lc5, hQ5, l5, y5, z5⟩, st5⟩ := X1.virtualBack hx (y := (⟨"com/example/serigraph/serigraph/history/Schedule$Action", "isLockStep", "()Z"⟩ : MethodName)) (z := (⟨"com/example/serigraph/serigraph/history/Schedule$Action", "isLockStep", "()Z"⟩ : MethodName)) hown (mvT hZ (hw _ (List.mem_of_getElem? (i := 8) rfl))) (mvT hZ (hw _ (List.mem_of_getElem? (i := 9) rfl))) (notFace_of_selects (args := #[]) (mvT hZ (hw _ (List.mem_of_getElem? (i := 11) rfl)))) (mvT hZ (hw _ (List.mem_of_getElem? (i := 11) rfl))) (mvT hZ (hw _ (List.mem_of_getElem? (i := 10) rfl))) (by decide) (backOf (W := 0) (rm2n l Z a0 hw [] (own_pick ((p0 &&& (2147483647 : Int32)) % (7 : Int32)) w_SHARED w_READ w_Action_READ w_COMMIT w_Action_COMMIT w_ABORT w_Action_ABORT w_WRITE w_Action_WRITE w_UNLOCK w_EXCLUSIVE) h0 n0 Z0 (own_FN WD _ (Or.inr (Or.inl hc4)))) hZ (hw _ (List.mem_of_getElem? (i := 12) rfl)) (hw _ (List.mem_of_getElem? (i := 6) rfl)) (by decide) (by decide)) q5a q5c (g := (mkF m 34 #[.val (.int p0), .val (.int ((p0 &&& (2147483647 : Int32)) % (7 : Int32))), .val (.ref (own_pick ((p0 &&& (2147483647 : Int32)) % (7 : Int32)) w_SHARED w_READ w_Action_READ w_COMMIT w_Action_COMMIT w_ABORT w_Action_ABORT w_WRITE w_Action_WRITE w_UNLOCK w_EXCLUSIVE)), .val (.int (1 : Int32))] [(.ref (own_pick ((p0 &&& (2147483647 : Int32)) % (7 : Int32)) w_SHARED w_READ w_Action_READ w_COMMIT w_Action_COMMIT w_ABORT w_Action_ABORT w_WRITE w_Action_WRITE w_UNLOCK w_EXCLUSIVE))])) rfl (by rw [hml]; rfl) (Steps.refl _) (argsL := []) (rest := []) (lenOf pd_1 rfl) rfl (by show 2 * 0 + _ ≤ _; exact Nat.le_of_eq rfl) (hb hby at_34) (fun _ _ => ⟨rfl, e1, (by decide : 0 + 0 ≤ _), (by decide : 0 + 0 ≤ _)⟩)
      dsimp only [Pt.U, Pt.locs, Pt.cells, Pt.slots] at X5 l5 y5 z5 st5 hQ5
      subst l5 y5 z5
      obtain ⟨rfl, N5q, e5⟩ := hQ5
      have N5 := Fr.app N1 N5q
      obtain ⟨fs, hr, hrun, hended, hW, hsame⟩ := X5.leave (v := some (.int (1 : Int32))) (fun h => by rw [Bd.returns] at h; cases h)
      refine ⟨_, _, pre0 _ ?_, hrun, hended, _, _, rfl, ?_, ⟨_, rfl⟩, hW, hsame.mono (by decide) (by decide)⟩
      · show Steps p.tables e below (s₁.setTop (mkF m 0 #[.val (.int p0), .unset, .unset, .unset] [])) _
        refine XS.iloadN X0.here hx rfl (hb hby at_0) rfl ?_
        show Steps p.tables e below (s₁.setTop (mkF m 1 #[.val (.int p0), .unset, .unset, .unset] [(.int p0)])) _
        refine X0.ldcInt hx hown (mvT hZ (hw _ (List.mem_of_getElem? (i := 0) rfl))) (g := (mkF m 1 #[.val (.int p0), .unset, .unset, .unset] [(.int p0)])) rfl (hb hby at_1) _ ?_
        show Steps p.tables e below (s₁.setTop (mkF m 3 #[.val (.int p0), .unset, .unset, .unset] [(.int (2147483647 : Int32)), (.int p0)])) _
        refine XS.iand X0.here hx rfl (hb hby at_3) rfl ?_
        show Steps p.tables e below (s₁.setTop (mkF m 4 #[.val (.int p0), .unset, .unset, .unset] [(.int (p0 &&& (2147483647 : Int32)))])) _
        refine XS.bipush X0.here hx rfl (hb hby at_4) ?_
        show Steps p.tables e below (s₁.setTop (mkF m 6 #[.val (.int p0), .unset, .unset, .unset] [(.int (7 : Int32)), (.int (p0 &&& (2147483647 : Int32)))])) _
        refine iremM (g := (mkF m 6 #[.val (.int p0), .unset, .unset, .unset] [(.int (7 : Int32)), (.int (p0 &&& (2147483647 : Int32)))])) X0 hx rfl (hb hby at_6) rfl (by decide) ?_
        show Steps p.tables e below (s₁.setTop (mkF m 7 #[.val (.int p0), .unset, .unset, .unset] [(.int ((p0 &&& (2147483647 : Int32)) % (7 : Int32)))])) _
        refine XS.istoreN X0.here hx rfl (hb hby at_7) rfl (l' := #[.val (.int p0), .val (.int ((p0 &&& (2147483647 : Int32)) % (7 : Int32))), .unset, .unset]) rfl ?_
        show Steps p.tables e below (s₁.setTop (mkF m 8 #[.val (.int p0), .val (.int ((p0 &&& (2147483647 : Int32)) % (7 : Int32))), .unset, .unset] [])) _
        refine XS.iloadN X0.here hx rfl (hb hby at_8) rfl ?_
        show Steps p.tables e below (s₁.setTop (mkF m 9 #[.val (.int p0), .val (.int ((p0 &&& (2147483647 : Int32)) % (7 : Int32))), .unset, .unset] [(.int ((p0 &&& (2147483647 : Int32)) % (7 : Int32)))])) _
        refine st1 _ ?_
        show Steps p.tables e below (T1.setTop (mkF m 12 #[.val (.int p0), .val (.int ((p0 &&& (2147483647 : Int32)) % (7 : Int32))), .unset, .unset] [(.ref (own_pick ((p0 &&& (2147483647 : Int32)) % (7 : Int32)) w_SHARED w_READ w_Action_READ w_COMMIT w_Action_COMMIT w_ABORT w_Action_ABORT w_WRITE w_Action_WRITE w_UNLOCK w_EXCLUSIVE))])) _
        refine XS.astoreN X1.here hx rfl (hb hby at_12) rfl rfl (l' := #[.val (.int p0), .val (.int ((p0 &&& (2147483647 : Int32)) % (7 : Int32))), .val (.ref (own_pick ((p0 &&& (2147483647 : Int32)) % (7 : Int32)) w_SHARED w_READ w_Action_READ w_COMMIT w_Action_COMMIT w_ABORT w_Action_ABORT w_WRITE w_Action_WRITE w_UNLOCK w_EXCLUSIVE)), .unset]) rfl ?_
        show Steps p.tables e below (T1.setTop (mkF m 13 #[.val (.int p0), .val (.int ((p0 &&& (2147483647 : Int32)) % (7 : Int32))), .val (.ref (own_pick ((p0 &&& (2147483647 : Int32)) % (7 : Int32)) w_SHARED w_READ w_Action_READ w_COMMIT w_Action_COMMIT w_ABORT w_Action_ABORT w_WRITE w_Action_WRITE w_UNLOCK w_EXCLUSIVE)), .unset] [])) _
        refine XS.iloadN X1.here hx rfl (hb hby at_13) rfl ?_
        show Steps p.tables e below (T1.setTop (mkF m 14 #[.val (.int p0), .val (.int ((p0 &&& (2147483647 : Int32)) % (7 : Int32))), .val (.ref (own_pick ((p0 &&& (2147483647 : Int32)) % (7 : Int32)) w_SHARED w_READ w_Action_READ w_COMMIT w_Action_COMMIT w_ABORT w_Action_ABORT w_WRITE w_Action_WRITE w_UNLOCK w_EXCLUSIVE)), .unset] [(.int ((p0 &&& (2147483647 : Int32)) % (7 : Int32)))])) _
        refine XS.ifNo X1.here hx rfl (hb hby at_14) rfl ((if0 _ _).trans (feq hc2).1) ?_
        show Steps p.tables e below (T1.setTop (mkF m 17 #[.val (.int p0), .val (.int ((p0 &&& (2147483647 : Int32)) % (7 : Int32))), .val (.ref (own_pick ((p0 &&& (2147483647 : Int32)) % (7 : Int32)) w_SHARED w_READ w_Action_READ w_COMMIT w_Action_COMMIT w_ABORT w_Action_ABORT w_WRITE w_Action_WRITE w_UNLOCK w_EXCLUSIVE)), .unset] [])) _
        refine XS.iloadN X1.here hx rfl (hb hby at_17) rfl ?_
        show Steps p.tables e below (T1.setTop (mkF m 18 #[.val (.int p0), .val (.int ((p0 &&& (2147483647 : Int32)) % (7 : Int32))), .val (.ref (own_pick ((p0 &&& (2147483647 : Int32)) % (7 : Int32)) w_SHARED w_READ w_Action_READ w_COMMIT w_Action_COMMIT w_ABORT w_Action_ABORT w_WRITE w_Action_WRITE w_UNLOCK w_EXCLUSIVE)), .unset] [(.int ((p0 &&& (2147483647 : Int32)) % (7 : Int32)))])) _
        refine XS.iconst X1.here hx rfl (hb hby at_18) ?_
        show Steps p.tables e below (T1.setTop (mkF m 19 #[.val (.int p0), .val (.int ((p0 &&& (2147483647 : Int32)) % (7 : Int32))), .val (.ref (own_pick ((p0 &&& (2147483647 : Int32)) % (7 : Int32)) w_SHARED w_READ w_Action_READ w_COMMIT w_Action_COMMIT w_ABORT w_Action_ABORT w_WRITE w_Action_WRITE w_UNLOCK w_EXCLUSIVE)), .unset] [(.int (1 : Int32)), (.int ((p0 &&& (2147483647 : Int32)) % (7 : Int32)))])) _
        refine XS.icmpYes X1.here hx rfl (pc0 := 19) (pc' := 27) rfl (hb hby at_19) rfl (teq hc4).1 (by decide) (by decide) ?_
        show Steps p.tables e below (T1.setTop (mkF m 27 #[.val (.int p0), .val (.int ((p0 &&& (2147483647 : Int32)) % (7 : Int32))), .val (.ref (own_pick ((p0 &&& (2147483647 : Int32)) % (7 : Int32)) w_SHARED w_READ w_Action_READ w_COMMIT w_Action_COMMIT w_ABORT w_Action_ABORT w_WRITE w_Action_WRITE w_UNLOCK w_EXCLUSIVE)), .unset] [])) _
        refine XS.iconst X1.here hx rfl (hb hby at_27) ?_
        show Steps p.tables e below (T1.setTop (mkF m 28 #[.val (.int p0), .val (.int ((p0 &&& (2147483647 : Int32)) % (7 : Int32))), .val (.ref (own_pick ((p0 &&& (2147483647 : Int32)) % (7 : Int32)) w_SHARED w_READ w_Action_READ w_COMMIT w_Action_COMMIT w_ABORT w_Action_ABORT w_WRITE w_Action_WRITE w_UNLOCK w_EXCLUSIVE)), .unset] [(.int (1 : Int32))])) _
        refine XS.goto X1.here hx rfl (pc0 := 28) (pc' := 32) rfl (hb hby at_28) (by decide) (by decide) ?_
        show Steps p.tables e below (T1.setTop (mkF m 32 #[.val (.int p0), .val (.int ((p0 &&& (2147483647 : Int32)) % (7 : Int32))), .val (.ref (own_pick ((p0 &&& (2147483647 : Int32)) % (7 : Int32)) w_SHARED w_READ w_Action_READ w_COMMIT w_Action_COMMIT w_ABORT w_Action_ABORT w_WRITE w_Action_WRITE w_UNLOCK w_EXCLUSIVE)), .unset] [(.int (1 : Int32))])) _
        refine XS.istoreN X1.here hx rfl (hb hby at_32) rfl (l' := #[.val (.int p0), .val (.int ((p0 &&& (2147483647 : Int32)) % (7 : Int32))), .val (.ref (own_pick ((p0 &&& (2147483647 : Int32)) % (7 : Int32)) w_SHARED w_READ w_Action_READ w_COMMIT w_Action_COMMIT w_ABORT w_Action_ABORT w_WRITE w_Action_WRITE w_UNLOCK w_EXCLUSIVE)), .val (.int (1 : Int32))]) rfl ?_
        show Steps p.tables e below (T1.setTop (mkF m 33 #[.val (.int p0), .val (.int ((p0 &&& (2147483647 : Int32)) % (7 : Int32))), .val (.ref (own_pick ((p0 &&& (2147483647 : Int32)) % (7 : Int32)) w_SHARED w_READ w_Action_READ w_COMMIT w_Action_COMMIT w_ABORT w_Action_ABORT w_WRITE w_Action_WRITE w_UNLOCK w_EXCLUSIVE)), .val (.int (1 : Int32))] [])) _
        refine XS.aloadN X1.here hx rfl (hb hby at_33) rfl rfl ?_
        show Steps p.tables e below (T1.setTop (mkF m 34 #[.val (.int p0), .val (.int ((p0 &&& (2147483647 : Int32)) % (7 : Int32))), .val (.ref (own_pick ((p0 &&& (2147483647 : Int32)) % (7 : Int32)) w_SHARED w_READ w_Action_READ w_COMMIT w_Action_COMMIT w_ABORT w_Action_ABORT w_WRITE w_Action_WRITE w_UNLOCK w_EXCLUSIVE)), .val (.int (1 : Int32))] [(.ref (own_pick ((p0 &&& (2147483647 : Int32)) % (7 : Int32)) w_SHARED w_READ w_Action_READ w_COMMIT w_Action_COMMIT w_ABORT w_Action_ABORT w_WRITE w_Action_WRITE w_UNLOCK w_EXCLUSIVE))])) _
        refine st5.trans ?_
        show Steps p.tables e below (T5.setTop (mkF m 37 #[.val (.int p0), .val (.int ((p0 &&& (2147483647 : Int32)) % (7 : Int32))), .val (.ref (own_pick ((p0 &&& (2147483647 : Int32)) % (7 : Int32)) w_SHARED w_READ w_Action_READ w_COMMIT w_Action_COMMIT w_ABORT w_Action_ABORT w_WRITE w_Action_WRITE w_UNLOCK w_EXCLUSIVE)), .val (.int (1 : Int32))] [(.int (1 : Int32))])) _
        refine XS.iloadN X5.here hx rfl (hb hby at_37) rfl ?_
        show Steps p.tables e below (T5.setTop (mkF m 38 #[.val (.int p0), .val (.int ((p0 &&& (2147483647 : Int32)) % (7 : Int32))), .val (.ref (own_pick ((p0 &&& (2147483647 : Int32)) % (7 : Int32)) w_SHARED w_READ w_Action_READ w_COMMIT w_Action_COMMIT w_ABORT w_Action_ABORT w_WRITE w_Action_WRITE w_UNLOCK w_EXCLUSIVE)), .val (.int (1 : Int32))] [(.int (1 : Int32)), (.int (1 : Int32))])) _
        refine XS.icmpNo X5.here hx rfl (hb hby at_38) rfl (teq (by decide : (1 : Int32) = (1 : Int32))).2 ?_
        show Steps p.tables e below (T5.setTop (mkF m 41 #[.val (.int p0), .val (.int ((p0 &&& (2147483647 : Int32)) % (7 : Int32))), .val (.ref (own_pick ((p0 &&& (2147483647 : Int32)) % (7 : Int32)) w_SHARED w_READ w_Action_READ w_COMMIT w_Action_COMMIT w_ABORT w_Action_ABORT w_WRITE w_Action_WRITE w_UNLOCK w_EXCLUSIVE)), .val (.int (1 : Int32))] [])) _
        refine XS.iconst X5.here hx rfl (hb hby at_41) ?_
        show Steps p.tables e below (T5.setTop (mkF m 42 #[.val (.int p0), .val (.int ((p0 &&& (2147483647 : Int32)) % (7 : Int32))), .val (.ref (own_pick ((p0 &&& (2147483647 : Int32)) % (7 : Int32)) w_SHARED w_READ w_Action_READ w_COMMIT w_Action_COMMIT w_ABORT w_Action_ABORT w_WRITE w_Action_WRITE w_UNLOCK w_EXCLUSIVE)), .val (.int (1 : Int32))] [(.int (1 : Int32))])) _
        refine XS.goto X5.here hx rfl (pc0 := 42) (pc' := 46) rfl (hb hby at_42) (by decide) (by decide) ?_
        show Steps p.tables e below (T5.setTop (mkF m 46 #[.val (.int p0), .val (.int ((p0 &&& (2147483647 : Int32)) % (7 : Int32))), .val (.ref (own_pick ((p0 &&& (2147483647 : Int32)) % (7 : Int32)) w_SHARED w_READ w_Action_READ w_COMMIT w_Action_COMMIT w_ABORT w_Action_ABORT w_WRITE w_Action_WRITE w_UNLOCK w_EXCLUSIVE)), .val (.int (1 : Int32))] [(.int (1 : Int32))])) _
        exact retN X5 hx (t := .boolean) Bd.returns (by simp) (hb hby at_46) hr
      · show Q_rm0 Z p0 w_SHARED w_READ w_Action_READ w_COMMIT w_Action_COMMIT w_ABORT w_Action_ABORT w_WRITE w_Action_WRITE w_UNLOCK w_EXCLUSIVE h0 n0 _ T5.heap _
        rw [e5]
        exact ⟨rfl, N5, rfl⟩
    · by_cases hc6 : ((p0 &&& (2147483647 : Int32)) % (7 : Int32)) = (2 : Int32)
      · obtain ⟨cq7, kq7, q7a, q7b, q7c⟩ := isOf hZ e1 (own_exa WD ((p0 &&& (2147483647 : Int32)) % (7 : Int32)))
        obtain ⟨_, _, ⟨T7, L7, k7, n7⟩, -, X7, ⟨Lc7, hQ7, l7, y7, z7⟩, st7⟩ := X1.virtualBack hx (y := (⟨"com/example/serigraph/serigraph/history/Schedule$Action", "isLockStep", "()Z"⟩ : MethodName)) (z := (⟨"com/example/serigraph/serigraph/history/Schedule$Action", "isLockStep", "()Z"⟩ : MethodName)) hown (mvT hZ (hw _ (List.mem_of_getElem? (i := 8) rfl))) (mvT hZ (hw _ (List.mem_of_getElem? (i := 9) rfl))) (notFace_of_selects (args := #[]) (mvT hZ (hw _ (List.mem_of_getElem? (i := 11) rfl)))) (mvT hZ (hw _ (List.mem_of_getElem? (i := 11) rfl))) (mvT hZ (hw _ (List.mem_of_getElem? (i := 10) rfl))) (by decide) (backOf (W := 0) (rm2n l Z a0 hw [] (own_pick ((p0 &&& (2147483647 : Int32)) % (7 : Int32)) w_SHARED w_READ w_Action_READ w_COMMIT w_Action_COMMIT w_ABORT w_Action_ABORT w_WRITE w_Action_WRITE w_UNLOCK w_EXCLUSIVE) h0 n0 Z0 (own_FN WD _ (Or.inr (Or.inr hc6)))) hZ (hw _ (List.mem_of_getElem? (i := 12) rfl)) (hw _ (List.mem_of_getElem? (i := 6) rfl)) (by decide) (by decide)) q7a q7c (g := (mkF m 34 #[.val (.int p0), .val (.int ((p0 &&& (2147483647 : Int32)) % (7 : Int32))), .val (.ref (own_pick ((p0 &&& (2147483647 : Int32)) % (7 : Int32)) w_SHARED w_READ w_Action_READ w_COMMIT w_Action_COMMIT w_ABORT w_Action_ABORT w_WRITE w_Action_WRITE w_UNLOCK w_EXCLUSIVE)), .val (.int (1 : Int32))] [(.ref (own_pick ((p0 &&& (2147483647 : Int32)) % (7 : Int32)) w_SHARED w_READ w_Action_READ w_COMMIT w_Action_COMMIT w_ABORT w_Action_ABORT w_WRITE w_Action_WRITE w_UNLOCK w_EXCLUSIVE))])) rfl (by rw [hml]; rfl) (Steps.refl _) (argsL := []) (rest := []) (lenOf pd_1 rfl) rfl (by show 2 * 0 + _ ≤ _; exact Nat.le_of_eq rfl) (hb hby at_34) (fun _ _ => ⟨rfl, e1, (by decide : 0 + 0 ≤ _), (by decide : 0 + 0 ≤ _)⟩)
        dsimp only [Pt.U, Pt.locs, Pt.cells, Pt.slots] at X7 l7 y7 z7 st7 hQ7
        subst l7 y7 z7
        obtain ⟨rfl, N7q, e7⟩ := hQ7
        have N7 := Fr.app N1 N7q
        obtain ⟨fs, hr, hrun, hended, hW, hsame⟩ := X7.leave (v := some (.int (1 : Int32))) (fun h => by rw [Bd.returns] at h; cases h)
        refine ⟨_, _, pre0 _ ?_, hrun, hended, _, _, rfl, ?_, ⟨_, rfl⟩, hW, hsame.mono (by decide) (by decide)⟩
        · show Steps p.tables e below (s₁.setTop (mkF m 0 #[.val (.int p0), .unset, .unset, .unset] [])) _
          refine XS.iloadN X0.here hx rfl (hb hby at_0) rfl ?_
          show Steps p.tables e below (s₁.setTop (mkF m 1 #[.val (.int p0), .unset, .unset, .unset] [(.int p0)])) _
          refine X0.ldcInt hx hown (mvT hZ (hw _ (List.mem_of_getElem? (i := 0) rfl))) (g := (mkF m 1 #[.val (.int p0), .unset, .unset, .unset] [(.int p0)])) rfl (hb hby at_1) _ ?_
          show Steps p.tables e below (s₁.setTop (mkF m 3 #[.val (.int p0), .unset, .unset, .unset] [(.int (2147483647 : Int32)), (.int p0)])) _
          refine XS.iand X0.here hx rfl (hb hby at_3) rfl ?_
          show Steps p.tables e below (s₁.setTop (mkF m 4 #[.val (.int p0), .unset, .unset, .unset] [(.int (p0 &&& (2147483647 : Int32)))])) _
          refine XS.bipush X0.here hx rfl (hb hby at_4) ?_
          show Steps p.tables e below (s₁.setTop (mkF m 6 #[.val (.int p0), .unset, .unset, .unset] [(.int (7 : Int32)), (.int (p0 &&& (2147483647 : Int32)))])) _
          refine iremM (g := (mkF m 6 #[.val (.int p0), .unset, .unset, .unset] [(.int (7 : Int32)), (.int (p0 &&& (2147483647 : Int32)))])) X0 hx rfl (hb hby at_6) rfl (by decide) ?_
          show Steps p.tables e below (s₁.setTop (mkF m 7 #[.val (.int p0), .unset, .unset, .unset] [(.int ((p0 &&& (2147483647 : Int32)) % (7 : Int32)))])) _
          refine XS.istoreN X0.here hx rfl (hb hby at_7) rfl (l' := #[.val (.int p0), .val (.int ((p0 &&& (2147483647 : Int32)) % (7 : Int32))), .unset, .unset]) rfl ?_
          show Steps p.tables e below (s₁.setTop (mkF m 8 #[.val (.int p0), .val (.int ((p0 &&& (2147483647 : Int32)) % (7 : Int32))), .unset, .unset] [])) _
          refine XS.iloadN X0.here hx rfl (hb hby at_8) rfl ?_
          show Steps p.tables e below (s₁.setTop (mkF m 9 #[.val (.int p0), .val (.int ((p0 &&& (2147483647 : Int32)) % (7 : Int32))), .unset, .unset] [(.int ((p0 &&& (2147483647 : Int32)) % (7 : Int32)))])) _
          refine st1 _ ?_
          show Steps p.tables e below (T1.setTop (mkF m 12 #[.val (.int p0), .val (.int ((p0 &&& (2147483647 : Int32)) % (7 : Int32))), .unset, .unset] [(.ref (own_pick ((p0 &&& (2147483647 : Int32)) % (7 : Int32)) w_SHARED w_READ w_Action_READ w_COMMIT w_Action_COMMIT w_ABORT w_Action_ABORT w_WRITE w_Action_WRITE w_UNLOCK w_EXCLUSIVE))])) _
          refine XS.astoreN X1.here hx rfl (hb hby at_12) rfl rfl (l' := #[.val (.int p0), .val (.int ((p0 &&& (2147483647 : Int32)) % (7 : Int32))), .val (.ref (own_pick ((p0 &&& (2147483647 : Int32)) % (7 : Int32)) w_SHARED w_READ w_Action_READ w_COMMIT w_Action_COMMIT w_ABORT w_Action_ABORT w_WRITE w_Action_WRITE w_UNLOCK w_EXCLUSIVE)), .unset]) rfl ?_
          show Steps p.tables e below (T1.setTop (mkF m 13 #[.val (.int p0), .val (.int ((p0 &&& (2147483647 : Int32)) % (7 : Int32))), .val (.ref (own_pick ((p0 &&& (2147483647 : Int32)) % (7 : Int32)) w_SHARED w_READ w_Action_READ w_COMMIT w_Action_COMMIT w_ABORT w_Action_ABORT w_WRITE w_Action_WRITE w_UNLOCK w_EXCLUSIVE)), .unset] [])) _
          refine XS.iloadN X1.here hx rfl (hb hby at_13) rfl ?_
          show Steps p.tables e below (T1.setTop (mkF m 14 #[.val (.int p0), .val (.int ((p0 &&& (2147483647 : Int32)) % (7 : Int32))), .val (.ref (own_pick ((p0 &&& (2147483647 : Int32)) % (7 : Int32)) w_SHARED w_READ w_Action_READ w_COMMIT w_Action_COMMIT w_ABORT w_Action_ABORT w_WRITE w_Action_WRITE w_UNLOCK w_EXCLUSIVE)), .unset] [(.int ((p0 &&& (2147483647 : Int32)) % (7 : Int32)))])) _
          refine XS.ifNo X1.here hx rfl (hb hby at_14) rfl ((if0 _ _).trans (feq hc2).1) ?_
          show Steps p.tables e below (T1.setTop (mkF m 17 #[.val (.int p0), .val (.int ((p0 &&& (2147483647 : Int32)) % (7 : Int32))), .val (.ref (own_pick ((p0 &&& (2147483647 : Int32)) % (7 : Int32)) w_SHARED w_READ w_Action_READ w_COMMIT w_Action_COMMIT w_ABORT w_Action_ABORT w_WRITE w_Action_WRITE w_UNLOCK w_EXCLUSIVE)), .unset] [])) _
          refine XS.iloadN X1.here hx rfl (hb hby at_17) rfl ?_
          show Steps p.tables e below (T1.setTop (mkF m 18 #[.val (.int p0), .val (.int ((p0 &&& (2147483647 : Int32)) % (7 : Int32))), .val (.ref (own_pick ((p0 &&& (2147483647 : Int32)) % (7 : Int32)) w_SHARED w_READ w_Action_READ w_COMMIT w_Action_COMMIT w_ABORT w_Action_ABORT w_WRITE w_Action_WRITE w_UNLOCK w_EXCLUSIVE)), .unset] [(.int ((p0 &&& (2147483647 : Int32)) % (7 : Int32)))])) _
          refine XS.iconst X1.here hx rfl (hb hby at_18) ?_
          show Steps p.tables e below (T1.setTop (mkF m 19 #[.val (.int p0), .val (.int ((p0 &&& (2147483647 : Int32)) % (7 : Int32))), .val (.ref (own_pick ((p0 &&& (2147483647 : Int32)) % (7 : Int32)) w_SHARED w_READ w_Action_READ w_COMMIT w_Action_COMMIT w_ABORT w_Action_ABORT w_WRITE w_Action_WRITE w_UNLOCK w_EXCLUSIVE)), .unset] [(.int (1 : Int32)), (.int ((p0 &&& (2147483647 : Int32)) % (7 : Int32)))])) _
          refine XS.icmpNo X1.here hx rfl (hb hby at_19) rfl (feq hc4).1 ?_
          show Steps p.tables e below (T1.setTop (mkF m 22 #[.val (.int p0), .val (.int ((p0 &&& (2147483647 : Int32)) % (7 : Int32))), .val (.ref (own_pick ((p0 &&& (2147483647 : Int32)) % (7 : Int32)) w_SHARED w_READ w_Action_READ w_COMMIT w_Action_COMMIT w_ABORT w_Action_ABORT w_WRITE w_Action_WRITE w_UNLOCK w_EXCLUSIVE)), .unset] [])) _
          refine XS.iloadN X1.here hx rfl (hb hby at_22) rfl ?_
          show Steps p.tables e below (T1.setTop (mkF m 23 #[.val (.int p0), .val (.int ((p0 &&& (2147483647 : Int32)) % (7 : Int32))), .val (.ref (own_pick ((p0 &&& (2147483647 : Int32)) % (7 : Int32)) w_SHARED w_READ w_Action_READ w_COMMIT w_Action_COMMIT w_ABORT w_Action_ABORT w_WRITE w_Action_WRITE w_UNLOCK w_EXCLUSIVE)), .unset] [(.int ((p0 &&& (2147483647 : Int32)) % (7 : Int32)))])) _
          refine XS.iconst X1.here hx rfl (hb hby at_23) ?_
          show Steps p.tables e below (T1.setTop (mkF m 24 #[.val (.int p0), .val (.int ((p0 &&& (2147483647 : Int32)) % (7 : Int32))), .val (.ref (own_pick ((p0 &&& (2147483647 : Int32)) % (7 : Int32)) w_SHARED w_READ w_Action_READ w_COMMIT w_Action_COMMIT w_ABORT w_Action_ABORT w_WRITE w_Action_WRITE w_UNLOCK w_EXCLUSIVE)), .unset] [(.int (2 : Int32)), (.int ((p0 &&& (2147483647 : Int32)) % (7 : Int32)))])) _
          refine XS.icmpNo X1.here hx rfl (hb hby at_24) rfl (teq hc6).2 ?_
          show Steps p.tables e below (T1.setTop (mkF m 27 #[.val (.int p0), .val (.int ((p0 &&& (2147483647 : Int32)) % (7 : Int32))), .val (.ref (own_pick ((p0 &&& (2147483647 : Int32)) % (7 : Int32)) w_SHARED w_READ w_Action_READ w_COMMIT w_Action_COMMIT w_ABORT w_Action_ABORT w_WRITE w_Action_WRITE w_UNLOCK w_EXCLUSIVE)), .unset] [])) _
          refine XS.iconst X1.here hx rfl (hb hby at_27) ?_
          show Steps p.tables e below (T1.setTop (mkF m 28 #[.val (.int p0), .val (.int ((p0 &&& (2147483647 : Int32)) % (7 : Int32))), .val (.ref (own_pick ((p0 &&& (2147483647 : Int32)) % (7 : Int32)) w_SHARED w_READ w_Action_READ w_COMMIT w_Action_COMMIT w_ABORT w_Action_ABORT w_WRITE w_Action_WRITE w_UNLOCK w_EXCLUSIVE)), .unset] [(.int (1 : Int32))])) _
          refine XS.goto X1.here hx rfl (pc0 := 28) (pc' := 32) rfl (hb hby at_28) (by decide) (by decide) ?_
          show Steps p.tables e below (T1.setTop (mkF m 32 #[.val (.int p0), .val (.int ((p0 &&& (2147483647 : Int32)) % (7 : Int32))), .val (.ref (own_pick ((p0 &&& (2147483647 : Int32)) % (7 : Int32)) w_SHARED w_READ w_Action_READ w_COMMIT w_Action_COMMIT w_ABORT w_Action_ABORT w_WRITE w_Action_WRITE w_UNLOCK w_EXCLUSIVE)), .unset] [(.int (1 : Int32))])) _
          refine XS.istoreN X1.here hx rfl (hb hby at_32) rfl (l' := #[.val (.int p0), .val (.int ((p0 &&& (2147483647 : Int32)) % (7 : Int32))), .val (.ref (own_pick ((p0 &&& (2147483647 : Int32)) % (7 : Int32)) w_SHARED w_READ w_Action_READ w_COMMIT w_Action_COMMIT w_ABORT w_Action_ABORT w_WRITE w_Action_WRITE w_UNLOCK w_EXCLUSIVE)), .val (.int (1 : Int32))]) rfl ?_
          show Steps p.tables e below (T1.setTop (mkF m 33 #[.val (.int p0), .val (.int ((p0 &&& (2147483647 : Int32)) % (7 : Int32))), .val (.ref (own_pick ((p0 &&& (2147483647 : Int32)) % (7 : Int32)) w_SHARED w_READ w_Action_READ w_COMMIT w_Action_COMMIT w_ABORT w_Action_ABORT w_WRITE w_Action_WRITE w_UNLOCK w_EXCLUSIVE)), .val (.int (1 : Int32))] [])) _
          refine XS.aloadN X1.here hx rfl (hb hby at_33) rfl rfl ?_
          show Steps p.tables e below (T1.setTop (mkF m 34 #[.val (.int p0), .val (.int ((p0 &&& (2147483647 : Int32)) % (7 : Int32))), .val (.ref (own_pick ((p0 &&& (2147483647 : Int32)) % (7 : Int32)) w_SHARED w_READ w_Action_READ w_COMMIT w_Action_COMMIT w_ABORT w_Action_ABORT w_WRITE w_Action_WRITE w_UNLOCK w_EXCLUSIVE)), .val (.int (1 : Int32))] [(.ref (own_pick ((p0 &&& (2147483647 : Int32)) % (7 : Int32)) w_SHARED w_READ w_Action_READ w_COMMIT w_Action_COMMIT w_ABORT w_Action_ABORT w_WRITE w_Action_WRITE w_UNLOCK w_EXCLUSIVE))])) _
          refine st7.trans ?_
          show Steps p.tables e below (T7.setTop (mkF m 37 #[.val (.int p0), .val (.int ((p0 &&& (2147483647 : Int32)) % (7 : Int32))), .val (.ref (own_pick ((p0 &&& (2147483647 : Int32)) % (7 : Int32)) w_SHARED w_READ w_Action_READ w_COMMIT w_Action_COMMIT w_ABORT w_Action_ABORT w_WRITE w_Action_WRITE w_UNLOCK w_EXCLUSIVE)), .val (.int (1 : Int32))] [(.int (1 : Int32))])) _
          refine XS.iloadN X7.here hx rfl (hb hby at_37) rfl ?_
          show Steps p.tables e below (T7.setTop (mkF m 38 #[.val (.int p0), .val (.int ((p0 &&& (2147483647 : Int32)) % (7 : Int32))), .val (.ref (own_pick ((p0 &&& (2147483647 : Int32)) % (7 : Int32)) w_SHARED w_READ w_Action_READ w_COMMIT w_Action_COMMIT w_ABORT w_Action_ABORT w_WRITE w_Action_WRITE w_UNLOCK w_EXCLUSIVE)), .val (.int (1 : Int32))] [(.int (1 : Int32)), (.int (1 : Int32))])) _
          refine XS.icmpNo X7.here hx rfl (hb hby at_38) rfl (teq (by decide : (1 : Int32) = (1 : Int32))).2 ?_
          show Steps p.tables e below (T7.setTop (mkF m 41 #[.val (.int p0), .val (.int ((p0 &&& (2147483647 : Int32)) % (7 : Int32))), .val (.ref (own_pick ((p0 &&& (2147483647 : Int32)) % (7 : Int32)) w_SHARED w_READ w_Action_READ w_COMMIT w_Action_COMMIT w_ABORT w_Action_ABORT w_WRITE w_Action_WRITE w_UNLOCK w_EXCLUSIVE)), .val (.int (1 : Int32))] [])) _
          refine XS.iconst X7.here hx rfl (hb hby at_41) ?_
          show Steps p.tables e below (T7.setTop (mkF m 42 #[.val (.int p0), .val (.int ((p0 &&& (2147483647 : Int32)) % (7 : Int32))), .val (.ref (own_pick ((p0 &&& (2147483647 : Int32)) % (7 : Int32)) w_SHARED w_READ w_Action_READ w_COMMIT w_Action_COMMIT w_ABORT w_Action_ABORT w_WRITE w_Action_WRITE w_UNLOCK w_EXCLUSIVE)), .val (.int (1 : Int32))] [(.int (1 : Int32))])) _
          refine XS.goto X7.here hx rfl (pc0 := 42) (pc' := 46) rfl (hb hby at_42) (by decide) (by decide) ?_
          show Steps p.tables e below (T7.setTop (mkF m 46 #[.val (.int p0), .val (.int ((p0 &&& (2147483647 : Int32)) % (7 : Int32))), .val (.ref (own_pick ((p0 &&& (2147483647 : Int32)) % (7 : Int32)) w_SHARED w_READ w_Action_READ w_COMMIT w_Action_COMMIT w_ABORT w_Action_ABORT w_WRITE w_Action_WRITE w_UNLOCK w_EXCLUSIVE)), .val (.int (1 : Int32))] [(.int (1 : Int32))])) _
          exact retN X7 hx (t := .boolean) Bd.returns (by simp) (hb hby at_46) hr
        · show Q_rm0 Z p0 w_SHARED w_READ w_Action_READ w_COMMIT w_Action_COMMIT w_ABORT w_Action_ABORT w_WRITE w_Action_WRITE w_UNLOCK w_EXCLUSIVE h0 n0 _ T7.heap _
          rw [e7]
          exact ⟨rfl, N7, rfl⟩
      · obtain ⟨cq8, kq8, q8a, q8b, q8c⟩ := isOf hZ e1 (own_exa WD ((p0 &&& (2147483647 : Int32)) % (7 : Int32)))
        obtain ⟨_, _, ⟨T8, L8, k8, n8⟩, -, X8, ⟨Lc8, hQ8, l8, y8, z8⟩, st8⟩ := X1.virtualBack hx (y := (⟨"com/example/serigraph/serigraph/history/Schedule$Action", "isLockStep", "()Z"⟩ : MethodName)) (z := (⟨"com/example/serigraph/serigraph/history/Schedule$Action", "isLockStep", "()Z"⟩ : MethodName)) hown (mvT hZ (hw _ (List.mem_of_getElem? (i := 8) rfl))) (mvT hZ (hw _ (List.mem_of_getElem? (i := 9) rfl))) (notFace_of_selects (args := #[]) (mvT hZ (hw _ (List.mem_of_getElem? (i := 11) rfl)))) (mvT hZ (hw _ (List.mem_of_getElem? (i := 11) rfl))) (mvT hZ (hw _ (List.mem_of_getElem? (i := 10) rfl))) (by decide) (backOf (W := 0) (rm2r l Z a0 hw [] (own_pick ((p0 &&& (2147483647 : Int32)) % (7 : Int32)) w_SHARED w_READ w_Action_READ w_COMMIT w_Action_COMMIT w_ABORT w_Action_ABORT w_WRITE w_Action_WRITE w_UNLOCK w_EXCLUSIVE) _ h0 n0 Z0 (own_FR WD _ hc2 hc4 hc6)) hZ (hw _ (List.mem_of_getElem? (i := 12) rfl)) (hw _ (List.mem_of_getElem? (i := 6) rfl)) (by decide) (by decide)) q8a q8c (g := (mkF m 34 #[.val (.int p0), .val (.int ((p0 &&& (2147483647 : Int32)) % (7 : Int32))), .val (.ref (own_pick ((p0 &&& (2147483647 : Int32)) % (7 : Int32)) w_SHARED w_READ w_Action_READ w_COMMIT w_Action_COMMIT w_ABORT w_Action_ABORT w_WRITE w_Action_WRITE w_UNLOCK w_EXCLUSIVE)), .val (.int (0 : Int32))] [(.ref (own_pick ((p0 &&& (2147483647 : Int32)) % (7 : Int32)) w_SHARED w_READ w_Action_READ w_COMMIT w_Action_COMMIT w_ABORT w_Action_ABORT w_WRITE w_Action_WRITE w_UNLOCK w_EXCLUSIVE))])) rfl (by rw [hml]; rfl) (Steps.refl _) (argsL := []) (rest := []) (lenOf pd_1 rfl) rfl (by show 2 * 0 + _ ≤ _; exact Nat.le_of_eq rfl) (hb hby at_34) (fun _ _ => ⟨rfl, e1, (by decide : 0 + 0 ≤ _), (by decide : 0 + 0 ≤ _)⟩)
        dsimp only [Pt.U, Pt.locs, Pt.cells, Pt.slots] at X8 l8 y8 z8 st8 hQ8
        subst l8 y8 z8
        obtain ⟨rfl, N8q, e8⟩ := hQ8
        have N8 := Fr.app N1 N8q
        obtain ⟨fs, hr, hrun, hended, hW, hsame⟩ := X8.leave (v := some (.int (1 : Int32))) (fun h => by rw [Bd.returns] at h; cases h)
        refine ⟨_, _, pre0 _ ?_, hrun, hended, _, _, rfl, ?_, ⟨_, rfl⟩, hW, hsame.mono (by decide) (by decide)⟩
        · show Steps p.tables e below (s₁.setTop (mkF m 0 #[.val (.int p0), .unset, .unset, .unset] [])) _
          refine XS.iloadN X0.here hx rfl (hb hby at_0) rfl ?_
          show Steps p.tables e below (s₁.setTop (mkF m 1 #[.val (.int p0), .unset, .unset, .unset] [(.int p0)])) _
          refine X0.ldcInt hx hown (mvT hZ (hw _ (List.mem_of_getElem? (i := 0) rfl))) (g := (mkF m 1 #[.val (.int p0), .unset, .unset, .unset] [(.int p0)])) rfl (hb hby at_1) _ ?_
          show Steps p.tables e below (s₁.setTop (mkF m 3 #[.val (.int p0), .unset, .unset, .unset] [(.int (2147483647 : Int32)), (.int p0)])) _
          refine XS.iand X0.here hx rfl (hb hby at_3) rfl ?_
          show Steps p.tables e below (s₁.setTop (mkF m 4 #[.val (.int p0), .unset, .unset, .unset] [(.int (p0 &&& (2147483647 : Int32)))])) _
          refine XS.bipush X0.here hx rfl (hb hby at_4) ?_
          show Steps p.tables e below (s₁.setTop (mkF m 6 #[.val (.int p0), .unset, .unset, .unset] [(.int (7 : Int32)), (.int (p0 &&& (2147483647 : Int32)))])) _
          refine iremM (g := (mkF m 6 #[.val (.int p0), .unset, .unset, .unset] [(.int (7 : Int32)), (.int (p0 &&& (2147483647 : Int32)))])) X0 hx rfl (hb hby at_6) rfl (by decide) ?_
          show Steps p.tables e below (s₁.setTop (mkF m 7 #[.val (.int p0), .unset, .unset, .unset] [(.int ((p0 &&& (2147483647 : Int32)) % (7 : Int32)))])) _
          refine XS.istoreN X0.here hx rfl (hb hby at_7) rfl (l' := #[.val (.int p0), .val (.int ((p0 &&& (2147483647 : Int32)) % (7 : Int32))), .unset, .unset]) rfl ?_
          show Steps p.tables e below (s₁.setTop (mkF m 8 #[.val (.int p0), .val (.int ((p0 &&& (2147483647 : Int32)) % (7 : Int32))), .unset, .unset] [])) _
          refine XS.iloadN X0.here hx rfl (hb hby at_8) rfl ?_
          show Steps p.tables e below (s₁.setTop (mkF m 9 #[.val (.int p0), .val (.int ((p0 &&& (2147483647 : Int32)) % (7 : Int32))), .unset, .unset] [(.int ((p0 &&& (2147483647 : Int32)) % (7 : Int32)))])) _
          refine st1 _ ?_
          show Steps p.tables e below (T1.setTop (mkF m 12 #[.val (.int p0), .val (.int ((p0 &&& (2147483647 : Int32)) % (7 : Int32))), .unset, .unset] [(.ref (own_pick ((p0 &&& (2147483647 : Int32)) % (7 : Int32)) w_SHARED w_READ w_Action_READ w_COMMIT w_Action_COMMIT w_ABORT w_Action_ABORT w_WRITE w_Action_WRITE w_UNLOCK w_EXCLUSIVE))])) _
          refine XS.astoreN X1.here hx rfl (hb hby at_12) rfl rfl (l' := #[.val (.int p0), .val (.int ((p0 &&& (2147483647 : Int32)) % (7 : Int32))), .val (.ref (own_pick ((p0 &&& (2147483647 : Int32)) % (7 : Int32)) w_SHARED w_READ w_Action_READ w_COMMIT w_Action_COMMIT w_ABORT w_Action_ABORT w_WRITE w_Action_WRITE w_UNLOCK w_EXCLUSIVE)), .unset]) rfl ?_
          show Steps p.tables e below (T1.setTop (mkF m 13 #[.val (.int p0), .val (.int ((p0 &&& (2147483647 : Int32)) % (7 : Int32))), .val (.ref (own_pick ((p0 &&& (2147483647 : Int32)) % (7 : Int32)) w_SHARED w_READ w_Action_READ w_COMMIT w_Action_COMMIT w_ABORT w_Action_ABORT w_WRITE w_Action_WRITE w_UNLOCK w_EXCLUSIVE)), .unset] [])) _
          refine XS.iloadN X1.here hx rfl (hb hby at_13) rfl ?_
          show Steps p.tables e below (T1.setTop (mkF m 14 #[.val (.int p0), .val (.int ((p0 &&& (2147483647 : Int32)) % (7 : Int32))), .val (.ref (own_pick ((p0 &&& (2147483647 : Int32)) % (7 : Int32)) w_SHARED w_READ w_Action_READ w_COMMIT w_Action_COMMIT w_ABORT w_Action_ABORT w_WRITE w_Action_WRITE w_UNLOCK w_EXCLUSIVE)), .unset] [(.int ((p0 &&& (2147483647 : Int32)) % (7 : Int32)))])) _
          refine XS.ifNo X1.here hx rfl (hb hby at_14) rfl ((if0 _ _).trans (feq hc2).1) ?_
          show Steps p.tables e below (T1.setTop (mkF m 17 #[.val (.int p0), .val (.int ((p0 &&& (2147483647 : Int32)) % (7 : Int32))), .val (.ref (own_pick ((p0 &&& (2147483647 : Int32)) % (7 : Int32)) w_SHARED w_READ w_Action_READ w_COMMIT w_Action_COMMIT w_ABORT w_Action_ABORT w_WRITE w_Action_WRITE w_UNLOCK w_EXCLUSIVE)), .unset] [])) _
          refine XS.iloadN X1.here hx rfl (hb hby at_17) rfl ?_
          show Steps p.tables e below (T1.setTop (mkF m 18 #[.val (.int p0), .val (.int ((p0 &&& (2147483647 : Int32)) % (7 : Int32))), .val (.ref (own_pick ((p0 &&& (2147483647 : Int32)) % (7 : Int32)) w_SHARED w_READ w_Action_READ w_COMMIT w_Action_COMMIT w_ABORT w_Action_ABORT w_WRITE w_Action_WRITE w_UNLOCK w_EXCLUSIVE)), .unset] [(.int ((p0 &&& (2147483647 : Int32)) % (7 : Int32)))])) _
          refine XS.iconst X1.here hx rfl (hb hby at_18) ?_
          show Steps p.tables e below (T1.setTop (mkF m 19 #[.val (.int p0), .val (.int ((p0 &&& (2147483647 : Int32)) % (7 : Int32))), .val (.ref (own_pick ((p0 &&& (2147483647 : Int32)) % (7 : Int32)) w_SHARED w_READ w_Action_READ w_COMMIT w_Action_COMMIT w_ABORT w_Action_ABORT w_WRITE w_Action_WRITE w_UNLOCK w_EXCLUSIVE)), .unset] [(.int (1 : Int32)), (.int ((p0 &&& (2147483647 : Int32)) % (7 : Int32)))])) _
          refine XS.icmpNo X1.here hx rfl (hb hby at_19) rfl (feq hc4).1 ?_
          show Steps p.tables e below (T1.setTop (mkF m 22 #[.val (.int p0), .val (.int ((p0 &&& (2147483647 : Int32)) % (7 : Int32))), .val (.ref (own_pick ((p0 &&& (2147483647 : Int32)) % (7 : Int32)) w_SHARED w_READ w_Action_READ w_COMMIT w_Action_COMMIT w_ABORT w_Action_ABORT w_WRITE w_Action_WRITE w_UNLOCK w_EXCLUSIVE)), .unset] [])) _
          refine XS.iloadN X1.here hx rfl (hb hby at_22) rfl ?_
          show Steps p.tables e below (T1.setTop (mkF m 23 #[.val (.int p0), .val (.int ((p0 &&& (2147483647 : Int32)) % (7 : Int32))), .val (.ref (own_pick ((p0 &&& (2147483647 : Int32)) % (7 : Int32)) w_SHARED w_READ w_Action_READ w_COMMIT w_Action_COMMIT w_ABORT w_Action_ABORT w_WRITE w_Action_WRITE w_UNLOCK w_EXCLUSIVE)), .unset] [(.int ((p0 &&& (2147483647 : Int32)) % (7 : Int32)))])) _
          refine XS.iconst X1.here hx rfl (hb hby at_23) ?_
          show Steps p.tables e below (T1.setTop (mkF m 24 #[.val (.int p0), .val (.int ((p0 &&& (2147483647 : Int32)) % (7 : Int32))), .val (.ref (own_pick ((p0 &&& (2147483647 : Int32)) % (7 : Int32)) w_SHARED w_READ w_Action_READ w_COMMIT w_Action_COMMIT w_ABORT w_Action_ABORT w_WRITE w_Action_WRITE w_UNLOCK w_EXCLUSIVE)), .unset] [(.int (2 : Int32)), (.int ((p0 &&& (2147483647 : Int32)) % (7 : Int32)))])) _
          refine XS.icmpYes X1.here hx rfl (pc0 := 24) (pc' := 31) rfl (hb hby at_24) rfl (feq hc6).2 (by decide) (by decide) ?_
          show Steps p.tables e below (T1.setTop (mkF m 31 #[.val (.int p0), .val (.int ((p0 &&& (2147483647 : Int32)) % (7 : Int32))), .val (.ref (own_pick ((p0 &&& (2147483647 : Int32)) % (7 : Int32)) w_SHARED w_READ w_Action_READ w_COMMIT w_Action_COMMIT w_ABORT w_Action_ABORT w_WRITE w_Action_WRITE w_UNLOCK w_EXCLUSIVE)), .unset] [])) _
          refine XS.iconst X1.here hx rfl (hb hby at_31) ?_
          show Steps p.tables e below (T1.setTop (mkF m 32 #[.val (.int p0), .val (.int ((p0 &&& (2147483647 : Int32)) % (7 : Int32))), .val (.ref (own_pick ((p0 &&& (2147483647 : Int32)) % (7 : Int32)) w_SHARED w_READ w_Action_READ w_COMMIT w_Action_COMMIT w_ABORT w_Action_ABORT w_WRITE w_Action_WRITE w_UNLOCK w_EXCLUSIVE)), .unset] [(.int (0 : Int32))])) _
          refine XS.istoreN X1.here hx rfl (hb hby at_32) rfl (l' := #[.val (.int p0), .val (.int ((p0 &&& (2147483647 : Int32)) % (7 : Int32))), .val (.ref (own_pick ((p0 &&& (2147483647 : Int32)) % (7 : Int32)) w_SHARED w_READ w_Action_READ w_COMMIT w_Action_COMMIT w_ABORT w_Action_ABORT w_WRITE w_Action_WRITE w_UNLOCK w_EXCLUSIVE)), .val (.int (0 : Int32))]) rfl ?_
          show Steps p.tables e below (T1.setTop (mkF m 33 #[.val (.int p0), .val (.int ((p0 &&& (2147483647 : Int32)) % (7 : Int32))), .val (.ref (own_pick ((p0 &&& (2147483647 : Int32)) % (7 : Int32)) w_SHARED w_READ w_Action_READ w_COMMIT w_Action_COMMIT w_ABORT w_Action_ABORT w_WRITE w_Action_WRITE w_UNLOCK w_EXCLUSIVE)), .val (.int (0 : Int32))] [])) _
          refine XS.aloadN X1.here hx rfl (hb hby at_33) rfl rfl ?_
          show Steps p.tables e below (T1.setTop (mkF m 34 #[.val (.int p0), .val (.int ((p0 &&& (2147483647 : Int32)) % (7 : Int32))), .val (.ref (own_pick ((p0 &&& (2147483647 : Int32)) % (7 : Int32)) w_SHARED w_READ w_Action_READ w_COMMIT w_Action_COMMIT w_ABORT w_Action_ABORT w_WRITE w_Action_WRITE w_UNLOCK w_EXCLUSIVE)), .val (.int (0 : Int32))] [(.ref (own_pick ((p0 &&& (2147483647 : Int32)) % (7 : Int32)) w_SHARED w_READ w_Action_READ w_COMMIT w_Action_COMMIT w_ABORT w_Action_ABORT w_WRITE w_Action_WRITE w_UNLOCK w_EXCLUSIVE))])) _
          refine st8.trans ?_
          show Steps p.tables e below (T8.setTop (mkF m 37 #[.val (.int p0), .val (.int ((p0 &&& (2147483647 : Int32)) % (7 : Int32))), .val (.ref (own_pick ((p0 &&& (2147483647 : Int32)) % (7 : Int32)) w_SHARED w_READ w_Action_READ w_COMMIT w_Action_COMMIT w_ABORT w_Action_ABORT w_WRITE w_Action_WRITE w_UNLOCK w_EXCLUSIVE)), .val (.int (0 : Int32))] [(.int (0 : Int32))])) _
          refine XS.iloadN X8.here hx rfl (hb hby at_37) rfl ?_
          show Steps p.tables e below (T8.setTop (mkF m 38 #[.val (.int p0), .val (.int ((p0 &&& (2147483647 : Int32)) % (7 : Int32))), .val (.ref (own_pick ((p0 &&& (2147483647 : Int32)) % (7 : Int32)) w_SHARED w_READ w_Action_READ w_COMMIT w_Action_COMMIT w_ABORT w_Action_ABORT w_WRITE w_Action_WRITE w_UNLOCK w_EXCLUSIVE)), .val (.int (0 : Int32))] [(.int (0 : Int32)), (.int (0 : Int32))])) _
          refine XS.icmpNo X8.here hx rfl (hb hby at_38) rfl (teq (by decide : (0 : Int32) = (0 : Int32))).2 ?_
          show Steps p.tables e below (T8.setTop (mkF m 41 #[.val (.int p0), .val (.int ((p0 &&& (2147483647 : Int32)) % (7 : Int32))), .val (.ref (own_pick ((p0 &&& (2147483647 : Int32)) % (7 : Int32)) w_SHARED w_READ w_Action_READ w_COMMIT w_Action_COMMIT w_ABORT w_Action_ABORT w_WRITE w_Action_WRITE w_UNLOCK w_EXCLUSIVE)), .val (.int (0 : Int32))] [])) _
          refine XS.iconst X8.here hx rfl (hb hby at_41) ?_
          show Steps p.tables e below (T8.setTop (mkF m 42 #[.val (.int p0), .val (.int ((p0 &&& (2147483647 : Int32)) % (7 : Int32))), .val (.ref (own_pick ((p0 &&& (2147483647 : Int32)) % (7 : Int32)) w_SHARED w_READ w_Action_READ w_COMMIT w_Action_COMMIT w_ABORT w_Action_ABORT w_WRITE w_Action_WRITE w_UNLOCK w_EXCLUSIVE)), .val (.int (0 : Int32))] [(.int (1 : Int32))])) _
          refine XS.goto X8.here hx rfl (pc0 := 42) (pc' := 46) rfl (hb hby at_42) (by decide) (by decide) ?_
          show Steps p.tables e below (T8.setTop (mkF m 46 #[.val (.int p0), .val (.int ((p0 &&& (2147483647 : Int32)) % (7 : Int32))), .val (.ref (own_pick ((p0 &&& (2147483647 : Int32)) % (7 : Int32)) w_SHARED w_READ w_Action_READ w_COMMIT w_Action_COMMIT w_ABORT w_Action_ABORT w_WRITE w_Action_WRITE w_UNLOCK w_EXCLUSIVE)), .val (.int (0 : Int32))] [(.int (1 : Int32))])) _
          exact retN X8 hx (t := .boolean) Bd.returns (by simp) (hb hby at_46) hr
        · show Q_rm0 Z p0 w_SHARED w_READ w_Action_READ w_COMMIT w_Action_COMMIT w_ABORT w_Action_ABORT w_WRITE w_Action_WRITE w_UNLOCK w_EXCLUSIVE h0 n0 _ T8.heap _
          rw [e8]
          exact ⟨rfl, N8, rfl⟩
set_option maxRecDepth 65536 in
set_option maxHeartbeats 40000000 in
theorem comes_1 {Post : Tables → Env → Array Value → State → Outcome → State → Prop} (hpost : ∀ tb e args s v u, (limb_1_1.after args s (.returned v) u = true ∧ limb_1_2.after args s (.returned v) u = true ∧ True) → FrameEnd s (.returned v) u (Jvm.fieldLocs frame_1_writes args s ++ Jvm.arrayLocs frame_1_arrays args s ++ Jvm.staticLocs frame_1_statics s) 0 0 → Post tb e args s (.returned v) u) :
    ArmFor flags0 classFile x code maxLocals ret World_1 tables_1 room_1 Calls_1 rest_1 Pre_1 Post := by
  intro l hfl _ _ p e ha hc hk s m args below hf hA hF happ hP
  obtain ⟨hcalls, hrest, hpre⟩ := hP
  obtain ⟨-, -, -, hnamed, -, -, -, hat⟩ := (Spec.applies_iff hf).mp happ
  obtain ⟨hg, hn⟩ := and_e (Cond.before_iff.mp (show (Jvm.Cond.and given_1 narrow_1).before args s = true from hpre))
  obtain ⟨hg1a, hg1b⟩ := and_e hg
  obtain ⟨w0, rfl⟩ : ∃ w0 : Value, args = #[w0] := by
    have hs : args.size = 1 := by simpa [Cond.value, given_1] using hg1a
    obtain ⟨L⟩ := args
    match L, hs with
    | [w0], _ => exact ⟨w0, rfl⟩
  have hw := fun d (hd : d ∈ tables_1) => atoms_spec (ws := Jvm.Cond.code x code maxLocals ret :: tables_1) hat d (List.mem_cons_of_mem _ hd)
  have hfit : Fit s := fun {y c} hc i hi => by
    obtain ⟨ha, rfl⟩ := Array.getElem?_eq_some_iff.mp hc
    have q := List.all_eq_true.mp ((Array.all_eq_true_iff_forall_mem.mp hF) _ (Array.getElem_mem ha)) i (List.mem_range.mpr hi)
    simpa [Array.getElem?_eq_getElem hi] using q
  obtain ⟨i0, ei0⟩ := is_v hg1b
  obtain rfl : w0 = (.int i0) := Option.some.inj ei0
  obtain ⟨hn1a, hn1b⟩ := and_e hn
  obtain ⟨hn2a, hn2b⟩ := and_e hn1b
  obtain ⟨hn3a, hn3b⟩ := and_e hn2b
  obtain ⟨hn4a, hn4b⟩ := and_e hn3b
  obtain ⟨hn5a, hn5b⟩ := and_e hn4b
  obtain ⟨hn6a, hn6b⟩ := and_e hn5b
  obtain ⟨hn7a, hn7b⟩ := and_e hn6b
  obtain ⟨hn8a, hn8b⟩ := and_e hn7b
  obtain ⟨hn9a, hn9b⟩ := and_e hn8b
  obtain ⟨hn10a, hn10b⟩ := and_e hn9b
  obtain ⟨hn11a, hn11b⟩ := and_e hn10b
  obtain ⟨hn12a, hn12b⟩ := and_e hn11b
  obtain ⟨hn13a, hn13b⟩ := and_e hn12b
  obtain ⟨hn14a, hn14b⟩ := and_e hn13b
  obtain ⟨hn15a, hn15b⟩ := and_e hn14b
  obtain ⟨hn16a, hn16b⟩ := and_e hn15b
  obtain ⟨hn17a, hn17b⟩ := and_e hn16b
  obtain ⟨w_SHARED, evw_SHARED⟩ := exa_v hn1a
  have E_SHARED := Exa.start evw_SHARED hn1a
  have S_SHARED := Sta.start evw_SHARED (Or.inr ⟨(hw _ (List.mem_of_getElem? (i := 6) rfl)), (hw _ (List.mem_of_getElem? (i := 7) rfl))⟩)
  obtain ⟨w_READ, evw_READ⟩ := exa_v hn3a
  have E_READ := Exa.start evw_READ hn3a
  have S_READ := Sta.start evw_READ (Or.inr ⟨(hw _ (List.mem_of_getElem? (i := 6) rfl)), (hw _ (List.mem_of_getElem? (i := 16) rfl))⟩)
  obtain ⟨w_Action_READ, evw_Action_READ⟩ := exa_v hn4a
  have E_Action_READ := Exa.start evw_Action_READ hn4a
  have S_Action_READ := Sta.start evw_Action_READ (Or.inr ⟨(hw _ (List.mem_of_getElem? (i := 17) rfl)), (hw _ (List.mem_of_getElem? (i := 18) rfl))⟩)
  obtain ⟨w_COMMIT, evw_COMMIT⟩ := exa_v hn6a
  have E_COMMIT := Exa.start evw_COMMIT hn6a
  have S_COMMIT := Sta.start evw_COMMIT (Or.inr ⟨(hw _ (List.mem_of_getElem? (i := 6) rfl)), (hw _ (List.mem_of_getElem? (i := 20) rfl))⟩)
  obtain ⟨w_Action_COMMIT, evw_Action_COMMIT⟩ := exa_v hn7a
  have E_Action_COMMIT := Exa.start evw_Action_COMMIT hn7a
  have S_Action_COMMIT := Sta.start evw_Action_COMMIT (Or.inr ⟨(hw _ (List.mem_of_getElem? (i := 17) rfl)), (hw _ (List.mem_of_getElem? (i := 21) rfl))⟩)
  obtain ⟨w_ABORT, evw_ABORT⟩ := exa_v hn9a
  have E_ABORT := Exa.start evw_ABORT hn9a
  have S_ABORT := Sta.start evw_ABORT (Or.inr ⟨(hw _ (List.mem_of_getElem? (i := 6) rfl)), (hw _ (List.mem_of_getElem? (i := 23) rfl))⟩)
  obtain ⟨w_Action_ABORT, evw_Action_ABORT⟩ := exa_v hn10a
  have E_Action_ABORT := Exa.start evw_Action_ABORT hn10a
  have S_Action_ABORT := Sta.start evw_Action_ABORT (Or.inr ⟨(hw _ (List.mem_of_getElem? (i := 17) rfl)), (hw _ (List.mem_of_getElem? (i := 24) rfl))⟩)
  obtain ⟨w_WRITE, evw_WRITE⟩ := exa_v hn12a
  have E_WRITE := Exa.start evw_WRITE hn12a
  have S_WRITE := Sta.start evw_WRITE (Or.inr ⟨(hw _ (List.mem_of_getElem? (i := 6) rfl)), (hw _ (List.mem_of_getElem? (i := 26) rfl))⟩)
  obtain ⟨w_Action_WRITE, evw_Action_WRITE⟩ := exa_v hn13a
  have E_Action_WRITE := Exa.start evw_Action_WRITE hn13a
  have S_Action_WRITE := Sta.start evw_Action_WRITE (Or.inr ⟨(hw _ (List.mem_of_getElem? (i := 17) rfl)), (hw _ (List.mem_of_getElem? (i := 27) rfl))⟩)
  obtain ⟨w_UNLOCK, evw_UNLOCK⟩ := exa_v hn15a
  have E_UNLOCK := Exa.start evw_UNLOCK hn15a
  have S_UNLOCK := Sta.start evw_UNLOCK (Or.inr ⟨(hw _ (List.mem_of_getElem? (i := 6) rfl)), (hw _ (List.mem_of_getElem? (i := 29) rfl))⟩)
  obtain ⟨w_EXCLUSIVE, evw_EXCLUSIVE⟩ := exa_v hn17a
  have E_EXCLUSIVE := Exa.start evw_EXCLUSIVE hn17a
  have S_EXCLUSIVE := Sta.start evw_EXCLUSIVE (Or.inr ⟨(hw _ (List.mem_of_getElem? (i := 6) rfl)), (hw _ (List.mem_of_getElem? (i := 31) rfl))⟩)
  have F_SHARED_operation := own_fldN evw_SHARED hn2a
  have F_READ_operation := own_fldR evw_READ evw_Action_READ hn5a
  have F_COMMIT_operation := own_fldR evw_COMMIT evw_Action_COMMIT hn8a
  have F_ABORT_operation := own_fldR evw_ABORT evw_Action_ABORT hn11a
  have F_WRITE_operation := own_fldR evw_WRITE evw_Action_WRITE hn14a
  have F_UNLOCK_operation := own_fldN evw_UNLOCK hn16a
  have F_EXCLUSIVE_operation := own_fldN evw_EXCLUSIVE hn17b
  have WD : World s s.heap w_SHARED w_READ w_Action_READ w_COMMIT w_Action_COMMIT w_ABORT w_Action_ABORT w_WRITE w_Action_WRITE w_UNLOCK w_EXCLUSIVE := ⟨S_SHARED, E_SHARED, F_SHARED_operation, S_READ, E_READ, S_Action_READ, E_Action_READ, F_READ_operation, S_COMMIT, E_COMMIT, S_Action_COMMIT, E_Action_COMMIT, F_COMMIT_operation, S_ABORT, E_ABORT, S_Action_ABORT, E_Action_ABORT, F_ABORT_operation, S_WRITE, E_WRITE, S_Action_WRITE, E_Action_WRITE, F_WRITE_operation, S_UNLOCK, E_UNLOCK, F_UNLOCK_operation, S_EXCLUSIVE, E_EXCLUSIVE, F_EXCLUSIVE_operation⟩
  obtain ⟨n, o, h1, h2, h3, _, L, rfl, ⟨rfl, N, -⟩, hq⟩ := rm0 l s _ hw tables_1 i0 w_SHARED w_READ w_Action_READ w_COMMIT w_Action_COMMIT w_ABORT w_Action_ABORT w_WRITE w_Action_WRITE w_UNLOCK w_EXCLUSIVE s.heap s.heap.size (Nat.le_refl _) WD p e ha hc hk s m _ below hf ((Spec.applies_iff_loose hf).mp happ).1 ⟨rfl, State.Warmed39.refl s, rfl⟩ trivial
  refine ⟨n, _, h1, h2, h3, hpost _ _ _ _ _ _ ⟨Cond.after_iff.mpr rfl, Cond.after_iff.mpr (eq_i res_at (Term.int_eval (1)) rfl), trivial⟩ ⟨hq.1, hq.2.1, (hq.2.2.sift fun y hy => Or.inr (N y hy)).mono (by decide) (by decide)⟩⟩
theorem main_1_1 : Claimed_1_1 := comes_1 fun _ _ _ _ _ _ h hF => ⟨h.1, hF⟩
theorem main_1_2 : Claimed_1_2 := comes_1 fun _ _ _ _ _ _ h hF => ⟨h.2.1, hF⟩
end Jvm.Pilot.@@N@@
namespace Jvm.Pilot.@@N@@
open Jvm Jvm.ClassFile Sem Op Lib Jvm.Free Jvm.Stand Jvm.Pilot.@@N@@.Jvm.D
/-! MADE BY PROGRAM (witnessworld.py) out of the Statement's table words and the real class files: 11 classes; the members and pool entries that the words name. The judged class is class 1, her method 2. -/
namespace start1
open Jvm.ClassFile
def u (s : String) : CpInfo := .utf8 (stringToUtf16 s)
/-- a pool by its gaps: so many unusable entries, then the entry; so many at the end -/
def gap : Nat → List CpInfo → List CpInfo
  | 0, r => r
  | n + 1, r => .unusable :: gap n r
def poolList (es : List (Nat × CpInfo)) (last : Nat) : List CpInfo := es.foldr (fun e r => gap e.1 (e.2 :: r)) (gap last [])
def pool (es : List (Nat × CpInfo)) (last : Nat) : Array CpInfo := ⟨poolList es last⟩
def fileOf (pool : Array CpInfo) (this : Nat) (attrs : Array Attribute := #[]) (ms : Array MethodInfo := #[]) (fl : Nat := 33) (sup : Nat := 0) (ifs : Array Nat := #[]) (fds : Array FieldInfo := #[]) : ClassFile where
  minorVersion := 0
  majorVersion := 65
  constantPool := pool
  accessFlags := fl
  thisClass := this
  superClass := sup
  interfaces := ifs
  fields := fds
  methods := ms
  attributes := attrs
def plain (name : String) (sup : Option ClassId) : Class where
  name := name
  kind := .ordinary
  loader := none
  accessFlags := 33
  super := sup
  interfaces := #[]
  cf := none
  fields := #[]
  methods := #[]
  instanceTypes := #[]
  staticTypes := #[]
  resolved := #[]
  callSites := []
  init := .initialized
  statics := none
  mirror := none

def pool0 : Array CpInfo := pool [(5, u "<init>"), (0, u "()V"), (1, .class_ 10), (1, u "java/lang/Object")] 113

def k0m0 : Method := { name := "<init>", desc := "()V", sig := { parameters := [], returnType := none }, accessFlags := 1, code := none }
/-- java/lang/Object -/
def k0 : Class := { plain "java/lang/Object" none with
  accessFlags := 33
  interfaces := #[]
  cf := some (fileOf pool0 8 #[] #[{ accessFlags := 1, nameIndex := 5, descriptorIndex := 6, attributes := #[] }] 33 0 #[] #[])
  fields := #[]
  methods := #[k0m0]
  instanceTypes := #[]
  staticTypes := #[]
  resolved := Array.replicate 124 none
  statics := none }

def pool1 : Array CpInfo := pool [(2, .class_ 4), (1, u "java/lang/Object"), (0, u "<init>"), (0, u "()V"), (0, .fieldref 8 9), (0, .class_ 10), (0, .nameAndType 11 12), (0, u "com/example/serigraph/serigraph/history/Schedule$Action"), (0, u "SHARED"), (0, u "Lcom/example/serigraph/serigraph/history/Schedule$Action;"), (0, .fieldref 8 14), (0, .nameAndType 15 12), (0, u "EXCLUSIVE"), (0, .fieldref 8 17), (0, .nameAndType 18 12), (0, u "UNLOCK"), (0, .fieldref 8 20), (0, .nameAndType 21 12), (0, u "READ"), (0, .fieldref 8 23), (0, .nameAndType 24 12), (0, u "WRITE"), (0, .fieldref 8 26), (0, .nameAndType 27 12), (0, u "COMMIT"), (0, .fieldref 8 29), (0, .nameAndType 30 12), (0, u "ABORT"), (0, .integer 2147483647), (0, .methodref 33 34), (0, .class_ 35), (0, .nameAndType 36 37), (0, u "com/example/serigraph/serigraph/history/ActionIsLockStepPinLaw"), (0, u "pick"), (0, u "(I)Lcom/example/serigraph/serigraph/history/Schedule$Action;"), (0, .methodref 8 39), (0, .nameAndType 40 41), (0, u "isLockStep"), (0, u "()Z"), (3, u "law"), (0, u "(I)Z")] 6

def k1m0 : Method := { name := "<init>", desc := "()V", sig := { parameters := [], returnType := none }, accessFlags := 1, code := none }
def k1c1 : Code := { maxStack := 2, maxLocals := 1, code := method_2_code, exceptionTable := #[], attributes := #[] }
def k1m1 : Method := { name := "pick", desc := "(I)Lcom/example/serigraph/serigraph/history/Schedule$Action;", sig := { parameters := [.int], returnType := some (.object "com/example/serigraph/serigraph/history/Schedule$Action") }, accessFlags := 10, code := some k1c1 }
def k1c2 : Code := { maxStack := 2, maxLocals := 4, code := code, exceptionTable := #[], attributes := #[] }
def k1m2 : Method := { name := "law", desc := "(I)Z", sig := { parameters := [.int], returnType := some .boolean }, accessFlags := 9, code := some k1c2 }
/-- com/example/serigraph/serigraph/history/ActionIsLockStepPinLaw -/
def k1 : Class := { plain "com/example/serigraph/serigraph/history/ActionIsLockStepPinLaw" (some 0) with
  accessFlags := 49
  interfaces := #[]
  cf := some (fileOf pool1 33 #[] #[{ accessFlags := 1, nameIndex := 5, descriptorIndex := 6, attributes := #[] }, { accessFlags := 10, nameIndex := 36, descriptorIndex := 37, attributes := #[] }, { accessFlags := 9, nameIndex := 45, descriptorIndex := 46, attributes := #[] }] 49 2 #[] #[])
  fields := #[]
  methods := #[k1m0, k1m1, k1m2]
  instanceTypes := #[]
  staticTypes := #[]
  resolved := Array.replicate 53 none
  statics := none }

def pool2 : Array CpInfo := pool [(1, .class_ 2), (0, u "java/lang/constant/Constable"), (0, .class_ 4), (0, u "java/lang/Object")] 6

/-- java/lang/constant/Constable -/
def k2 : Class := { plain "java/lang/constant/Constable" (some 0) with
  accessFlags := 1537
  interfaces := #[]
  cf := some (fileOf pool2 1 #[] #[] 1537 3 #[] #[])
  fields := #[]
  methods := #[]
  instanceTypes := #[]
  staticTypes := #[]
  resolved := Array.replicate 11 none
  statics := none }

def pool3 : Array CpInfo := pool [(1, .class_ 2), (0, u "java/lang/Comparable"), (0, .class_ 4), (0, u "java/lang/Object")] 7

/-- java/lang/Comparable -/
def k3 : Class := { plain "java/lang/Comparable" (some 0) with
  accessFlags := 1537
  interfaces := #[]
  cf := some (fileOf pool3 1 #[] #[] 1537 3 #[] #[])
  fields := #[]
  methods := #[]
  instanceTypes := #[]
  staticTypes := #[]
  resolved := Array.replicate 12 none
  statics := none }

def pool4 : Array CpInfo := pool [(1, .class_ 2), (0, u "java/io/Serializable"), (0, .class_ 4), (0, u "java/lang/Object")] 2

/-- java/io/Serializable -/
def k4 : Class := { plain "java/io/Serializable" (some 0) with
  accessFlags := 1537
  interfaces := #[]
  cf := some (fileOf pool4 1 #[] #[] 1537 3 #[] #[])
  fields := #[]
  methods := #[]
  instanceTypes := #[]
  staticTypes := #[]
  resolved := Array.replicate 7 none
  statics := none }

def pool5 : Array CpInfo := pool [(2, .class_ 4), (1, u "java/lang/Enum"), (0, u "name"), (0, u "Ljava/lang/String;"), (2, u "ordinal"), (0, u "I"), (1, .class_ 14), (1, u "java/lang/Object"), (4, u "hash"), (86, .class_ 108), (1, u "java/lang/Enum$EnumDesc"), (2, .class_ 112), (0, u "java/lang/constant/Constable"), (0, .class_ 114), (0, u "java/lang/Comparable"), (0, .class_ 116), (0, u "java/io/Serializable")] 87

/-- java/lang/Enum -/
def k5 : Class := { plain "java/lang/Enum" (some 0) with
  accessFlags := 1057
  interfaces := #[2, 3, 4]
  cf := some (fileOf pool5 2 #[.nestMembers #[106]] #[] 1057 12 #[111, 113, 115] #[{ accessFlags := 18, nameIndex := 5, descriptorIndex := 6, attributes := #[] }, { accessFlags := 18, nameIndex := 9, descriptorIndex := 10, attributes := #[] }, { accessFlags := 2, nameIndex := 19, descriptorIndex := 10, attributes := #[] }])
  fields := #[{ name := "name", type := (.object "java/lang/String"), accessFlags := 18, slot := 0, constantValue := 0 }, { name := "ordinal", type := .int, accessFlags := 18, slot := 1, constantValue := 0 }, { name := "hash", type := .int, accessFlags := 2, slot := 2, constantValue := 0 }]
  methods := #[]
  instanceTypes := #[(.object "java/lang/String"), .int, .int]
  staticTypes := #[]
  resolved := Array.replicate 204 none
  statics := none }

def pool6 : Array CpInfo := pool [(1, .class_ 2), (0, u "com/example/serigraph/serigraph/history/Schedule$Action"), (2, u "SHARED"), (0, u "Lcom/example/serigraph/serigraph/history/Schedule$Action;"), (2, u "EXCLUSIVE"), (2, u "UNLOCK"), (2, u "READ"), (2, u "WRITE"), (2, u "COMMIT"), (2, u "ABORT"), (2, u "$VALUES"), (0, u "[Lcom/example/serigraph/serigraph/history/Schedule$Action;"), (6, .class_ 37), (1, u "java/lang/Enum"), (6, .fieldref 1 45), (0, .nameAndType 46 47), (0, u "operation"), (0, u "Lcom/example/serigraph/serigraph/history/Operation$Action;"), (31, u "isLockStep"), (0, u "()Z"), (7, .class_ 89), (0, u "com/example/serigraph/serigraph/history/Schedule")] 4

def k6c0 : Code := { maxStack := 1, maxLocals := 1, code := prog_21_method_4_code, exceptionTable := #[], attributes := #[] }
def k6m0 : Method := { name := "isLockStep", desc := "()Z", sig := { parameters := [], returnType := some .boolean }, accessFlags := 1, code := some k6c0 }
/-- com/example/serigraph/serigraph/history/Schedule$Action -/
def k6 : Class := { plain "com/example/serigraph/serigraph/history/Schedule$Action" (some 5) with
  accessFlags := 16433
  interfaces := #[]
  cf := some (fileOf pool6 1 #[.nestHost 88] #[{ accessFlags := 1, nameIndex := 79, descriptorIndex := 80, attributes := #[] }] 16433 35 #[] #[{ accessFlags := 16409, nameIndex := 5, descriptorIndex := 6, attributes := #[] }, { accessFlags := 16409, nameIndex := 9, descriptorIndex := 6, attributes := #[] }, { accessFlags := 16409, nameIndex := 12, descriptorIndex := 6, attributes := #[] }, { accessFlags := 16409, nameIndex := 15, descriptorIndex := 6, attributes := #[] }, { accessFlags := 16409, nameIndex := 18, descriptorIndex := 6, attributes := #[] }, { accessFlags := 16409, nameIndex := 21, descriptorIndex := 6, attributes := #[] }, { accessFlags := 16409, nameIndex := 24, descriptorIndex := 6, attributes := #[] }, { accessFlags := 16, nameIndex := 46, descriptorIndex := 47, attributes := #[] }, { accessFlags := 4122, nameIndex := 27, descriptorIndex := 28, attributes := #[] }])
  fields := #[{ name := "SHARED", type := (.object "com/example/serigraph/serigraph/history/Schedule$Action"), accessFlags := 16409, slot := 0, constantValue := 0 }, { name := "EXCLUSIVE", type := (.object "com/example/serigraph/serigraph/history/Schedule$Action"), accessFlags := 16409, slot := 1, constantValue := 0 }, { name := "UNLOCK", type := (.object "com/example/serigraph/serigraph/history/Schedule$Action"), accessFlags := 16409, slot := 2, constantValue := 0 }, { name := "READ", type := (.object "com/example/serigraph/serigraph/history/Schedule$Action"), accessFlags := 16409, slot := 3, constantValue := 0 }, { name := "WRITE", type := (.object "com/example/serigraph/serigraph/history/Schedule$Action"), accessFlags := 16409, slot := 4, constantValue := 0 }, { name := "COMMIT", type := (.object "com/example/serigraph/serigraph/history/Schedule$Action"), accessFlags := 16409, slot := 5, constantValue := 0 }, { name := "ABORT", type := (.object "com/example/serigraph/serigraph/history/Schedule$Action"), accessFlags := 16409, slot := 6, constantValue := 0 }, { name := "operation", type := (.object "com/example/serigraph/serigraph/history/Operation$Action"), accessFlags := 16, slot := 3, constantValue := 0 }, { name := "$VALUES", type := (.array (.object "com/example/serigraph/serigraph/history/Schedule$Action")), accessFlags := 4122, slot := 7, constantValue := 0 }]
  methods := #[k6m0]
  instanceTypes := #[(.object "java/lang/String"), .int, .int, (.object "com/example/serigraph/serigraph/history/Operation$Action")]
  staticTypes := #[(.object "com/example/serigraph/serigraph/history/Schedule$Action"), (.object "com/example/serigraph/serigraph/history/Schedule$Action"), (.object "com/example/serigraph/serigraph/history/Schedule$Action"), (.object "com/example/serigraph/serigraph/history/Schedule$Action"), (.object "com/example/serigraph/serigraph/history/Schedule$Action"), (.object "com/example/serigraph/serigraph/history/Schedule$Action"), (.object "com/example/serigraph/serigraph/history/Schedule$Action"), (.array (.object "com/example/serigraph/serigraph/history/Schedule$Action"))]
  resolved := Array.replicate 94 none
  statics := some 0 }

def pool7 : Array CpInfo := pool [(1, .class_ 2), (0, u "com/example/serigraph/serigraph/history/Operation$Action"), (2, u "READ"), (0, u "Lcom/example/serigraph/serigraph/history/Operation$Action;"), (2, u "WRITE"), (2, u "COMMIT"), (2, u "ABORT"), (2, u "$VALUES"), (0, u "[Lcom/example/serigraph/serigraph/history/Operation$Action;"), (6, .class_ 28), (1, u "java/lang/Enum"), (30, .class_ 60), (0, u "com/example/serigraph/serigraph/history/Operation")] 2

/-- com/example/serigraph/serigraph/history/Operation$Action -/
def k7 : Class := { plain "com/example/serigraph/serigraph/history/Operation$Action" (some 5) with
  accessFlags := 16433
  interfaces := #[]
  cf := some (fileOf pool7 1 #[.nestHost 59] #[] 16433 26 #[] #[{ accessFlags := 16409, nameIndex := 5, descriptorIndex := 6, attributes := #[] }, { accessFlags := 16409, nameIndex := 9, descriptorIndex := 6, attributes := #[] }, { accessFlags := 16409, nameIndex := 12, descriptorIndex := 6, attributes := #[] }, { accessFlags := 16409, nameIndex := 15, descriptorIndex := 6, attributes := #[] }, { accessFlags := 4122, nameIndex := 18, descriptorIndex := 19, attributes := #[] }])
  fields := #[{ name := "READ", type := (.object "com/example/serigraph/serigraph/history/Operation$Action"), accessFlags := 16409, slot := 0, constantValue := 0 }, { name := "WRITE", type := (.object "com/example/serigraph/serigraph/history/Operation$Action"), accessFlags := 16409, slot := 1, constantValue := 0 }, { name := "COMMIT", type := (.object "com/example/serigraph/serigraph/history/Operation$Action"), accessFlags := 16409, slot := 2, constantValue := 0 }, { name := "ABORT", type := (.object "com/example/serigraph/serigraph/history/Operation$Action"), accessFlags := 16409, slot := 3, constantValue := 0 }, { name := "$VALUES", type := (.array (.object "com/example/serigraph/serigraph/history/Operation$Action")), accessFlags := 4122, slot := 4, constantValue := 0 }]
  methods := #[]
  instanceTypes := #[(.object "java/lang/String"), .int, .int]
  staticTypes := #[(.object "com/example/serigraph/serigraph/history/Operation$Action"), (.object "com/example/serigraph/serigraph/history/Operation$Action"), (.object "com/example/serigraph/serigraph/history/Operation$Action"), (.object "com/example/serigraph/serigraph/history/Operation$Action"), (.array (.object "com/example/serigraph/serigraph/history/Operation$Action"))]
  resolved := Array.replicate 63 none
  statics := some 1 }

def pool8 : Array CpInfo := pool [(1, u "java/lang/Cloneable"), (0, .class_ 1), (0, u "java/lang/Object"), (0, .class_ 3)] 3

/-- java/lang/Cloneable -/
def k8 : Class := { plain "java/lang/Cloneable" (some 0) with
  accessFlags := 1537
  interfaces := #[]
  cf := some (fileOf pool8 2 #[] #[] 1537 4 #[] #[])
  fields := #[]
  methods := #[]
  instanceTypes := #[]
  staticTypes := #[]
  resolved := Array.replicate 8 none
  statics := none }

/-- the primitive byte -/
def k9 : Class := { plain "byte" none with kind := .primitive 'B', accessFlags := 0x411 }
/-- [B -/
def k10 : Class := { plain "[B" (some 0) with kind := .array 9 .byte, interfaces := #[8, 4], accessFlags := 1041 }

def heap : Heap := #[{ cls := 6, slots := #[.ref 2, .ref 12, .ref 11, .ref 3, .ref 9, .ref 5, .ref 7, .null], vm := .statics 6 },
  { cls := 7, slots := #[.ref 4, .ref 10, .ref 6, .ref 8, .null], vm := .statics 7 },
  { cls := 6, slots := #[.null, .int 0, .int 0, .null], vm := .none },
  { cls := 6, slots := #[.null, .int 0, .int 0, .ref 4], vm := .none },
  { cls := 7, slots := #[.null, .int 0, .int 0], vm := .none },
  { cls := 6, slots := #[.null, .int 0, .int 0, .ref 6], vm := .none },
  { cls := 7, slots := #[.null, .int 0, .int 0], vm := .none },
  { cls := 6, slots := #[.null, .int 0, .int 0, .ref 8], vm := .none },
  { cls := 7, slots := #[.null, .int 0, .int 0], vm := .none },
  { cls := 6, slots := #[.null, .int 0, .int 0, .ref 10], vm := .none },
  { cls := 7, slots := #[.null, .int 0, .int 0], vm := .none },
  { cls := 6, slots := #[.null, .int 0, .int 0, .null], vm := .none },
  { cls := 6, slots := #[.null, .int 0, .int 0, .null], vm := .none }]
def classes : Array Class := #[k0, k1, k2, k3, k4, k5, k6, k7, k8, k9, k10]
def interned : List (Array UInt16 × Addr) := []
def slotsUsed : Nat := 53
def theMethod : MethodId := ⟨1, 2⟩
def args0 : Array Value := #[.int 5]
def aboutOver (below : List Frame) : State where
  vm := { classes := classes, interned := interned.toArray }
  heap := heap
  slotsUsed := slotsUsed
  threads := #[{ frames := .invoking theMethod args0 :: below }]
def below0 : List Frame := [.native { method := ⟨0, 0⟩, args := #[] }]
def about1 : State := aboutOver below0
def p0 : Program := .bare "" "" ""
def e0 : Env := launch0.env 0 0 0
theorem w_frames : about1.frames = Frame.invoking theMethod args0 :: below0 := rfl
set_option maxRecDepth 65536 in
theorem w_args : argsFit about1.vm theMethod args0 = true := by decide +kernel
set_option maxRecDepth 65536 in
theorem w_heap : heapFits about1 = true := by decide +kernel
set_option maxRecDepth 65536 in
theorem w_runnable : about1.curStatus? = some .runnable := by decide +kernel
set_option maxRecDepth 65536 in
theorem w_alone : about1.alone = true := by decide +kernel
set_option maxRecDepth 65536 in
theorem w_named : about1.methodNamed? x = some theMethod := by decide +kernel
set_option maxRecDepth 65536 in
theorem w_hears : about1.hears theMethod below0 = true := by decide +kernel
set_option maxRecDepth 65536 in
theorem w_ripe : about1.ripe theMethod args0 below0 = true := by decide +kernel
theorem w_running : about1.status = .running := rfl
set_option maxRecDepth 65536 in
theorem w_room : about1.hasRoom e0.platform room_1 = true :=
  launch0.hasRoom_least _ room_1 (by decide +kernel) (by decide +kernel) (by decide +kernel) (by decide +kernel) (by decide +kernel) (by decide +kernel)
theorem allAtoms_all (ts : List Jvm.Cond) (a : Array Jvm.Value) (st : Jvm.State) : (allAtoms ts).before a st = ts.all (fun c => c.before a st) := by
  induction ts with
  | nil => rfl
  | cons c t ih =>
    show (Jvm.Cond.and c (allAtoms t)).before a st = _
    rw [Jvm.Cond.before_and, ih, List.all_cons]
def words1 : List Jvm.Cond := Jvm.Cond.code x code maxLocals ret :: tables_1
/-- a 'code' word, met by the world's own term for the bytes: nothing is compared byte by byte -/
theorem code_word {y : MethodName} {bytes : ByteArray} {mx : Nat} {rt : Option FieldType} {a : Array Value} {s : State} {m : MethodId} {meth : Method} {c : Code} (h1 : s.methodNamed? y = some m) (h2 : s.vm.method? m = some meth) (h3 : meth.code = some c) (h4 : c.code = bytes)
    (h5 : (c.maxLocals == mx && c.exceptionTable.isEmpty && decide (c.maxStack ≤ mostOperands) && decide (meth.sig.returnType = rt) && !meth.locks && decide (parseMethodDescriptor y.desc = some meth.sig)) = true) : (Jvm.Cond.code y bytes mx rt).before a s = true := by
  simp only [Bool.and_eq_true, beq_iff_eq, Bool.not_eq_true', decide_eq_true_eq] at h5
  obtain ⟨⟨⟨⟨⟨g1, g2⟩, g3⟩, g4⟩, g5⟩, g6⟩ := h5
  simp [Cond.before, Cond.holds, Cond.value, h1, h2, h3, h4, g1, g2, g3, g4, g5, g6]
def isCode : Jvm.Cond → Bool
  | .code _ _ _ _ => true
  | _ => false
theorem all_split {L : List Jvm.Cond} {P : Jvm.Cond → Bool} (h1 : L.all (fun c => isCode c || P c) = true) (h2 : ∀ c ∈ L.filter isCode, P c = true) : L.all P = true := by
  refine List.all_eq_true.mpr fun c hc => ?_
  have h := List.all_eq_true.mp h1 c hc
  rcases Bool.eq_false_or_eq_true (isCode c) with hi | hi
  · exact h2 c (List.mem_filter.mpr ⟨hc, hi⟩)
  · simpa [hi] using h
set_option maxRecDepth 65536 in
theorem w_c0 : (Jvm.Cond.code x code maxLocals ret).before args0 about1 = true := code_word (m := ⟨1, 2⟩) (meth := k1m2) (c := k1c2) (by decide +kernel) rfl rfl rfl (by decide +kernel)
set_option maxRecDepth 65536 in
theorem w_c1 : (Jvm.Cond.code ({ cls := "com/example/serigraph/serigraph/history/ActionIsLockStepPinLaw", name := "pick", desc := "(I)Lcom/example/serigraph/serigraph/history/Schedule$Action;" } : Jvm.MethodName) method_2_code (1 : Nat) (Option.some (Jvm.ClassFile.FieldType.object "com/example/serigraph/serigraph/history/Schedule$Action"))).before args0 about1 = true := code_word (m := ⟨1, 1⟩) (meth := k1m1) (c := k1c1) (by decide +kernel) rfl rfl rfl (by decide +kernel)
set_option maxRecDepth 65536 in
theorem w_c2 : (Jvm.Cond.code ({ cls := "com/example/serigraph/serigraph/history/Schedule$Action", name := "isLockStep", desc := "()Z" } : Jvm.MethodName) prog_21_method_4_code (1 : Nat) (Option.some Jvm.ClassFile.FieldType.boolean)).before args0 about1 = true := code_word (m := ⟨6, 0⟩) (meth := k6m0) (c := k6c0) (by decide +kernel) rfl rfl rfl (by decide +kernel)
def codes1 : List Jvm.Cond := [Jvm.Cond.code x code maxLocals ret, Jvm.Cond.code ({ cls := "com/example/serigraph/serigraph/history/ActionIsLockStepPinLaw", name := "pick", desc := "(I)Lcom/example/serigraph/serigraph/history/Schedule$Action;" } : Jvm.MethodName) method_2_code (1 : Nat) (Option.some (Jvm.ClassFile.FieldType.object "com/example/serigraph/serigraph/history/Schedule$Action")), Jvm.Cond.code ({ cls := "com/example/serigraph/serigraph/history/Schedule$Action", name := "isLockStep", desc := "()Z" } : Jvm.MethodName) prog_21_method_4_code (1 : Nat) (Option.some Jvm.ClassFile.FieldType.boolean)]
set_option maxRecDepth 65536 in
theorem codes_eq : words1.filter isCode = codes1 := rfl
theorem w_codes : ∀ c ∈ words1.filter isCode, c.before args0 about1 = true := by
  rw [codes_eq]
  intro c hc
  simp only [codes1, List.mem_cons, List.not_mem_nil, or_false] at hc
  rcases hc with rfl | rfl | rfl
  · exact w_c0
  · exact w_c1
  · exact w_c2
set_option maxRecDepth 65536 in
theorem w_t1 : (words1.take 24).all (fun c => isCode c || c.before args0 about1) = true := by decide +kernel
set_option maxRecDepth 65536 in
theorem w_t2 : (words1.drop 24).all (fun c => isCode c || c.before args0 about1) = true := by decide +kernel
theorem w_tables : (allAtoms (Jvm.Cond.code x code maxLocals ret :: tables_1)).before args0 about1 = true := by
  rw [allAtoms_all]
  show words1.all (fun c => c.before args0 about1) = true
  refine all_split ?_ w_codes
  rw [← List.take_append_drop 24 words1, List.all_append, w_t1, w_t2]
  rfl
set_option maxRecDepth 65536 in
theorem w_case : (Jvm.Cond.and given_1 narrow_1).before args0 about1 = true := by decide +kernel
theorem w_applies : (headSpec (Jvm.Cond.code x code maxLocals ret :: tables_1) room_1).applies x e0.platform about1 = true :=
  (Spec.applies_iff w_frames).mpr ⟨w_running, w_runnable, w_alone, w_named, w_hears, w_ripe, w_room, w_tables⟩
theorem atStart : AtStart classFile x code maxLocals ret World_1 tables_1 room_1 Calls_1 rest_1 Pre_1 launch0 p0 e0 about1 theMethod args0 below0 :=
  ⟨lists_1, trivial, launch0.admits_env _ _ _, launch0.least_env, fairChoices_fair.cas, fairChoices_fair.clock, w_frames, w_args, w_heap, w_applies, trivial, trivial, w_case⟩
end start1
theorem witness_1 : WitnessClaimed_1 := ⟨start1.p0, start1.e0, start1.about1, start1.theMethod, start1.args0, start1.below0, start1.atStart⟩
end Jvm.Pilot.@@N@@
