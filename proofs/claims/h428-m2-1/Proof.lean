import JvmDerived
import JvmDerived.Pilot.@@N@@Statement
import JvmDerived.Pilot.@@N@@Code
set_option linter.unusedVariables false
set_option linter.unusedSimpArgs false
namespace Jvm.Pilot.@@N@@
open Jvm Jvm.ClassFile Sem Op Lib Jvm.Free Jvm.Stand Jvm.LawKit Jvm.RoadKit Bundle Jvm.Pilot.@@N@@.Jvm.D
theorem own_fldI {t : Term} {C n d : String} {args : Array Value} {s : State} {a : Addr} {z : Int32} (ev : t.eval args s none [] s = some (.ref a)) (h : (Jvm.Cond.eq (Term.field t C n d) (Term.int z)).value args s none s [] = some true) : Fld s s.heap a C n d (.int z) := by
  obtain ⟨x, y, hx, hy, k1, k2⟩ := cmp_v (Or.inl h)
  cases (Term.int_eval z).symm.trans hy
  obtain ⟨q, rfl⟩ := k2
  have hq : q = z := by
    have h' := h
    simp only [Cond.value, hx, Term.int_eval] at h'
    simpa using h'
  subst hq
  exact Fld.start ((fld_at ev).symm.trans hx)
theorem own_fldR {t u : Term} {C n d : String} {args : Array Value} {s : State} {a b : Addr} (ev : t.eval args s none [] s = some (.ref a)) (eu : u.eval args s none [] s = some (.ref b)) (h : (Jvm.Cond.eq (Term.field t C n d) u).value args s none s [] = some true) : Fld s s.heap a C n d (.ref b) := by
  obtain ⟨x, y, hx, hy, k1, k2⟩ := cmp_v (Or.inl h)
  cases eu.symm.trans hy
  have hxr : x.isRef = true := k2.2
  have hq : x = .ref b := gotT (eq_R hx eu hxr rfl) h
  subst hq
  exact Fld.start ((fld_at ev).symm.trans hx)
theorem own_fldN {t : Term} {C n d : String} {args : Array Value} {s : State} {a : Addr} (ev : t.eval args s none [] s = some (.ref a)) (h : (Jvm.Cond.eq (Term.field t C n d) .null).value args s none s [] = some true) : Fld s s.heap a C n d .null :=
  Fld.start ((fld_at ev).symm.trans (null_v h))
theorem own_inj {Z : State} {h : Heap} {a : Addr} {C n d : String} {v w : Value} (F : Fld Z h a C n d v) (G : Fld Z h a C n d w) : v = w := by
  obtain ⟨c1, cf, k, i, f, h1, h2, -, -, -, -, h7⟩ := F
  obtain ⟨c2, cf', k', i', f', g1, g2, -, -, -, -, g7⟩ := G
  cases h1.symm.trans g1
  cases h2.symm.trans g2
  exact Option.some.inj (h7.symm.trans g7)
theorem own_ne {Z : State} {h : Heap} {a b : Addr} {C n d : String} {x y : Int32} (F : Fld Z h a C n d (.int x)) (G : Fld Z h b C n d (.int y)) (hn : x ≠ y) : ¬ (a = b) := fun e => by
  subst e
  exact hn (Value.int.inj (own_inj F G))
def World (Z : State) (h : Heap) (w_REFUGE w_FIRE w_HYDRANT w_CIVILIAN w_FIRE_BRIGADE w_POLICE_FORCE w_AMBULANCE_TEAM w_FIRE_STATION w_POLICE_OFFICE w_AMBULANCE_CENTRE : Addr) : Prop := Sta Z h "com/example/musterpoint/musterpoint/world/Scenario$Kind" "REFUGE" "Lcom/example/musterpoint/musterpoint/world/Scenario$Kind;" (.ref w_REFUGE) ∧ Exa Z h w_REFUGE "com/example/musterpoint/musterpoint/world/Scenario$Kind" ∧ Sta Z h "com/example/musterpoint/musterpoint/world/Scenario$Kind" "FIRE" "Lcom/example/musterpoint/musterpoint/world/Scenario$Kind;" (.ref w_FIRE) ∧ Exa Z h w_FIRE "com/example/musterpoint/musterpoint/world/Scenario$Kind" ∧ Sta Z h "com/example/musterpoint/musterpoint/world/Scenario$Kind" "HYDRANT" "Lcom/example/musterpoint/musterpoint/world/Scenario$Kind;" (.ref w_HYDRANT) ∧ Exa Z h w_HYDRANT "com/example/musterpoint/musterpoint/world/Scenario$Kind" ∧ Sta Z h "com/example/musterpoint/musterpoint/world/Scenario$Kind" "CIVILIAN" "Lcom/example/musterpoint/musterpoint/world/Scenario$Kind;" (.ref w_CIVILIAN) ∧ Exa Z h w_CIVILIAN "com/example/musterpoint/musterpoint/world/Scenario$Kind" ∧ Sta Z h "com/example/musterpoint/musterpoint/world/Scenario$Kind" "FIRE_BRIGADE" "Lcom/example/musterpoint/musterpoint/world/Scenario$Kind;" (.ref w_FIRE_BRIGADE) ∧ Exa Z h w_FIRE_BRIGADE "com/example/musterpoint/musterpoint/world/Scenario$Kind" ∧ Sta Z h "com/example/musterpoint/musterpoint/world/Scenario$Kind" "POLICE_FORCE" "Lcom/example/musterpoint/musterpoint/world/Scenario$Kind;" (.ref w_POLICE_FORCE) ∧ Exa Z h w_POLICE_FORCE "com/example/musterpoint/musterpoint/world/Scenario$Kind" ∧ Sta Z h "com/example/musterpoint/musterpoint/world/Scenario$Kind" "AMBULANCE_TEAM" "Lcom/example/musterpoint/musterpoint/world/Scenario$Kind;" (.ref w_AMBULANCE_TEAM) ∧ Exa Z h w_AMBULANCE_TEAM "com/example/musterpoint/musterpoint/world/Scenario$Kind" ∧ Sta Z h "com/example/musterpoint/musterpoint/world/Scenario$Kind" "FIRE_STATION" "Lcom/example/musterpoint/musterpoint/world/Scenario$Kind;" (.ref w_FIRE_STATION) ∧ Exa Z h w_FIRE_STATION "com/example/musterpoint/musterpoint/world/Scenario$Kind" ∧ Sta Z h "com/example/musterpoint/musterpoint/world/Scenario$Kind" "POLICE_OFFICE" "Lcom/example/musterpoint/musterpoint/world/Scenario$Kind;" (.ref w_POLICE_OFFICE) ∧ Exa Z h w_POLICE_OFFICE "com/example/musterpoint/musterpoint/world/Scenario$Kind" ∧ Sta Z h "com/example/musterpoint/musterpoint/world/Scenario$Kind" "AMBULANCE_CENTRE" "Lcom/example/musterpoint/musterpoint/world/Scenario$Kind;" (.ref w_AMBULANCE_CENTRE) ∧ Exa Z h w_AMBULANCE_CENTRE "com/example/musterpoint/musterpoint/world/Scenario$Kind" ∧ Fld Z h w_REFUGE "java/lang/Enum" "ordinal" "I" (.int (0 : Int32)) ∧ Fld Z h w_FIRE_STATION "java/lang/Enum" "ordinal" "I" (.int (7 : Int32)) ∧ Fld Z h w_POLICE_OFFICE "java/lang/Enum" "ordinal" "I" (.int (8 : Int32)) ∧ Fld Z h w_AMBULANCE_CENTRE "java/lang/Enum" "ordinal" "I" (.int (9 : Int32)) ∧ Fld Z h w_CIVILIAN "java/lang/Enum" "ordinal" "I" (.int (3 : Int32)) ∧ Fld Z h w_FIRE "java/lang/Enum" "ordinal" "I" (.int (1 : Int32)) ∧ Fld Z h w_FIRE_BRIGADE "java/lang/Enum" "ordinal" "I" (.int (4 : Int32)) ∧ Fld Z h w_HYDRANT "java/lang/Enum" "ordinal" "I" (.int (2 : Int32)) ∧ Fld Z h w_POLICE_FORCE "java/lang/Enum" "ordinal" "I" (.int (5 : Int32)) ∧ Fld Z h w_AMBULANCE_TEAM "java/lang/Enum" "ordinal" "I" (.int (6 : Int32))
theorem own_mod (x k : Int32) (n : Int) (hk : k.toInt = n) (hn : 0 < n) : 0 ≤ ((x &&& (2147483647 : Int32)) % k).toInt ∧ ((x &&& (2147483647 : Int32)) % k).toInt < n := by
  have e1 : (x &&& (2147483647 : Int32)).toInt = x.toInt % (2 ^ 31 : Nat) := c_mask x 2147483647 31 (by decide) (by decide)
  have e2 := (c_irem (x &&& (2147483647 : Int32)) k n hk).1 (by rw [e1]; omega)
  rw [e2]
  exact ⟨Int.emod_nonneg _ (by omega), Int.emod_lt_of_pos _ hn⟩
def own_pick (k : Int32) (w_REFUGE w_FIRE w_HYDRANT w_CIVILIAN w_FIRE_BRIGADE w_POLICE_FORCE w_AMBULANCE_TEAM w_FIRE_STATION w_POLICE_OFFICE w_AMBULANCE_CENTRE : Addr) : Addr := if k = (0 : Int32) then w_REFUGE else if k = (1 : Int32) then w_FIRE else if k = (2 : Int32) then w_HYDRANT else if k = (3 : Int32) then w_CIVILIAN else if k = (4 : Int32) then w_FIRE_BRIGADE else if k = (5 : Int32) then w_POLICE_FORCE else if k = (6 : Int32) then w_AMBULANCE_TEAM else if k = (7 : Int32) then w_FIRE_STATION else if k = (8 : Int32) then w_POLICE_OFFICE else w_AMBULANCE_CENTRE
def own_isC (a b1 b2 b3 : Addr) : Int32 := if a = b1 then (1 : Int32) else if a = b2 then 1 else if a = b3 then 1 else 0
def own_cen (k : Int32) : Int32 := if k = (7 : Int32) then 1 else if k = (8 : Int32) then 1 else if k = (9 : Int32) then 1 else 0
theorem own_mod10 (x : Int32) : ¬ (x &&& (2147483647 : Int32)) % (10 : Int32) < 0 ∧ (x &&& (2147483647 : Int32)) % (10 : Int32) < (10 : Int32) := by
  have h := own_mod x 10 10 (by decide) (by decide)
  have h0 : (0 : Int32).toInt = 0 := by decide
  have h1 : (10 : Int32).toInt = 10 := by decide
  simp only [Int32.lt_iff_toInt_lt, h0, h1]
  omega
theorem own_ten (k : Int32) (h : ¬ k < 0 ∧ k < (10 : Int32)) : k = (0 : Int32) ∨ k = (1 : Int32) ∨ k = (2 : Int32) ∨ k = (3 : Int32) ∨ k = (4 : Int32) ∨ k = (5 : Int32) ∨ k = (6 : Int32) ∨ k = (7 : Int32) ∨ k = (8 : Int32) ∨ k = (9 : Int32) := by
  have h0 : (0 : Int32).toInt = 0 := by decide
  have h10 : (10 : Int32).toInt = 10 := by decide
  simp only [Int32.lt_iff_toInt_lt, h0, h10] at h
  have h1 : (1 : Int32).toInt = 1 := by decide
  have h2 : (2 : Int32).toInt = 2 := by decide
  have h3 : (3 : Int32).toInt = 3 := by decide
  have h4 : (4 : Int32).toInt = 4 := by decide
  have h5 : (5 : Int32).toInt = 5 := by decide
  have h6 : (6 : Int32).toInt = 6 := by decide
  have h7 : (7 : Int32).toInt = 7 := by decide
  have h8 : (8 : Int32).toInt = 8 := by decide
  have h9 : (9 : Int32).toInt = 9 := by decide
  simp only [← Int32.toInt_inj, h0, h1, h2, h3, h4, h5, h6, h7, h8, h9]
  omega
theorem own_getR (k : Int32) (h : ¬ k < 0 ∧ k < (10 : Int32)) (w_REFUGE w_FIRE w_HYDRANT w_CIVILIAN w_FIRE_BRIGADE w_POLICE_FORCE w_AMBULANCE_TEAM w_FIRE_STATION w_POLICE_OFFICE w_AMBULANCE_CENTRE : Addr) : List.getD [Value.ref w_REFUGE, Value.ref w_FIRE, Value.ref w_HYDRANT, Value.ref w_CIVILIAN, Value.ref w_FIRE_BRIGADE, Value.ref w_POLICE_FORCE, Value.ref w_AMBULANCE_TEAM, Value.ref w_FIRE_STATION, Value.ref w_POLICE_OFFICE, Value.ref w_AMBULANCE_CENTRE] k.toNatClampNeg Value.null = .ref (own_pick k w_REFUGE w_FIRE w_HYDRANT w_CIVILIAN w_FIRE_BRIGADE w_POLICE_FORCE w_AMBULANCE_TEAM w_FIRE_STATION w_POLICE_OFFICE w_AMBULANCE_CENTRE) := by
  rcases own_ten k h with rfl | rfl | rfl | rfl | rfl | rfl | rfl | rfl | rfl | rfl <;> rfl
theorem own_getB (k : Int32) (h : ¬ k < 0 ∧ k < (10 : Int32)) : List.getD [Value.int (0 : Int32), Value.int (0 : Int32), Value.int (0 : Int32), Value.int (0 : Int32), Value.int (0 : Int32), Value.int (0 : Int32), Value.int (0 : Int32), Value.int (1 : Int32), Value.int (1 : Int32), Value.int (1 : Int32)] k.toNatClampNeg (Value.int (0 : Int32)) = .int (own_cen k) := by
  rcases own_ten k h with rfl | rfl | rfl | rfl | rfl | rfl | rfl | rfl | rfl | rfl <;> rfl
theorem own_val {Z : State} {h : Heap} {w_REFUGE w_FIRE w_HYDRANT w_CIVILIAN w_FIRE_BRIGADE w_POLICE_FORCE w_AMBULANCE_TEAM w_FIRE_STATION w_POLICE_OFFICE w_AMBULANCE_CENTRE : Addr} (WD : World Z h w_REFUGE w_FIRE w_HYDRANT w_CIVILIAN w_FIRE_BRIGADE w_POLICE_FORCE w_AMBULANCE_TEAM w_FIRE_STATION w_POLICE_OFFICE w_AMBULANCE_CENTRE) (k : Int32) (hk : ¬ k < 0 ∧ k < (10 : Int32)) : own_isC (own_pick k w_REFUGE w_FIRE w_HYDRANT w_CIVILIAN w_FIRE_BRIGADE w_POLICE_FORCE w_AMBULANCE_TEAM w_FIRE_STATION w_POLICE_OFFICE w_AMBULANCE_CENTRE) w_FIRE_STATION w_POLICE_OFFICE w_AMBULANCE_CENTRE = own_cen k := by
  obtain ⟨S_REFUGE, E_REFUGE, S_FIRE, E_FIRE, S_HYDRANT, E_HYDRANT, S_CIVILIAN, E_CIVILIAN, S_FIRE_BRIGADE, E_FIRE_BRIGADE, S_POLICE_FORCE, E_POLICE_FORCE, S_AMBULANCE_TEAM, E_AMBULANCE_TEAM, S_FIRE_STATION, E_FIRE_STATION, S_POLICE_OFFICE, E_POLICE_OFFICE, S_AMBULANCE_CENTRE, E_AMBULANCE_CENTRE, F_REFUGE_ordinal, F_FIRE_STATION_ordinal, F_POLICE_OFFICE_ordinal, F_AMBULANCE_CENTRE_ordinal, F_CIVILIAN_ordinal, F_FIRE_ordinal, F_FIRE_BRIGADE_ordinal, F_HYDRANT_ordinal, F_POLICE_FORCE_ordinal, F_AMBULANCE_TEAM_ordinal⟩ := WD
  have ne_REFUGE_FIRE_STATION : ¬ (w_REFUGE = w_FIRE_STATION) := own_ne F_REFUGE_ordinal F_FIRE_STATION_ordinal (by decide)
  have ne_REFUGE_POLICE_OFFICE : ¬ (w_REFUGE = w_POLICE_OFFICE) := own_ne F_REFUGE_ordinal F_POLICE_OFFICE_ordinal (by decide)
  have ne_REFUGE_AMBULANCE_CENTRE : ¬ (w_REFUGE = w_AMBULANCE_CENTRE) := own_ne F_REFUGE_ordinal F_AMBULANCE_CENTRE_ordinal (by decide)
  have ne_FIRE_STATION_POLICE_OFFICE : ¬ (w_FIRE_STATION = w_POLICE_OFFICE) := own_ne F_FIRE_STATION_ordinal F_POLICE_OFFICE_ordinal (by decide)
  have ne_FIRE_STATION_AMBULANCE_CENTRE : ¬ (w_FIRE_STATION = w_AMBULANCE_CENTRE) := own_ne F_FIRE_STATION_ordinal F_AMBULANCE_CENTRE_ordinal (by decide)
  have ne_POLICE_OFFICE_FIRE_STATION : ¬ (w_POLICE_OFFICE = w_FIRE_STATION) := own_ne F_POLICE_OFFICE_ordinal F_FIRE_STATION_ordinal (by decide)
  have ne_POLICE_OFFICE_AMBULANCE_CENTRE : ¬ (w_POLICE_OFFICE = w_AMBULANCE_CENTRE) := own_ne F_POLICE_OFFICE_ordinal F_AMBULANCE_CENTRE_ordinal (by decide)
  have ne_AMBULANCE_CENTRE_FIRE_STATION : ¬ (w_AMBULANCE_CENTRE = w_FIRE_STATION) := own_ne F_AMBULANCE_CENTRE_ordinal F_FIRE_STATION_ordinal (by decide)
  have ne_AMBULANCE_CENTRE_POLICE_OFFICE : ¬ (w_AMBULANCE_CENTRE = w_POLICE_OFFICE) := own_ne F_AMBULANCE_CENTRE_ordinal F_POLICE_OFFICE_ordinal (by decide)
  have ne_CIVILIAN_FIRE_STATION : ¬ (w_CIVILIAN = w_FIRE_STATION) := own_ne F_CIVILIAN_ordinal F_FIRE_STATION_ordinal (by decide)
  have ne_CIVILIAN_POLICE_OFFICE : ¬ (w_CIVILIAN = w_POLICE_OFFICE) := own_ne F_CIVILIAN_ordinal F_POLICE_OFFICE_ordinal (by decide)
  have ne_CIVILIAN_AMBULANCE_CENTRE : ¬ (w_CIVILIAN = w_AMBULANCE_CENTRE) := own_ne F_CIVILIAN_ordinal F_AMBULANCE_CENTRE_ordinal (by decide)
  have ne_FIRE_FIRE_STATION : ¬ (w_FIRE = w_FIRE_STATION) := own_ne F_FIRE_ordinal F_FIRE_STATION_ordinal (by decide)
  have ne_FIRE_POLICE_OFFICE : ¬ (w_FIRE = w_POLICE_OFFICE) := own_ne F_FIRE_ordinal F_POLICE_OFFICE_ordinal (by decide)
  have ne_FIRE_AMBULANCE_CENTRE : ¬ (w_FIRE = w_AMBULANCE_CENTRE) := own_ne F_FIRE_ordinal F_AMBULANCE_CENTRE_ordinal (by decide)
  have ne_FIRE_BRIGADE_FIRE_STATION : ¬ (w_FIRE_BRIGADE = w_FIRE_STATION) := own_ne F_FIRE_BRIGADE_ordinal F_FIRE_STATION_ordinal (by decide)
  have ne_FIRE_BRIGADE_POLICE_OFFICE : ¬ (w_FIRE_BRIGADE = w_POLICE_OFFICE) := own_ne F_FIRE_BRIGADE_ordinal F_POLICE_OFFICE_ordinal (by decide)
  have ne_FIRE_BRIGADE_AMBULANCE_CENTRE : ¬ (w_FIRE_BRIGADE = w_AMBULANCE_CENTRE) := own_ne F_FIRE_BRIGADE_ordinal F_AMBULANCE_CENTRE_ordinal (by decide)
  have ne_HYDRANT_FIRE_STATION : ¬ (w_HYDRANT = w_FIRE_STATION) := own_ne F_HYDRANT_ordinal F_FIRE_STATION_ordinal (by decide)
  have ne_HYDRANT_POLICE_OFFICE : ¬ (w_HYDRANT = w_POLICE_OFFICE) := own_ne F_HYDRANT_ordinal F_POLICE_OFFICE_ordinal (by decide)
  have ne_HYDRANT_AMBULANCE_CENTRE : ¬ (w_HYDRANT = w_AMBULANCE_CENTRE) := own_ne F_HYDRANT_ordinal F_AMBULANCE_CENTRE_ordinal (by decide)
  have ne_POLICE_FORCE_FIRE_STATION : ¬ (w_POLICE_FORCE = w_FIRE_STATION) := own_ne F_POLICE_FORCE_ordinal F_FIRE_STATION_ordinal (by decide)
  have ne_POLICE_FORCE_POLICE_OFFICE : ¬ (w_POLICE_FORCE = w_POLICE_OFFICE) := own_ne F_POLICE_FORCE_ordinal F_POLICE_OFFICE_ordinal (by decide)
  have ne_POLICE_FORCE_AMBULANCE_CENTRE : ¬ (w_POLICE_FORCE = w_AMBULANCE_CENTRE) := own_ne F_POLICE_FORCE_ordinal F_AMBULANCE_CENTRE_ordinal (by decide)
  have ne_AMBULANCE_TEAM_FIRE_STATION : ¬ (w_AMBULANCE_TEAM = w_FIRE_STATION) := own_ne F_AMBULANCE_TEAM_ordinal F_FIRE_STATION_ordinal (by decide)
  have ne_AMBULANCE_TEAM_POLICE_OFFICE : ¬ (w_AMBULANCE_TEAM = w_POLICE_OFFICE) := own_ne F_AMBULANCE_TEAM_ordinal F_POLICE_OFFICE_ordinal (by decide)
  have ne_AMBULANCE_TEAM_AMBULANCE_CENTRE : ¬ (w_AMBULANCE_TEAM = w_AMBULANCE_CENTRE) := own_ne F_AMBULANCE_TEAM_ordinal F_AMBULANCE_CENTRE_ordinal (by decide)
  rcases own_ten k hk with rfl | rfl | rfl | rfl | rfl | rfl | rfl | rfl | rfl | rfl
  · simp [own_isC, own_pick, own_cen, ne_REFUGE_FIRE_STATION, ne_REFUGE_POLICE_OFFICE, ne_REFUGE_AMBULANCE_CENTRE, ne_FIRE_STATION_POLICE_OFFICE, ne_FIRE_STATION_AMBULANCE_CENTRE, ne_POLICE_OFFICE_FIRE_STATION, ne_POLICE_OFFICE_AMBULANCE_CENTRE, ne_AMBULANCE_CENTRE_FIRE_STATION, ne_AMBULANCE_CENTRE_POLICE_OFFICE, ne_CIVILIAN_FIRE_STATION, ne_CIVILIAN_POLICE_OFFICE, ne_CIVILIAN_AMBULANCE_CENTRE, ne_FIRE_FIRE_STATION, ne_FIRE_POLICE_OFFICE, ne_FIRE_AMBULANCE_CENTRE, ne_FIRE_BRIGADE_FIRE_STATION, ne_FIRE_BRIGADE_POLICE_OFFICE, ne_FIRE_BRIGADE_AMBULANCE_CENTRE, ne_HYDRANT_FIRE_STATION, ne_HYDRANT_POLICE_OFFICE, ne_HYDRANT_AMBULANCE_CENTRE, ne_POLICE_FORCE_FIRE_STATION, ne_POLICE_FORCE_POLICE_OFFICE, ne_POLICE_FORCE_AMBULANCE_CENTRE, ne_AMBULANCE_TEAM_FIRE_STATION, ne_AMBULANCE_TEAM_POLICE_OFFICE, ne_AMBULANCE_TEAM_AMBULANCE_CENTRE]
  · simp [own_isC, own_pick, own_cen, ne_REFUGE_FIRE_STATION, ne_REFUGE_POLICE_OFFICE, ne_REFUGE_AMBULANCE_CENTRE, ne_FIRE_STATION_POLICE_OFFICE, ne_FIRE_STATION_AMBULANCE_CENTRE, ne_POLICE_OFFICE_FIRE_STATION, ne_POLICE_OFFICE_AMBULANCE_CENTRE, ne_AMBULANCE_CENTRE_FIRE_STATION, ne_AMBULANCE_CENTRE_POLICE_OFFICE, ne_CIVILIAN_FIRE_STATION, ne_CIVILIAN_POLICE_OFFICE, ne_CIVILIAN_AMBULANCE_CENTRE, ne_FIRE_FIRE_STATION, ne_FIRE_POLICE_OFFICE, ne_FIRE_AMBULANCE_CENTRE, ne_FIRE_BRIGADE_FIRE_STATION, ne_FIRE_BRIGADE_POLICE_OFFICE, ne_FIRE_BRIGADE_AMBULANCE_CENTRE, ne_HYDRANT_FIRE_STATION, ne_HYDRANT_POLICE_OFFICE, ne_HYDRANT_AMBULANCE_CENTRE, ne_POLICE_FORCE_FIRE_STATION, ne_POLICE_FORCE_POLICE_OFFICE, ne_POLICE_FORCE_AMBULANCE_CENTRE, ne_AMBULANCE_TEAM_FIRE_STATION, ne_AMBULANCE_TEAM_POLICE_OFFICE, ne_AMBULANCE_TEAM_AMBULANCE_CENTRE]
  · simp [own_isC, own_pick, own_cen, ne_REFUGE_FIRE_STATION, ne_REFUGE_POLICE_OFFICE, ne_REFUGE_AMBULANCE_CENTRE, ne_FIRE_STATION_POLICE_OFFICE, ne_FIRE_STATION_AMBULANCE_CENTRE, ne_POLICE_OFFICE_FIRE_STATION, ne_POLICE_OFFICE_AMBULANCE_CENTRE, ne_AMBULANCE_CENTRE_FIRE_STATION, ne_AMBULANCE_CENTRE_POLICE_OFFICE, ne_CIVILIAN_FIRE_STATION, ne_CIVILIAN_POLICE_OFFICE, ne_CIVILIAN_AMBULANCE_CENTRE, ne_FIRE_FIRE_STATION, ne_FIRE_POLICE_OFFICE, ne_FIRE_AMBULANCE_CENTRE, ne_FIRE_BRIGADE_FIRE_STATION, ne_FIRE_BRIGADE_POLICE_OFFICE, ne_FIRE_BRIGADE_AMBULANCE_CENTRE, ne_HYDRANT_FIRE_STATION, ne_HYDRANT_POLICE_OFFICE, ne_HYDRANT_AMBULANCE_CENTRE, ne_POLICE_FORCE_FIRE_STATION, ne_POLICE_FORCE_POLICE_OFFICE, ne_POLICE_FORCE_AMBULANCE_CENTRE, ne_AMBULANCE_TEAM_FIRE_STATION, ne_AMBULANCE_TEAM_POLICE_OFFICE, ne_AMBULANCE_TEAM_AMBULANCE_CENTRE]
  · simp [own_isC, own_pick, own_cen, ne_REFUGE_FIRE_STATION, ne_REFUGE_POLICE_OFFICE, ne_REFUGE_AMBULANCE_CENTRE, ne_FIRE_STATION_POLICE_OFFICE, ne_FIRE_STATION_AMBULANCE_CENTRE, ne_POLICE_OFFICE_FIRE_STATION, ne_POLICE_OFFICE_AMBULANCE_CENTRE, ne_AMBULANCE_CENTRE_FIRE_STATION, ne_AMBULANCE_CENTRE_POLICE_OFFICE, ne_CIVILIAN_FIRE_STATION, ne_CIVILIAN_POLICE_OFFICE, ne_CIVILIAN_AMBULANCE_CENTRE, ne_FIRE_FIRE_STATION, ne_FIRE_POLICE_OFFICE, ne_FIRE_AMBULANCE_CENTRE, ne_FIRE_BRIGADE_FIRE_STATION, ne_FIRE_BRIGADE_POLICE_OFFICE, ne_FIRE_BRIGADE_AMBULANCE_CENTRE, ne_HYDRANT_FIRE_STATION, ne_HYDRANT_POLICE_OFFICE, ne_HYDRANT_AMBULANCE_CENTRE, ne_POLICE_FORCE_FIRE_STATION, ne_POLICE_FORCE_POLICE_OFFICE, ne_POLICE_FORCE_AMBULANCE_CENTRE, ne_AMBULANCE_TEAM_FIRE_STATION, ne_AMBULANCE_TEAM_POLICE_OFFICE, ne_AMBULANCE_TEAM_AMBULANCE_CENTRE]
  · simp [own_isC, own_pick, own_cen, ne_REFUGE_FIRE_STATION, ne_REFUGE_POLICE_OFFICE, ne_REFUGE_AMBULANCE_CENTRE, ne_FIRE_STATION_POLICE_OFFICE, ne_FIRE_STATION_AMBULANCE_CENTRE, ne_POLICE_OFFICE_FIRE_STATION, ne_POLICE_OFFICE_AMBULANCE_CENTRE, ne_AMBULANCE_CENTRE_FIRE_STATION, ne_AMBULANCE_CENTRE_POLICE_OFFICE, ne_CIVILIAN_FIRE_STATION, ne_CIVILIAN_POLICE_OFFICE, ne_CIVILIAN_AMBULANCE_CENTRE, ne_FIRE_FIRE_STATION, ne_FIRE_POLICE_OFFICE, ne_FIRE_AMBULANCE_CENTRE, ne_FIRE_BRIGADE_FIRE_STATION, ne_FIRE_BRIGADE_POLICE_OFFICE, ne_FIRE_BRIGADE_AMBULANCE_CENTRE, ne_HYDRANT_FIRE_STATION, ne_HYDRANT_POLICE_OFFICE, ne_HYDRANT_AMBULANCE_CENTRE, ne_POLICE_FORCE_FIRE_STATION, ne_POLICE_FORCE_POLICE_OFFICE, ne_POLICE_FORCE_AMBULANCE_CENTRE, ne_AMBULANCE_TEAM_FIRE_STATION, ne_AMBULANCE_TEAM_POLICE_OFFICE, ne_AMBULANCE_TEAM_AMBULANCE_CENTRE]
  · simp [own_isC, own_pick, own_cen, ne_REFUGE_FIRE_STATION, ne_REFUGE_POLICE_OFFICE, ne_REFUGE_AMBULANCE_CENTRE, ne_FIRE_STATION_POLICE_OFFICE, ne_FIRE_STATION_AMBULANCE_CENTRE, ne_POLICE_OFFICE_FIRE_STATION, ne_POLICE_OFFICE_AMBULANCE_CENTRE, ne_AMBULANCE_CENTRE_FIRE_STATION, ne_AMBULANCE_CENTRE_POLICE_OFFICE, ne_CIVILIAN_FIRE_STATION, ne_CIVILIAN_POLICE_OFFICE, ne_CIVILIAN_AMBULANCE_CENTRE, ne_FIRE_FIRE_STATION, ne_FIRE_POLICE_OFFICE, ne_FIRE_AMBULANCE_CENTRE, ne_FIRE_BRIGADE_FIRE_STATION, ne_FIRE_BRIGADE_POLICE_OFFICE, ne_FIRE_BRIGADE_AMBULANCE_CENTRE, ne_HYDRANT_FIRE_STATION, ne_HYDRANT_POLICE_OFFICE, ne_HYDRANT_AMBULANCE_CENTRE, ne_POLICE_FORCE_FIRE_STATION, ne_POLICE_FORCE_POLICE_OFFICE, ne_POLICE_FORCE_AMBULANCE_CENTRE, ne_AMBULANCE_TEAM_FIRE_STATION, ne_AMBULANCE_TEAM_POLICE_OFFICE, ne_AMBULANCE_TEAM_AMBULANCE_CENTRE]
  · simp [own_isC, own_pick, own_cen, ne_REFUGE_FIRE_STATION, ne_REFUGE_POLICE_OFFICE, ne_REFUGE_AMBULANCE_CENTRE, ne_FIRE_STATION_POLICE_OFFICE, ne_FIRE_STATION_AMBULANCE_CENTRE, ne_POLICE_OFFICE_FIRE_STATION, ne_POLICE_OFFICE_AMBULANCE_CENTRE, ne_AMBULANCE_CENTRE_FIRE_STATION, ne_AMBULANCE_CENTRE_POLICE_OFFICE, ne_CIVILIAN_FIRE_STATION, ne_CIVILIAN_POLICE_OFFICE, ne_CIVILIAN_AMBULANCE_CENTRE, ne_FIRE_FIRE_STATION, ne_FIRE_POLICE_OFFICE, ne_FIRE_AMBULANCE_CENTRE, ne_FIRE_BRIGADE_FIRE_STATION, ne_FIRE_BRIGADE_POLICE_OFFICE, ne_FIRE_BRIGADE_AMBULANCE_CENTRE, ne_HYDRANT_FIRE_STATION, ne_HYDRANT_POLICE_OFFICE, ne_HYDRANT_AMBULANCE_CENTRE, ne_POLICE_FORCE_FIRE_STATION, ne_POLICE_FORCE_POLICE_OFFICE, ne_POLICE_FORCE_AMBULANCE_CENTRE, ne_AMBULANCE_TEAM_FIRE_STATION, ne_AMBULANCE_TEAM_POLICE_OFFICE, ne_AMBULANCE_TEAM_AMBULANCE_CENTRE]
  · simp [own_isC, own_pick, own_cen, ne_REFUGE_FIRE_STATION, ne_REFUGE_POLICE_OFFICE, ne_REFUGE_AMBULANCE_CENTRE, ne_FIRE_STATION_POLICE_OFFICE, ne_FIRE_STATION_AMBULANCE_CENTRE, ne_POLICE_OFFICE_FIRE_STATION, ne_POLICE_OFFICE_AMBULANCE_CENTRE, ne_AMBULANCE_CENTRE_FIRE_STATION, ne_AMBULANCE_CENTRE_POLICE_OFFICE, ne_CIVILIAN_FIRE_STATION, ne_CIVILIAN_POLICE_OFFICE, ne_CIVILIAN_AMBULANCE_CENTRE, ne_FIRE_FIRE_STATION, ne_FIRE_POLICE_OFFICE, ne_FIRE_AMBULANCE_CENTRE, ne_FIRE_BRIGADE_FIRE_STATION, ne_FIRE_BRIGADE_POLICE_OFFICE, ne_FIRE_BRIGADE_AMBULANCE_CENTRE, ne_HYDRANT_FIRE_STATION, ne_HYDRANT_POLICE_OFFICE, ne_HYDRANT_AMBULANCE_CENTRE, ne_POLICE_FORCE_FIRE_STATION, ne_POLICE_FORCE_POLICE_OFFICE, ne_POLICE_FORCE_AMBULANCE_CENTRE, ne_AMBULANCE_TEAM_FIRE_STATION, ne_AMBULANCE_TEAM_POLICE_OFFICE, ne_AMBULANCE_TEAM_AMBULANCE_CENTRE]
  · simp [own_isC, own_pick, own_cen, ne_REFUGE_FIRE_STATION, ne_REFUGE_POLICE_OFFICE, ne_REFUGE_AMBULANCE_CENTRE, ne_FIRE_STATION_POLICE_OFFICE, ne_FIRE_STATION_AMBULANCE_CENTRE, ne_POLICE_OFFICE_FIRE_STATION, ne_POLICE_OFFICE_AMBULANCE_CENTRE, ne_AMBULANCE_CENTRE_FIRE_STATION, ne_AMBULANCE_CENTRE_POLICE_OFFICE, ne_CIVILIAN_FIRE_STATION, ne_CIVILIAN_POLICE_OFFICE, ne_CIVILIAN_AMBULANCE_CENTRE, ne_FIRE_FIRE_STATION, ne_FIRE_POLICE_OFFICE, ne_FIRE_AMBULANCE_CENTRE, ne_FIRE_BRIGADE_FIRE_STATION, ne_FIRE_BRIGADE_POLICE_OFFICE, ne_FIRE_BRIGADE_AMBULANCE_CENTRE, ne_HYDRANT_FIRE_STATION, ne_HYDRANT_POLICE_OFFICE, ne_HYDRANT_AMBULANCE_CENTRE, ne_POLICE_FORCE_FIRE_STATION, ne_POLICE_FORCE_POLICE_OFFICE, ne_POLICE_FORCE_AMBULANCE_CENTRE, ne_AMBULANCE_TEAM_FIRE_STATION, ne_AMBULANCE_TEAM_POLICE_OFFICE, ne_AMBULANCE_TEAM_AMBULANCE_CENTRE]
  · simp [own_isC, own_pick, own_cen, ne_REFUGE_FIRE_STATION, ne_REFUGE_POLICE_OFFICE, ne_REFUGE_AMBULANCE_CENTRE, ne_FIRE_STATION_POLICE_OFFICE, ne_FIRE_STATION_AMBULANCE_CENTRE, ne_POLICE_OFFICE_FIRE_STATION, ne_POLICE_OFFICE_AMBULANCE_CENTRE, ne_AMBULANCE_CENTRE_FIRE_STATION, ne_AMBULANCE_CENTRE_POLICE_OFFICE, ne_CIVILIAN_FIRE_STATION, ne_CIVILIAN_POLICE_OFFICE, ne_CIVILIAN_AMBULANCE_CENTRE, ne_FIRE_FIRE_STATION, ne_FIRE_POLICE_OFFICE, ne_FIRE_AMBULANCE_CENTRE, ne_FIRE_BRIGADE_FIRE_STATION, ne_FIRE_BRIGADE_POLICE_OFFICE, ne_FIRE_BRIGADE_AMBULANCE_CENTRE, ne_HYDRANT_FIRE_STATION, ne_HYDRANT_POLICE_OFFICE, ne_HYDRANT_AMBULANCE_CENTRE, ne_POLICE_FORCE_FIRE_STATION, ne_POLICE_FORCE_POLICE_OFFICE, ne_POLICE_FORCE_AMBULANCE_CENTRE, ne_AMBULANCE_TEAM_FIRE_STATION, ne_AMBULANCE_TEAM_POLICE_OFFICE, ne_AMBULANCE_TEAM_AMBULANCE_CENTRE]
theorem own_exa {Z : State} {h : Heap} {w_REFUGE w_FIRE w_HYDRANT w_CIVILIAN w_FIRE_BRIGADE w_POLICE_FORCE w_AMBULANCE_TEAM w_FIRE_STATION w_POLICE_OFFICE w_AMBULANCE_CENTRE : Addr} (k : Int32) (E_REFUGE : Exa Z h w_REFUGE "com/example/musterpoint/musterpoint/world/Scenario$Kind") (E_FIRE : Exa Z h w_FIRE "com/example/musterpoint/musterpoint/world/Scenario$Kind") (E_HYDRANT : Exa Z h w_HYDRANT "com/example/musterpoint/musterpoint/world/Scenario$Kind") (E_CIVILIAN : Exa Z h w_CIVILIAN "com/example/musterpoint/musterpoint/world/Scenario$Kind") (E_FIRE_BRIGADE : Exa Z h w_FIRE_BRIGADE "com/example/musterpoint/musterpoint/world/Scenario$Kind") (E_POLICE_FORCE : Exa Z h w_POLICE_FORCE "com/example/musterpoint/musterpoint/world/Scenario$Kind") (E_AMBULANCE_TEAM : Exa Z h w_AMBULANCE_TEAM "com/example/musterpoint/musterpoint/world/Scenario$Kind") (E_FIRE_STATION : Exa Z h w_FIRE_STATION "com/example/musterpoint/musterpoint/world/Scenario$Kind") (E_POLICE_OFFICE : Exa Z h w_POLICE_OFFICE "com/example/musterpoint/musterpoint/world/Scenario$Kind") (E_AMBULANCE_CENTRE : Exa Z h w_AMBULANCE_CENTRE "com/example/musterpoint/musterpoint/world/Scenario$Kind") : Exa Z h (own_pick k w_REFUGE w_FIRE w_HYDRANT w_CIVILIAN w_FIRE_BRIGADE w_POLICE_FORCE w_AMBULANCE_TEAM w_FIRE_STATION w_POLICE_OFFICE w_AMBULANCE_CENTRE) "com/example/musterpoint/musterpoint/world/Scenario$Kind" := by
  unfold own_pick
  repeat (split; · assumption)
  assumption
theorem d1_0 : decode prog_90_method_8_code 0 = .ok (.aload_n 0, 1) := by decide +kernel
theorem d1_1 : decode prog_90_method_8_code 1 = .ok (.getstatic 25, 3) := by decide +kernel
theorem d1_4 : decode prog_90_method_8_code 4 = .ok (.if_acmp .eq 17, 3) := by decide +kernel
theorem d1_7 : decode prog_90_method_8_code 7 = .ok (.aload_n 0, 1) := by decide +kernel
theorem d1_8 : decode prog_90_method_8_code 8 = .ok (.getstatic 28, 3) := by decide +kernel
theorem d1_11 : decode prog_90_method_8_code 11 = .ok (.if_acmp .eq 10, 3) := by decide +kernel
theorem d1_14 : decode prog_90_method_8_code 14 = .ok (.aload_n 0, 1) := by decide +kernel
theorem d1_15 : decode prog_90_method_8_code 15 = .ok (.getstatic 31, 3) := by decide +kernel
theorem d1_18 : decode prog_90_method_8_code 18 = .ok (.if_acmp .ne 7, 3) := by decide +kernel
theorem d1_21 : decode prog_90_method_8_code 21 = .ok (.iconst 1, 1) := by decide +kernel
theorem d1_22 : decode prog_90_method_8_code 22 = .ok (.goto 4, 3) := by decide +kernel
theorem d1_25 : decode prog_90_method_8_code 25 = .ok (.iconst 0, 1) := by decide +kernel
theorem d1_26 : decode prog_90_method_8_code 26 = .ok (.ireturn, 1) := by decide +kernel
theorem pn_0 : plainName "com/example/musterpoint/musterpoint/world/Scenario$Kind" = true := by first | (simp [plainName, overriddenIn]; done) | decide +kernel
theorem ef_rm1 (m : MethodId) (x0 : Addr) : entryFrame m #[(.ref x0)] 1 = mkF m 0 #[.val (.ref x0)] [] := by first | (simp [entryFrame, mkF, argsToLocals, Value.category]; done) | rfl
def Q_rm1 (Z : State) (a1 : Addr) (b1 b2 b3 : Addr) (h0 : Heap) (n0 : Nat) (v : Option Value) (h : Heap) (L : List Loc) : Prop := v = some (.int (own_isC a1 b1 b2 b3)) ∧ Fr n0 L ∧ h = h0
set_option maxRecDepth 65536 in
set_option maxHeartbeats 40000000 in
theorem rm1 (l : Launch) (Z : State) (a0 : Array Value) (hw : ∀ d ∈ tables_1, d.before a0 Z = true) (ws : List Jvm.Cond) (a1 : Addr) (b1 b2 b3 : Addr) (h0 : Heap) (n0 : Nat) (Z0 : n0 ≤ h0.size) (S1 : Sta Z h0 "com/example/musterpoint/musterpoint/world/Scenario$Kind" "FIRE_STATION" "Lcom/example/musterpoint/musterpoint/world/Scenario$Kind;" (.ref b1)) (S2 : Sta Z h0 "com/example/musterpoint/musterpoint/world/Scenario$Kind" "POLICE_OFFICE" "Lcom/example/musterpoint/musterpoint/world/Scenario$Kind;" (.ref b2)) (S3 : Sta Z h0 "com/example/musterpoint/musterpoint/world/Scenario$Kind" "AMBULANCE_CENTRE" "Lcom/example/musterpoint/musterpoint/world/Scenario$Kind;" (.ref b3)) :
    MetFree l (⟨"com/example/musterpoint/musterpoint/world/Scenario$Kind", "isCentre", "()Z"⟩ : MethodName) (head1 (Jvm.Cond.code (⟨"com/example/musterpoint/musterpoint/world/Scenario$Kind", "isCentre", "()Z"⟩ : MethodName) prog_90_method_8_code 1 (some .boolean) :: ws) ({ frames := 0, cells := 0, slots := 0, locals := 0 } : Room)) (fun a U => a = #[(.ref a1)] ∧ Z.Warmed39 U.vm ∧ U.heap = h0) (fun _ _ _ _ _ => True) (fun _ U o U' => ∃ v L, o = .returned v ∧ Q_rm1 Z a1 b1 b2 b3 h0 n0 v U'.heap L ∧ FrameEnd U o U' L ({ frames := 0, cells := 0, slots := 0, locals := 0 } : Room).cells ({ frames := 0, cells := 0, slots := 0, locals := 0 } : Room).slots) := by
  refine MetFree.of_bodySF (plainFor_of_name pn_0) hisR ?_
  intro p e s m args below meth c s₁ Bd hml0 hP hK
  obtain ⟨rfl, hZ, hh⟩ := hP
  have hx := Bd.exec
  have hby := Bd.bytes
  have hml : c.maxLocals = 1 := hml0
  have hown : s.vm.findClass "com/example/musterpoint/musterpoint/world/Scenario$Kind" = some m.cls := findClass_of_methodNamed Bd.named
  have hnm := (name_of_methodNamed Bd.named Bd.method).1
  have X0 : Stand p l e ({ frames := 0, cells := 0, slots := 0, locals := 0 } : Room) s m #[(.ref a1)] below meth c s₁ [] 0 0 := Stand.of_body Bd
  have e0 : s₁.heap = h0 := by rw [← hh, Bd.state]; rfl
  have N0 := Fr.nil n0
  have pre0 : ∀ t, Steps p.tables e below (s₁.setTop (mkF m 0 #[.val (.ref a1)] [])) t → Steps p.tables e below (s₁.setTop (entryFrame m #[(.ref a1)] 1)) t := fun t k => castTop (ef_rm1 m (a1)) k
  obtain ⟨T1, X1, e1, st1⟩ := getS2 X0 hx hZ hown (host := "") (Or.inl (hw _ (List.mem_of_getElem? (i := 31) rfl))) Via.refl e0 S1 (g := (mkF m 1 #[.val (.ref a1)] [(.ref a1)])) rfl (hb hby d1_1)
  by_cases hc2 : a1 = b1
  · obtain ⟨fs, hr, hrun, hended, hW, hsame⟩ := X1.leave (v := some (.int (1 : Int32))) (fun h => by rw [Bd.returns] at h; cases h)
    refine ⟨_, _, pre0 _ ?_, hrun, hended, _, _, rfl, ?_, ⟨_, rfl⟩, hW, hsame.mono (by decide) (by decide)⟩
    · show Steps p.tables e below (s₁.setTop (mkF m 0 #[.val (.ref a1)] [])) _
      refine XS.aloadN X0.here hx rfl (hb hby d1_0) rfl rfl ?_
      show Steps p.tables e below (s₁.setTop (mkF m 1 #[.val (.ref a1)] [(.ref a1)])) _
      refine st1 _ ?_
      show Steps p.tables e below (T1.setTop (mkF m 4 #[.val (.ref a1)] [(.ref b1), (.ref a1)])) _
      refine Jvm.RoadKit.acmp (g := (mkF m 4 #[.val (.ref a1)] [(.ref b1), (.ref a1)])) X1 hx rfl rfl rfl (pc0 := 4) (pc' := 21) (same := true) rfl (hb hby d1_4) rfl (decide_eq_true (congrArg Value.ref hc2)) (by decide) (by decide) ?_
      show Steps p.tables e below (T1.setTop (mkF m 21 #[.val (.ref a1)] [])) _
      refine XS.iconst X1.here hx rfl (hb hby d1_21) ?_
      show Steps p.tables e below (T1.setTop (mkF m 22 #[.val (.ref a1)] [(.int (1 : Int32))])) _
      refine XS.goto X1.here hx rfl (pc0 := 22) (pc' := 26) rfl (hb hby d1_22) (by decide) (by decide) ?_
      show Steps p.tables e below (T1.setTop (mkF m 26 #[.val (.ref a1)] [(.int (1 : Int32))])) _
      exact retN X1 hx (t := .boolean) Bd.returns (by simp) (hb hby d1_26) hr
    · show Q_rm1 Z a1 b1 b2 b3 h0 n0 _ T1.heap _
      rw [e1]
      exact ⟨(by simp [own_isC, hc2]), N0, rfl⟩
  · obtain ⟨T3, X3, e3, st3⟩ := getS2 X1 hx hZ hown (host := "") (Or.inl (hw _ (List.mem_of_getElem? (i := 32) rfl))) Via.refl e1 S2 (g := (mkF m 8 #[.val (.ref a1)] [(.ref a1)])) rfl (hb hby d1_8)
    by_cases hc4 : a1 = b2
    · obtain ⟨fs, hr, hrun, hended, hW, hsame⟩ := X3.leave (v := some (.int (1 : Int32))) (fun h => by rw [Bd.returns] at h; cases h)
      refine ⟨_, _, pre0 _ ?_, hrun, hended, _, _, rfl, ?_, ⟨_, rfl⟩, hW, hsame.mono (by decide) (by decide)⟩
      · show Steps p.tables e below (s₁.setTop (mkF m 0 #[.val (.ref a1)] [])) _
        refine XS.aloadN X0.here hx rfl (hb hby d1_0) rfl rfl ?_
        show Steps p.tables e below (s₁.setTop (mkF m 1 #[.val (.ref a1)] [(.ref a1)])) _
        refine st1 _ ?_
        show Steps p.tables e below (T1.setTop (mkF m 4 #[.val (.ref a1)] [(.ref b1), (.ref a1)])) _
        refine Jvm.RoadKit.acmp (g := (mkF m 4 #[.val (.ref a1)] [(.ref b1), (.ref a1)])) X1 hx rfl rfl rfl (pc0 := 4) (pc' := 7) (same := false) rfl (hb hby d1_4) rfl (decide_eq_false fun q => hc2 (Value.ref.inj q)) (by decide) (by decide) ?_
        show Steps p.tables e below (T1.setTop (mkF m 7 #[.val (.ref a1)] [])) _
        refine XS.aloadN X1.here hx rfl (hb hby d1_7) rfl rfl ?_
        show Steps p.tables e below (T1.setTop (mkF m 8 #[.val (.ref a1)] [(.ref a1)])) _
        refine st3 _ ?_
        show Steps p.tables e below (T3.setTop (mkF m 11 #[.val (.ref a1)] [(.ref b2), (.ref a1)])) _
        refine Jvm.RoadKit.acmp (g := (mkF m 11 #[.val (.ref a1)] [(.ref b2), (.ref a1)])) X3 hx rfl rfl rfl (pc0 := 11) (pc' := 21) (same := true) rfl (hb hby d1_11) rfl (decide_eq_true (congrArg Value.ref hc4)) (by decide) (by decide) ?_
        show Steps p.tables e below (T3.setTop (mkF m 21 #[.val (.ref a1)] [])) _
        refine XS.iconst X3.here hx rfl (hb hby d1_21) ?_
        show Steps p.tables e below (T3.setTop (mkF m 22 #[.val (.ref a1)] [(.int (1 : Int32))])) _
        refine XS.goto X3.here hx rfl (pc0 := 22) (pc' := 26) rfl (hb hby d1_22) (by decide) (by decide) ?_
        show Steps p.tables e below (T3.setTop (mkF m 26 #[.val (.ref a1)] [(.int (1 : Int32))])) _
        exact retN X3 hx (t := .boolean) Bd.returns (by simp) (hb hby d1_26) hr
      · show Q_rm1 Z a1 b1 b2 b3 h0 n0 _ T3.heap _
        rw [e3]
        exact ⟨(by simp [own_isC, hc2, hc4]), N0, rfl⟩
    · obtain ⟨T5, X5, e5, st5⟩ := getS2 X3 hx hZ hown (host := "") (Or.inl (hw _ (List.mem_of_getElem? (i := 33) rfl))) Via.refl e3 S3 (g := (mkF m 15 #[.val (.ref a1)] [(.ref a1)])) rfl (hb hby d1_15)
      by_cases hc6 : a1 = b3
      · obtain ⟨fs, hr, hrun, hended, hW, hsame⟩ := X5.leave (v := some (.int (1 : Int32))) (fun h => by rw [Bd.returns] at h; cases h)
        refine ⟨_, _, pre0 _ ?_, hrun, hended, _, _, rfl, ?_, ⟨_, rfl⟩, hW, hsame.mono (by decide) (by decide)⟩
        · show Steps p.tables e below (s₁.setTop (mkF m 0 #[.val (.ref a1)] [])) _
          refine XS.aloadN X0.here hx rfl (hb hby d1_0) rfl rfl ?_
          show Steps p.tables e below (s₁.setTop (mkF m 1 #[.val (.ref a1)] [(.ref a1)])) _
          refine st1 _ ?_
          show Steps p.tables e below (T1.setTop (mkF m 4 #[.val (.ref a1)] [(.ref b1), (.ref a1)])) _
          refine Jvm.RoadKit.acmp (g := (mkF m 4 #[.val (.ref a1)] [(.ref b1), (.ref a1)])) X1 hx rfl rfl rfl (pc0 := 4) (pc' := 7) (same := false) rfl (hb hby d1_4) rfl (decide_eq_false fun q => hc2 (Value.ref.inj q)) (by decide) (by decide) ?_
          show Steps p.tables e below (T1.setTop (mkF m 7 #[.val (.ref a1)] [])) _
          refine XS.aloadN X1.here hx rfl (hb hby d1_7) rfl rfl ?_
          show Steps p.tables e below (T1.setTop (mkF m 8 #[.val (.ref a1)] [(.ref a1)])) _
          refine st3 _ ?_
          show Steps p.tables e below (T3.setTop (mkF m 11 #[.val (.ref a1)] [(.ref b2), (.ref a1)])) _
          refine Jvm.RoadKit.acmp (g := (mkF m 11 #[.val (.ref a1)] [(.ref b2), (.ref a1)])) X3 hx rfl rfl rfl (pc0 := 11) (pc' := 14) (same := false) rfl (hb hby d1_11) rfl (decide_eq_false fun q => hc4 (Value.ref.inj q)) (by decide) (by decide) ?_
          show Steps p.tables e below (T3.setTop (mkF m 14 #[.val (.ref a1)] [])) _
          refine XS.aloadN X3.here hx rfl (hb hby d1_14) rfl rfl ?_
          show Steps p.tables e below (T3.setTop (mkF m 15 #[.val (.ref a1)] [(.ref a1)])) _
          refine st5 _ ?_
          show Steps p.tables e below (T5.setTop (mkF m 18 #[.val (.ref a1)] [(.ref b3), (.ref a1)])) _
          refine Jvm.RoadKit.acmp (g := (mkF m 18 #[.val (.ref a1)] [(.ref b3), (.ref a1)])) X5 hx rfl rfl rfl (pc0 := 18) (pc' := 21) (same := true) rfl (hb hby d1_18) rfl (decide_eq_true (congrArg Value.ref hc6)) (by decide) (by decide) ?_
          show Steps p.tables e below (T5.setTop (mkF m 21 #[.val (.ref a1)] [])) _
          refine XS.iconst X5.here hx rfl (hb hby d1_21) ?_
          show Steps p.tables e below (T5.setTop (mkF m 22 #[.val (.ref a1)] [(.int (1 : Int32))])) _
          refine XS.goto X5.here hx rfl (pc0 := 22) (pc' := 26) rfl (hb hby d1_22) (by decide) (by decide) ?_
          show Steps p.tables e below (T5.setTop (mkF m 26 #[.val (.ref a1)] [(.int (1 : Int32))])) _
          exact retN X5 hx (t := .boolean) Bd.returns (by simp) (hb hby d1_26) hr
        · show Q_rm1 Z a1 b1 b2 b3 h0 n0 _ T5.heap _
          rw [e5]
          exact ⟨(by simp [own_isC, hc2, hc4, hc6]), N0, rfl⟩
      · obtain ⟨fs, hr, hrun, hended, hW, hsame⟩ := X5.leave (v := some (.int (0 : Int32))) (fun h => by rw [Bd.returns] at h; cases h)
        refine ⟨_, _, pre0 _ ?_, hrun, hended, _, _, rfl, ?_, ⟨_, rfl⟩, hW, hsame.mono (by decide) (by decide)⟩
        · show Steps p.tables e below (s₁.setTop (mkF m 0 #[.val (.ref a1)] [])) _
          refine XS.aloadN X0.here hx rfl (hb hby d1_0) rfl rfl ?_
          show Steps p.tables e below (s₁.setTop (mkF m 1 #[.val (.ref a1)] [(.ref a1)])) _
          refine st1 _ ?_
          show Steps p.tables e below (T1.setTop (mkF m 4 #[.val (.ref a1)] [(.ref b1), (.ref a1)])) _
          refine Jvm.RoadKit.acmp (g := (mkF m 4 #[.val (.ref a1)] [(.ref b1), (.ref a1)])) X1 hx rfl rfl rfl (pc0 := 4) (pc' := 7) (same := false) rfl (hb hby d1_4) rfl (decide_eq_false fun q => hc2 (Value.ref.inj q)) (by decide) (by decide) ?_
          show Steps p.tables e below (T1.setTop (mkF m 7 #[.val (.ref a1)] [])) _
          refine XS.aloadN X1.here hx rfl (hb hby d1_7) rfl rfl ?_
          show Steps p.tables e below (T1.setTop (mkF m 8 #[.val (.ref a1)] [(.ref a1)])) _
          refine st3 _ ?_
          show Steps p.tables e below (T3.setTop (mkF m 11 #[.val (.ref a1)] [(.ref b2), (.ref a1)])) _
          refine Jvm.RoadKit.acmp (g := (mkF m 11 #[.val (.ref a1)] [(.ref b2), (.ref a1)])) X3 hx rfl rfl rfl (pc0 := 11) (pc' := 14) (same := false) rfl (hb hby d1_11) rfl (decide_eq_false fun q => hc4 (Value.ref.inj q)) (by decide) (by decide) ?_
          show Steps p.tables e below (T3.setTop (mkF m 14 #[.val (.ref a1)] [])) _
          refine XS.aloadN X3.here hx rfl (hb hby d1_14) rfl rfl ?_
          show Steps p.tables e below (T3.setTop (mkF m 15 #[.val (.ref a1)] [(.ref a1)])) _
          refine st5 _ ?_
          show Steps p.tables e below (T5.setTop (mkF m 18 #[.val (.ref a1)] [(.ref b3), (.ref a1)])) _
          refine Jvm.RoadKit.acmp (g := (mkF m 18 #[.val (.ref a1)] [(.ref b3), (.ref a1)])) X5 hx rfl rfl rfl (pc0 := 18) (pc' := 25) (same := false) rfl (hb hby d1_18) rfl (decide_eq_false fun q => hc6 (Value.ref.inj q)) (by decide) (by decide) ?_
          show Steps p.tables e below (T5.setTop (mkF m 25 #[.val (.ref a1)] [])) _
          refine XS.iconst X5.here hx rfl (hb hby d1_25) ?_
          show Steps p.tables e below (T5.setTop (mkF m 26 #[.val (.ref a1)] [(.int (0 : Int32))])) _
          exact retN X5 hx (t := .boolean) Bd.returns (by simp) (hb hby d1_26) hr
        · show Q_rm1 Z a1 b1 b2 b3 h0 n0 _ T5.heap _
          rw [e5]
          exact ⟨(by simp [own_isC, hc2, hc4, hc6]), N0, rfl⟩
theorem pd_0 : parseMethodDescriptor "()Z" = some ⟨[], some .boolean⟩ := by decide +kernel
theorem pn_1 : plainName "com/example/musterpoint/musterpoint/world/KindIsCentrePinLaw" = true := by first | (simp [plainName, overriddenIn]; done) | decide +kernel
theorem ef_rm0 (m : MethodId) (x0 : Int32) : entryFrame m #[(.int x0)] maxLocals = mkF m 0 #[.val (.int x0), .unset, .unset, .unset] [] := by first | (simp [entryFrame, mkF, argsToLocals, Value.category, maxLocals]; done) | rfl
def Q_rm0 (Z : State) (p0 : Int32) (w_REFUGE : Addr) (w_FIRE : Addr) (w_HYDRANT : Addr) (w_CIVILIAN : Addr) (w_FIRE_BRIGADE : Addr) (w_POLICE_FORCE : Addr) (w_AMBULANCE_TEAM : Addr) (w_FIRE_STATION : Addr) (w_POLICE_OFFICE : Addr) (w_AMBULANCE_CENTRE : Addr) (h0 : Heap) (n0 : Nat) (v : Option Value) (h : Heap) (L : List Loc) : Prop := v = some (.int (1 : Int32)) ∧ Fr n0 L ∧ True
set_option maxRecDepth 65536 in
set_option maxHeartbeats 40000000 in
theorem rm0 (l : Launch) (Z : State) (a0 : Array Value) (hw : ∀ d ∈ tables_1, d.before a0 Z = true) (ws : List Jvm.Cond) (p0 : Int32) (w_REFUGE : Addr) (w_FIRE : Addr) (w_HYDRANT : Addr) (w_CIVILIAN : Addr) (w_FIRE_BRIGADE : Addr) (w_POLICE_FORCE : Addr) (w_AMBULANCE_TEAM : Addr) (w_FIRE_STATION : Addr) (w_POLICE_OFFICE : Addr) (w_AMBULANCE_CENTRE : Addr) (h0 : Heap) (n0 : Nat) (Z0 : n0 ≤ h0.size) (WD : World Z h0 w_REFUGE w_FIRE w_HYDRANT w_CIVILIAN w_FIRE_BRIGADE w_POLICE_FORCE w_AMBULANCE_TEAM w_FIRE_STATION w_POLICE_OFFICE w_AMBULANCE_CENTRE) :
    MetFree l x (head1 (Jvm.Cond.code x code maxLocals ret :: ws) room_1) (fun a U => a = #[(.int p0)] ∧ Z.Warmed39 U.vm ∧ U.heap = h0) (fun _ _ _ _ _ => True) (fun _ U o U' => ∃ v L, o = .returned v ∧ Q_rm0 Z p0 w_REFUGE w_FIRE w_HYDRANT w_CIVILIAN w_FIRE_BRIGADE w_POLICE_FORCE w_AMBULANCE_TEAM w_FIRE_STATION w_POLICE_OFFICE w_AMBULANCE_CENTRE h0 n0 v U'.heap L ∧ FrameEnd U o U' L room_1.cells room_1.slots) := by
  refine MetFree.of_bodySF (plainFor_of_name pn_1) hisR ?_
  intro p e s m args below meth c s₁ Bd hml0 hP hK
  obtain ⟨rfl, hZ, hh⟩ := hP
  have hx := Bd.exec
  have hby := Bd.bytes
  have hml : c.maxLocals = 4 := hml0
  have hown : s.vm.findClass "com/example/musterpoint/musterpoint/world/KindIsCentrePinLaw" = some m.cls := findClass_of_methodNamed Bd.named
  have hnm := (name_of_methodNamed Bd.named Bd.method).1
  have X0 : Stand p l e room_1 s m #[(.int p0)] below meth c s₁ [] 0 0 := Stand.of_body Bd
  have e0 : s₁.heap = h0 := by rw [← hh, Bd.state]; rfl
  have N0 := Fr.nil n0
  have pre0 : ∀ t, Steps p.tables e below (s₁.setTop (mkF m 0 #[.val (.int p0), .unset, .unset, .unset] [])) t → Steps p.tables e below (s₁.setTop (entryFrame m #[(.int p0)] maxLocals)) t := fun t k => castTop (ef_rm0 m (p0)) k
  obtain ⟨S_REFUGE, E_REFUGE, S_FIRE, E_FIRE, S_HYDRANT, E_HYDRANT, S_CIVILIAN, E_CIVILIAN, S_FIRE_BRIGADE, E_FIRE_BRIGADE, S_POLICE_FORCE, E_POLICE_FORCE, S_AMBULANCE_TEAM, E_AMBULANCE_TEAM, S_FIRE_STATION, E_FIRE_STATION, S_POLICE_OFFICE, E_POLICE_OFFICE, S_AMBULANCE_CENTRE, E_AMBULANCE_CENTRE, F_REFUGE_ordinal, F_FIRE_STATION_ordinal, F_POLICE_OFFICE_ordinal, F_AMBULANCE_CENTRE_ordinal, F_CIVILIAN_ordinal, F_FIRE_ordinal, F_FIRE_BRIGADE_ordinal, F_HYDRANT_ordinal, F_POLICE_FORCE_ordinal, F_AMBULANCE_TEAM_ordinal⟩ := id WD
  obtain ⟨T1, h1, fk1, X1, e1, E1, A1, EA1, Ov1, st1⟩ := newRE X0 hx hZ hown (hw _ (List.mem_of_getElem? (i := 0) rfl)) (hw _ (List.mem_of_getElem? (i := 1) rfl)) e0 (g := (mkF m 2 #[.val (.int p0), .unset, .unset, .unset] [(.int (10 : Int32))])) rfl (hb hby at_2) rfl (by decide) (cap := 10) (by decide) (by decide) (by decide) (by decide) (ad := "[Lcom/example/musterpoint/musterpoint/world/Scenario$Kind;") (by decide)
  obtain ⟨fa1, g1⟩ : ∃ z, z = h0.size := ⟨_, rfl⟩
  rw [← g1] at A1 EA1 st1
  have gn_fa1 : n0 ≤ fa1 := Nat.le_trans Z0 (Nat.le_of_eq g1.symm)
  have gh_fa1 : h0.size ≤ fa1 := Nat.le_trans (Keep.refl h0 []).1 (Nat.le_of_eq g1.symm)
  have Zn1 : n0 ≤ h1.size := Nat.le_trans Z0 E1.1
  have K1 : Keep h0 h1 [] := (Keep.refl h0 []).ext E1
  have V1 : Arv Z h1 fa1 fk1 (.object "com/example/musterpoint/musterpoint/world/Scenario$Kind") (10 : Int32) [.null, .null, .null, .null, .null, .null, .null, .null, .null, .null] .null := (Arv.new A1 (by decide)).pad (pad_rep [] .null 10)
  obtain ⟨T2, X2, e2, st2⟩ := getS2 X1 hx hZ hown (host := "") (Or.inl (hw _ (List.mem_of_getElem? (i := 2) rfl))) Via.refl e1 (S_REFUGE.ext E1) (g := (mkF m 7 #[.val (.int p0), .unset, .unset, .unset] [(.int (0 : Int32)), (.ref fa1), (.ref fa1)])) rfl (hb hby at_7)
  obtain ⟨cl3, Ar3, q3, S3, Nn3, H3, G3⟩ := id V1
  have hin3 : ¬ ((0 : Int32) < 0 ∨ cl3.slots.size ≤ ((0 : Int32)).toNatClampNeg) := inb_of S3 ⟨by decide, by decide⟩
  obtain ⟨T3, h3, X3, e3, W3, st3⟩ := stR X2 hx hZ e2 Ar3 (j := (0 : Int32)) hin3 rfl (Sto.ofV Ar3 q3 Ov1 (Ins.self (E_REFUGE.ext E1))) (g := (mkF m 10 #[.val (.int p0), .unset, .unset, .unset] [(.ref w_REFUGE), (.int (0 : Int32)), (.ref fa1), (.ref fa1)])) rfl rfl (hb hby at_10)
  have V3 : Arv Z h3 fa1 fk1 (.object "com/example/musterpoint/musterpoint/world/Scenario$Kind") (10 : Int32) [(.ref w_REFUGE), .null, .null, .null, .null, .null, .null, .null, .null, .null] .null := Arv.set Ar3 q3 S3 Nn3 H3 G3 rfl W3 0 rfl (Nat.le_of_ble_eq_true rfl)
  have N3 := Fr.snoc X3 N0 gn_fa1
  have Zn3 : n0 ≤ h3.size := Nat.le_trans Zn1 (Keep.of_wr W3).1
  have K3 : Keep h0 h3 [] := K1.wr W3 (Or.inr gh_fa1)
  obtain ⟨T4, X4, e4, st4⟩ := getS2 X3 hx hZ hown (host := "") (Or.inl (hw _ (List.mem_of_getElem? (i := 6) rfl))) Via.refl e3 ((S_FIRE.ext E1).wr W3) (g := (mkF m 13 #[.val (.int p0), .unset, .unset, .unset] [(.int (1 : Int32)), (.ref fa1), (.ref fa1)])) rfl (hb hby at_13)
  obtain ⟨cl5, Ar5, q5, S5, Nn5, H5, G5⟩ := id V3
  have hin5 : ¬ ((1 : Int32) < 0 ∨ cl5.slots.size ≤ ((1 : Int32)).toNatClampNeg) := inb_of S5 ⟨by decide, by decide⟩
  obtain ⟨T5, h5, X5, e5, W5, st5⟩ := stR X4 hx hZ e4 Ar5 (j := (1 : Int32)) hin5 rfl (Sto.ofV Ar5 q5 Ov1 (Ins.self ((E_FIRE.ext E1).wr W3))) (g := (mkF m 16 #[.val (.int p0), .unset, .unset, .unset] [(.ref w_FIRE), (.int (1 : Int32)), (.ref fa1), (.ref fa1)])) rfl rfl (hb hby at_16)
  have V5 : Arv Z h5 fa1 fk1 (.object "com/example/musterpoint/musterpoint/world/Scenario$Kind") (10 : Int32) [(.ref w_REFUGE), (.ref w_FIRE), .null, .null, .null, .null, .null, .null, .null, .null] .null := Arv.set Ar5 q5 S5 Nn5 H5 G5 rfl W5 1 rfl (Nat.le_of_ble_eq_true rfl)
  have N5 := Fr.snoc X5 N3 gn_fa1
  have Zn5 : n0 ≤ h5.size := Nat.le_trans Zn3 (Keep.of_wr W5).1
  have K5 : Keep h0 h5 [] := K3.wr W5 (Or.inr gh_fa1)
  obtain ⟨T6, X6, e6, st6⟩ := getS2 X5 hx hZ hown (host := "") (Or.inl (hw _ (List.mem_of_getElem? (i := 8) rfl))) Via.refl e5 (((S_HYDRANT.ext E1).wr W3).wr W5) (g := (mkF m 19 #[.val (.int p0), .unset, .unset, .unset] [(.int (2 : Int32)), (.ref fa1), (.ref fa1)])) rfl (hb hby at_19)
  obtain ⟨cl7, Ar7, q7, S7, Nn7, H7, G7⟩ := id V5
  have hin7 : ¬ ((2 : Int32) < 0 ∨ cl7.slots.size ≤ ((2 : Int32)).toNatClampNeg) := inb_of S7 ⟨by decide, by decide⟩
  obtain ⟨T7, h7, X7, e7, W7, st7⟩ := stR X6 hx hZ e6 Ar7 (j := (2 : Int32)) hin7 rfl (Sto.ofV Ar7 q7 Ov1 (Ins.self (((E_HYDRANT.ext E1).wr W3).wr W5))) (g := (mkF m 22 #[.val (.int p0), .unset, .unset, .unset] [(.ref w_HYDRANT), (.int (2 : Int32)), (.ref fa1), (.ref fa1)])) rfl rfl (hb hby at_22)
  have V7 : Arv Z h7 fa1 fk1 (.object "com/example/musterpoint/musterpoint/world/Scenario$Kind") (10 : Int32) [(.ref w_REFUGE), (.ref w_FIRE), (.ref w_HYDRANT), .null, .null, .null, .null, .null, .null, .null] .null := Arv.set Ar7 q7 S7 Nn7 H7 G7 rfl W7 2 rfl (Nat.le_of_ble_eq_true rfl)
  have N7 := Fr.snoc X7 N5 gn_fa1
  have Zn7 : n0 ≤ h7.size := Nat.le_trans Zn5 (Keep.of_wr W7).1
  have K7 : Keep h0 h7 [] := K5.wr W7 (Or.inr gh_fa1)
  obtain ⟨T8, X8, e8, st8⟩ := getS2 X7 hx hZ hown (host := "") (Or.inl (hw _ (List.mem_of_getElem? (i := 10) rfl))) Via.refl e7 ((((S_CIVILIAN.ext E1).wr W3).wr W5).wr W7) (g := (mkF m 25 #[.val (.int p0), .unset, .unset, .unset] [(.int (3 : Int32)), (.ref fa1), (.ref fa1)])) rfl (hb hby at_25)
  obtain ⟨cl9, Ar9, q9, S9, Nn9, H9, G9⟩ := id V7
  have hin9 : ¬ ((3 : Int32) < 0 ∨ cl9.slots.size ≤ ((3 : Int32)).toNatClampNeg) := inb_of S9 ⟨by decide, by decide⟩
  obtain ⟨T9, h9, X9, e9, W9, st9⟩ := stR X8 hx hZ e8 Ar9 (j := (3 : Int32)) hin9 rfl (Sto.ofV Ar9 q9 Ov1 (Ins.self ((((E_CIVILIAN.ext E1).wr W3).wr W5).wr W7))) (g := (mkF m 28 #[.val (.int p0), .unset, .unset, .unset] [(.ref w_CIVILIAN), (.int (3 : Int32)), (.ref fa1), (.ref fa1)])) rfl rfl (hb hby at_28)
  have V9 : Arv Z h9 fa1 fk1 (.object "com/example/musterpoint/musterpoint/world/Scenario$Kind") (10 : Int32) [(.ref w_REFUGE), (.ref w_FIRE), (.ref w_HYDRANT), (.ref w_CIVILIAN), .null, .null, .null, .null, .null, .null] .null := Arv.set Ar9 q9 S9 Nn9 H9 G9 rfl W9 3 rfl (Nat.le_of_ble_eq_true rfl)
  have N9 := Fr.snoc X9 N7 gn_fa1
  have Zn9 : n0 ≤ h9.size := Nat.le_trans Zn7 (Keep.of_wr W9).1
  have K9 : Keep h0 h9 [] := K7.wr W9 (Or.inr gh_fa1)
  obtain ⟨T10, X10, e10, st10⟩ := getS2 X9 hx hZ hown (host := "") (Or.inl (hw _ (List.mem_of_getElem? (i := 12) rfl))) Via.refl e9 (((((S_FIRE_BRIGADE.ext E1).wr W3).wr W5).wr W7).wr W9) (g := (mkF m 31 #[.val (.int p0), .unset, .unset, .unset] [(.int (4 : Int32)), (.ref fa1), (.ref fa1)])) rfl (hb hby at_31)
  obtain ⟨cl11, Ar11, q11, S11, Nn11, H11, G11⟩ := id V9
  have hin11 : ¬ ((4 : Int32) < 0 ∨ cl11.slots.size ≤ ((4 : Int32)).toNatClampNeg) := inb_of S11 ⟨by decide, by decide⟩
  obtain ⟨T11, h11, X11, e11, W11, st11⟩ := stR X10 hx hZ e10 Ar11 (j := (4 : Int32)) hin11 rfl (Sto.ofV Ar11 q11 Ov1 (Ins.self (((((E_FIRE_BRIGADE.ext E1).wr W3).wr W5).wr W7).wr W9))) (g := (mkF m 34 #[.val (.int p0), .unset, .unset, .unset] [(.ref w_FIRE_BRIGADE), (.int (4 : Int32)), (.ref fa1), (.ref fa1)])) rfl rfl (hb hby at_34)
  have V11 : Arv Z h11 fa1 fk1 (.object "com/example/musterpoint/musterpoint/world/Scenario$Kind") (10 : Int32) [(.ref w_REFUGE), (.ref w_FIRE), (.ref w_HYDRANT), (.ref w_CIVILIAN), (.ref w_FIRE_BRIGADE), .null, .null, .null, .null, .null] .null := Arv.set Ar11 q11 S11 Nn11 H11 G11 rfl W11 4 rfl (Nat.le_of_ble_eq_true rfl)
  have N11 := Fr.snoc X11 N9 gn_fa1
  have Zn11 : n0 ≤ h11.size := Nat.le_trans Zn9 (Keep.of_wr W11).1
  have K11 : Keep h0 h11 [] := K9.wr W11 (Or.inr gh_fa1)
  obtain ⟨T12, X12, e12, st12⟩ := getS2 X11 hx hZ hown (host := "") (Or.inl (hw _ (List.mem_of_getElem? (i := 14) rfl))) Via.refl e11 ((((((S_POLICE_FORCE.ext E1).wr W3).wr W5).wr W7).wr W9).wr W11) (g := (mkF m 37 #[.val (.int p0), .unset, .unset, .unset] [(.int (5 : Int32)), (.ref fa1), (.ref fa1)])) rfl (hb hby at_37)
  obtain ⟨cl13, Ar13, q13, S13, Nn13, H13, G13⟩ := id V11
  have hin13 : ¬ ((5 : Int32) < 0 ∨ cl13.slots.size ≤ ((5 : Int32)).toNatClampNeg) := inb_of S13 ⟨by decide, by decide⟩
  obtain ⟨T13, h13, X13, e13, W13, st13⟩ := stR X12 hx hZ e12 Ar13 (j := (5 : Int32)) hin13 rfl (Sto.ofV Ar13 q13 Ov1 (Ins.self ((((((E_POLICE_FORCE.ext E1).wr W3).wr W5).wr W7).wr W9).wr W11))) (g := (mkF m 40 #[.val (.int p0), .unset, .unset, .unset] [(.ref w_POLICE_FORCE), (.int (5 : Int32)), (.ref fa1), (.ref fa1)])) rfl rfl (hb hby at_40)
  have V13 : Arv Z h13 fa1 fk1 (.object "com/example/musterpoint/musterpoint/world/Scenario$Kind") (10 : Int32) [(.ref w_REFUGE), (.ref w_FIRE), (.ref w_HYDRANT), (.ref w_CIVILIAN), (.ref w_FIRE_BRIGADE), (.ref w_POLICE_FORCE), .null, .null, .null, .null] .null := Arv.set Ar13 q13 S13 Nn13 H13 G13 rfl W13 5 rfl (Nat.le_of_ble_eq_true rfl)
  have N13 := Fr.snoc X13 N11 gn_fa1
  have Zn13 : n0 ≤ h13.size := Nat.le_trans Zn11 (Keep.of_wr W13).1
  have K13 : Keep h0 h13 [] := K11.wr W13 (Or.inr gh_fa1)
  obtain ⟨T14, X14, e14, st14⟩ := getS2 X13 hx hZ hown (host := "") (Or.inl (hw _ (List.mem_of_getElem? (i := 16) rfl))) Via.refl e13 (((((((S_AMBULANCE_TEAM.ext E1).wr W3).wr W5).wr W7).wr W9).wr W11).wr W13) (g := (mkF m 44 #[.val (.int p0), .unset, .unset, .unset] [(.int (6 : Int32)), (.ref fa1), (.ref fa1)])) rfl (hb hby at_44)
  obtain ⟨cl15, Ar15, q15, S15, Nn15, H15, G15⟩ := id V13
  have hin15 : ¬ ((6 : Int32) < 0 ∨ cl15.slots.size ≤ ((6 : Int32)).toNatClampNeg) := inb_of S15 ⟨by decide, by decide⟩
  obtain ⟨T15, h15, X15, e15, W15, st15⟩ := stR X14 hx hZ e14 Ar15 (j := (6 : Int32)) hin15 rfl (Sto.ofV Ar15 q15 Ov1 (Ins.self (((((((E_AMBULANCE_TEAM.ext E1).wr W3).wr W5).wr W7).wr W9).wr W11).wr W13))) (g := (mkF m 47 #[.val (.int p0), .unset, .unset, .unset] [(.ref w_AMBULANCE_TEAM), (.int (6 : Int32)), (.ref fa1), (.ref fa1)])) rfl rfl (hb hby at_47)
  have V15 : Arv Z h15 fa1 fk1 (.object "com/example/musterpoint/musterpoint/world/Scenario$Kind") (10 : Int32) [(.ref w_REFUGE), (.ref w_FIRE), (.ref w_HYDRANT), (.ref w_CIVILIAN), (.ref w_FIRE_BRIGADE), (.ref w_POLICE_FORCE), (.ref w_AMBULANCE_TEAM), .null, .null, .null] .null := Arv.set Ar15 q15 S15 Nn15 H15 G15 rfl W15 6 rfl (Nat.le_of_ble_eq_true rfl)
  have N15 := Fr.snoc X15 N13 gn_fa1
  have Zn15 : n0 ≤ h15.size := Nat.le_trans Zn13 (Keep.of_wr W15).1
  have K15 : Keep h0 h15 [] := K13.wr W15 (Or.inr gh_fa1)
  obtain ⟨T16, X16, e16, st16⟩ := getS2 X15 hx hZ hown (host := "") (Or.inl (hw _ (List.mem_of_getElem? (i := 18) rfl))) Via.refl e15 ((((((((S_FIRE_STATION.ext E1).wr W3).wr W5).wr W7).wr W9).wr W11).wr W13).wr W15) (g := (mkF m 51 #[.val (.int p0), .unset, .unset, .unset] [(.int (7 : Int32)), (.ref fa1), (.ref fa1)])) rfl (hb hby at_51)
  obtain ⟨cl17, Ar17, q17, S17, Nn17, H17, G17⟩ := id V15
  have hin17 : ¬ ((7 : Int32) < 0 ∨ cl17.slots.size ≤ ((7 : Int32)).toNatClampNeg) := inb_of S17 ⟨by decide, by decide⟩
  obtain ⟨T17, h17, X17, e17, W17, st17⟩ := stR X16 hx hZ e16 Ar17 (j := (7 : Int32)) hin17 rfl (Sto.ofV Ar17 q17 Ov1 (Ins.self ((((((((E_FIRE_STATION.ext E1).wr W3).wr W5).wr W7).wr W9).wr W11).wr W13).wr W15))) (g := (mkF m 54 #[.val (.int p0), .unset, .unset, .unset] [(.ref w_FIRE_STATION), (.int (7 : Int32)), (.ref fa1), (.ref fa1)])) rfl rfl (hb hby at_54)
  have V17 : Arv Z h17 fa1 fk1 (.object "com/example/musterpoint/musterpoint/world/Scenario$Kind") (10 : Int32) [(.ref w_REFUGE), (.ref w_FIRE), (.ref w_HYDRANT), (.ref w_CIVILIAN), (.ref w_FIRE_BRIGADE), (.ref w_POLICE_FORCE), (.ref w_AMBULANCE_TEAM), (.ref w_FIRE_STATION), .null, .null] .null := Arv.set Ar17 q17 S17 Nn17 H17 G17 rfl W17 7 rfl (Nat.le_of_ble_eq_true rfl)
  have N17 := Fr.snoc X17 N15 gn_fa1
  have Zn17 : n0 ≤ h17.size := Nat.le_trans Zn15 (Keep.of_wr W17).1
  have K17 : Keep h0 h17 [] := K15.wr W17 (Or.inr gh_fa1)
  obtain ⟨T18, X18, e18, st18⟩ := getS2 X17 hx hZ hown (host := "") (Or.inl (hw _ (List.mem_of_getElem? (i := 20) rfl))) Via.refl e17 (((((((((S_POLICE_OFFICE.ext E1).wr W3).wr W5).wr W7).wr W9).wr W11).wr W13).wr W15).wr W17) (g := (mkF m 58 #[.val (.int p0), .unset, .unset, .unset] [(.int (8 : Int32)), (.ref fa1), (.ref fa1)])) rfl (hb hby at_58)
  obtain ⟨cl19, Ar19, q19, S19, Nn19, H19, G19⟩ := id V17
  have hin19 : ¬ ((8 : Int32) < 0 ∨ cl19.slots.size ≤ ((8 : Int32)).toNatClampNeg) := inb_of S19 ⟨by decide, by decide⟩
  obtain ⟨T19, h19, X19, e19, W19, st19⟩ := stR X18 hx hZ e18 Ar19 (j := (8 : Int32)) hin19 rfl (Sto.ofV Ar19 q19 Ov1 (Ins.self (((((((((E_POLICE_OFFICE.ext E1).wr W3).wr W5).wr W7).wr W9).wr W11).wr W13).wr W15).wr W17))) (g := (mkF m 61 #[.val (.int p0), .unset, .unset, .unset] [(.ref w_POLICE_OFFICE), (.int (8 : Int32)), (.ref fa1), (.ref fa1)])) rfl rfl (hb hby at_61)
  have V19 : Arv Z h19 fa1 fk1 (.object "com/example/musterpoint/musterpoint/world/Scenario$Kind") (10 : Int32) [(.ref w_REFUGE), (.ref w_FIRE), (.ref w_HYDRANT), (.ref w_CIVILIAN), (.ref w_FIRE_BRIGADE), (.ref w_POLICE_FORCE), (.ref w_AMBULANCE_TEAM), (.ref w_FIRE_STATION), (.ref w_POLICE_OFFICE), .null] .null := Arv.set Ar19 q19 S19 Nn19 H19 G19 rfl W19 8 rfl (Nat.le_of_ble_eq_true rfl)
  have N19 := Fr.snoc X19 N17 gn_fa1
  have Zn19 : n0 ≤ h19.size := Nat.le_trans Zn17 (Keep.of_wr W19).1
  have K19 : Keep h0 h19 [] := K17.wr W19 (Or.inr gh_fa1)
  obtain ⟨T20, X20, e20, st20⟩ := getS2 X19 hx hZ hown (host := "") (Or.inl (hw _ (List.mem_of_getElem? (i := 22) rfl))) Via.refl e19 ((((((((((S_AMBULANCE_CENTRE.ext E1).wr W3).wr W5).wr W7).wr W9).wr W11).wr W13).wr W15).wr W17).wr W19) (g := (mkF m 65 #[.val (.int p0), .unset, .unset, .unset] [(.int (9 : Int32)), (.ref fa1), (.ref fa1)])) rfl (hb hby at_65)
  obtain ⟨cl21, Ar21, q21, S21, Nn21, H21, G21⟩ := id V19
  have hin21 : ¬ ((9 : Int32) < 0 ∨ cl21.slots.size ≤ ((9 : Int32)).toNatClampNeg) := inb_of S21 ⟨by decide, by decide⟩
  obtain ⟨T21, h21, X21, e21, W21, st21⟩ := stR X20 hx hZ e20 Ar21 (j := (9 : Int32)) hin21 rfl (Sto.ofV Ar21 q21 Ov1 (Ins.self ((((((((((E_AMBULANCE_CENTRE.ext E1).wr W3).wr W5).wr W7).wr W9).wr W11).wr W13).wr W15).wr W17).wr W19))) (g := (mkF m 68 #[.val (.int p0), .unset, .unset, .unset] [(.ref w_AMBULANCE_CENTRE), (.int (9 : Int32)), (.ref fa1), (.ref fa1)])) rfl rfl (hb hby at_68)
  have V21 : Arv Z h21 fa1 fk1 (.object "com/example/musterpoint/musterpoint/world/Scenario$Kind") (10 : Int32) [(.ref w_REFUGE), (.ref w_FIRE), (.ref w_HYDRANT), (.ref w_CIVILIAN), (.ref w_FIRE_BRIGADE), (.ref w_POLICE_FORCE), (.ref w_AMBULANCE_TEAM), (.ref w_FIRE_STATION), (.ref w_POLICE_OFFICE), (.ref w_AMBULANCE_CENTRE)] .null := Arv.set Ar21 q21 S21 Nn21 H21 G21 rfl W21 9 rfl (Nat.le_of_ble_eq_true rfl)
  have N21 := Fr.snoc X21 N19 gn_fa1
  have Zn21 : n0 ≤ h21.size := Nat.le_trans Zn19 (Keep.of_wr W21).1
  have K21 : Keep h0 h21 [] := K19.wr W21 (Or.inr gh_fa1)
  obtain ⟨T22, h22, fk22, X22, e22, E22, A22, st22⟩ := newP X21 hx hZ (hw _ (List.mem_of_getElem? (i := 24) rfl)) e21 (g := (mkF m 72 #[.val (.int p0), .val (.ref fa1), .unset, .unset] [(.int (10 : Int32))])) rfl (hb hby at_72) rfl (by decide) (cap := 10) (by decide) (by decide) (by decide) (by decide)
  obtain ⟨fa22, g22⟩ : ∃ z, z = h21.size := ⟨_, rfl⟩
  rw [← g22] at A22 st22
  have gn_fa22 : n0 ≤ fa22 := Nat.le_trans Zn21 (Nat.le_of_eq g22.symm)
  have gh_fa22 : h0.size ≤ fa22 := Nat.le_trans K21.1 (Nat.le_of_eq g22.symm)
  have Zn22 : n0 ≤ h22.size := Nat.le_trans Zn21 E22.1
  have K22 : Keep h0 h22 [] := K21.ext E22
  have V22 : Arv Z h22 fa22 fk22 .boolean (10 : Int32) [(.int (0 : Int32)), (.int (0 : Int32)), (.int (0 : Int32)), (.int (0 : Int32)), (.int (0 : Int32)), (.int (0 : Int32)), (.int (0 : Int32)), (.int (0 : Int32)), (.int (0 : Int32)), (.int (0 : Int32))] (.int (0 : Int32)) := (Arv.new A22 (by decide)).pad (pad_rep [] (.int (0 : Int32)) 10)
  obtain ⟨cl23, Ar23, q23, S23, Nn23, H23, G23⟩ := id V22
  have hin23 : ¬ ((0 : Int32) < 0 ∨ cl23.slots.size ≤ ((0 : Int32)).toNatClampNeg) := inb_of S23 ⟨by decide, by decide⟩
  obtain ⟨T23, h23, X23, e23, W23, st23⟩ := stZ X22 hx hZ e22 Ar23 (j := (0 : Int32)) hin23 (g := (mkF m 77 #[.val (.int p0), .val (.ref fa1), .unset, .unset] [(.int (0 : Int32)), (.int (0 : Int32)), (.ref fa22), (.ref fa22)])) rfl rfl (hb hby at_77)
  have V23 : Arv Z h23 fa22 fk22 .boolean (10 : Int32) [(.int (0 : Int32)), (.int (0 : Int32)), (.int (0 : Int32)), (.int (0 : Int32)), (.int (0 : Int32)), (.int (0 : Int32)), (.int (0 : Int32)), (.int (0 : Int32)), (.int (0 : Int32)), (.int (0 : Int32))] (.int (0 : Int32)) := Arv.set Ar23 q23 S23 Nn23 H23 G23 (fits_nar_bool _) W23 0 rfl (Nat.le_of_ble_eq_true rfl)
  have N23 := Fr.snoc X23 N21 gn_fa22
  have Zn23 : n0 ≤ h23.size := Nat.le_trans Zn22 (Keep.of_wr W23).1
  have K23 : Keep h0 h23 [] := K22.wr W23 (Or.inr gh_fa22)
  obtain ⟨cl24, Ar24, q24, S24, Nn24, H24, G24⟩ := id V23
  have hin24 : ¬ ((1 : Int32) < 0 ∨ cl24.slots.size ≤ ((1 : Int32)).toNatClampNeg) := inb_of S24 ⟨by decide, by decide⟩
  obtain ⟨T24, h24, X24, e24, W24, st24⟩ := stZ X23 hx hZ e23 Ar24 (j := (1 : Int32)) hin24 (g := (mkF m 81 #[.val (.int p0), .val (.ref fa1), .unset, .unset] [(.int (0 : Int32)), (.int (1 : Int32)), (.ref fa22), (.ref fa22)])) rfl rfl (hb hby at_81)
  have V24 : Arv Z h24 fa22 fk22 .boolean (10 : Int32) [(.int (0 : Int32)), (.int (0 : Int32)), (.int (0 : Int32)), (.int (0 : Int32)), (.int (0 : Int32)), (.int (0 : Int32)), (.int (0 : Int32)), (.int (0 : Int32)), (.int (0 : Int32)), (.int (0 : Int32))] (.int (0 : Int32)) := Arv.set Ar24 q24 S24 Nn24 H24 G24 (fits_nar_bool _) W24 1 rfl (Nat.le_of_ble_eq_true rfl)
  have N24 := Fr.snoc X24 N23 gn_fa22
  have Zn24 : n0 ≤ h24.size := Nat.le_trans Zn23 (Keep.of_wr W24).1
  have K24 : Keep h0 h24 [] := K23.wr W24 (Or.inr gh_fa22)
  obtain ⟨cl25, Ar25, q25, S25, Nn25, H25, G25⟩ := id V24
  have hin25 : ¬ ((2 : Int32) < 0 ∨ cl25.slots.size ≤ ((2 : Int32)).toNatClampNeg) := inb_of S25 ⟨by decide, by decide⟩
  obtain ⟨T25, h25, X25, e25, W25, st25⟩ := stZ X24 hx hZ e24 Ar25 (j := (2 : Int32)) hin25 (g := (mkF m 85 #[.val (.int p0), .val (.ref fa1), .unset, .unset] [(.int (0 : Int32)), (.int (2 : Int32)), (.ref fa22), (.ref fa22)])) rfl rfl (hb hby at_85)
  have V25 : Arv Z h25 fa22 fk22 .boolean (10 : Int32) [(.int (0 : Int32)), (.int (0 : Int32)), (.int (0 : Int32)), (.int (0 : Int32)), (.int (0 : Int32)), (.int (0 : Int32)), (.int (0 : Int32)), (.int (0 : Int32)), (.int (0 : Int32)), (.int (0 : Int32))] (.int (0 : Int32)) := Arv.set Ar25 q25 S25 Nn25 H25 G25 (fits_nar_bool _) W25 2 rfl (Nat.le_of_ble_eq_true rfl)
  have N25 := Fr.snoc X25 N24 gn_fa22
  have Zn25 : n0 ≤ h25.size := Nat.le_trans Zn24 (Keep.of_wr W25).1
  have K25 : Keep h0 h25 [] := K24.wr W25 (Or.inr gh_fa22)
  obtain ⟨cl26, Ar26, q26, S26, Nn26, H26, G26⟩ := id V25
  have hin26 : ¬ ((3 : Int32) < 0 ∨ cl26.slots.size ≤ ((3 : Int32)).toNatClampNeg) := inb_of S26 ⟨by decide, by decide⟩
  obtain ⟨T26, h26, X26, e26, W26, st26⟩ := stZ X25 hx hZ e25 Ar26 (j := (3 : Int32)) hin26 (g := (mkF m 89 #[.val (.int p0), .val (.ref fa1), .unset, .unset] [(.int (0 : Int32)), (.int (3 : Int32)), (.ref fa22), (.ref fa22)])) rfl rfl (hb hby at_89)
  have V26 : Arv Z h26 fa22 fk22 .boolean (10 : Int32) [(.int (0 : Int32)), (.int (0 : Int32)), (.int (0 : Int32)), (.int (0 : Int32)), (.int (0 : Int32)), (.int (0 : Int32)), (.int (0 : Int32)), (.int (0 : Int32)), (.int (0 : Int32)), (.int (0 : Int32))] (.int (0 : Int32)) := Arv.set Ar26 q26 S26 Nn26 H26 G26 (fits_nar_bool _) W26 3 rfl (Nat.le_of_ble_eq_true rfl)
  have N26 := Fr.snoc X26 N25 gn_fa22
  have Zn26 : n0 ≤ h26.size := Nat.le_trans Zn25 (Keep.of_wr W26).1
  have K26 : Keep h0 h26 [] := K25.wr W26 (Or.inr gh_fa22)
  obtain ⟨cl27, Ar27, q27, S27, Nn27, H27, G27⟩ := id V26
  have hin27 : ¬ ((4 : Int32) < 0 ∨ cl27.slots.size ≤ ((4 : Int32)).toNatClampNeg) := inb_of S27 ⟨by decide, by decide⟩
  obtain ⟨T27, h27, X27, e27, W27, st27⟩ := stZ X26 hx hZ e26 Ar27 (j := (4 : Int32)) hin27 (g := (mkF m 93 #[.val (.int p0), .val (.ref fa1), .unset, .unset] [(.int (0 : Int32)), (.int (4 : Int32)), (.ref fa22), (.ref fa22)])) rfl rfl (hb hby at_93)
  have V27 : Arv Z h27 fa22 fk22 .boolean (10 : Int32) [(.int (0 : Int32)), (.int (0 : Int32)), (.int (0 : Int32)), (.int (0 : Int32)), (.int (0 : Int32)), (.int (0 : Int32)), (.int (0 : Int32)), (.int (0 : Int32)), (.int (0 : Int32)), (.int (0 : Int32))] (.int (0 : Int32)) := Arv.set Ar27 q27 S27 Nn27 H27 G27 (fits_nar_bool _) W27 4 rfl (Nat.le_of_ble_eq_true rfl)
  have N27 := Fr.snoc X27 N26 gn_fa22
  have Zn27 : n0 ≤ h27.size := Nat.le_trans Zn26 (Keep.of_wr W27).1
  have K27 : Keep h0 h27 [] := K26.wr W27 (Or.inr gh_fa22)
  obtain ⟨cl28, Ar28, q28, S28, Nn28, H28, G28⟩ := id V27
  have hin28 : ¬ ((5 : Int32) < 0 ∨ cl28.slots.size ≤ ((5 : Int32)).toNatClampNeg) := inb_of S28 ⟨by decide, by decide⟩
  obtain ⟨T28, h28, X28, e28, W28, st28⟩ := stZ X27 hx hZ e27 Ar28 (j := (5 : Int32)) hin28 (g := (mkF m 97 #[.val (.int p0), .val (.ref fa1), .unset, .unset] [(.int (0 : Int32)), (.int (5 : Int32)), (.ref fa22), (.ref fa22)])) rfl rfl (hb hby at_97)
  have V28 : Arv Z h28 fa22 fk22 .boolean (10 : Int32) [(.int (0 : Int32)), (.int (0 : Int32)), (.int (0 : Int32)), (.int (0 : Int32)), (.int (0 : Int32)), (.int (0 : Int32)), (.int (0 : Int32)), (.int (0 : Int32)), (.int (0 : Int32)), (.int (0 : Int32))] (.int (0 : Int32)) := Arv.set Ar28 q28 S28 Nn28 H28 G28 (fits_nar_bool _) W28 5 rfl (Nat.le_of_ble_eq_true rfl)
  have N28 := Fr.snoc X28 N27 gn_fa22
  have Zn28 : n0 ≤ h28.size := Nat.le_trans Zn27 (Keep.of_wr W28).1
  have K28 : Keep h0 h28 [] := K27.wr W28 (Or.inr gh_fa22)
  obtain ⟨cl29, Ar29, q29, S29, Nn29, H29, G29⟩ := id V28
  have hin29 : ¬ ((6 : Int32) < 0 ∨ cl29.slots.size ≤ ((6 : Int32)).toNatClampNeg) := inb_of S29 ⟨by decide, by decide⟩
  obtain ⟨T29, h29, X29, e29, W29, st29⟩ := stZ X28 hx hZ e28 Ar29 (j := (6 : Int32)) hin29 (g := (mkF m 102 #[.val (.int p0), .val (.ref fa1), .unset, .unset] [(.int (0 : Int32)), (.int (6 : Int32)), (.ref fa22), (.ref fa22)])) rfl rfl (hb hby at_102)
  have V29 : Arv Z h29 fa22 fk22 .boolean (10 : Int32) [(.int (0 : Int32)), (.int (0 : Int32)), (.int (0 : Int32)), (.int (0 : Int32)), (.int (0 : Int32)), (.int (0 : Int32)), (.int (0 : Int32)), (.int (0 : Int32)), (.int (0 : Int32)), (.int (0 : Int32))] (.int (0 : Int32)) := Arv.set Ar29 q29 S29 Nn29 H29 G29 (fits_nar_bool _) W29 6 rfl (Nat.le_of_ble_eq_true rfl)
  have N29 := Fr.snoc X29 N28 gn_fa22
  have Zn29 : n0 ≤ h29.size := Nat.le_trans Zn28 (Keep.of_wr W29).1
  have K29 : Keep h0 h29 [] := K28.wr W29 (Or.inr gh_fa22)
  obtain ⟨cl30, Ar30, q30, S30, Nn30, H30, G30⟩ := id V29
  have hin30 : ¬ ((7 : Int32) < 0 ∨ cl30.slots.size ≤ ((7 : Int32)).toNatClampNeg) := inb_of S30 ⟨by decide, by decide⟩
  obtain ⟨T30, h30, X30, e30, W30, st30⟩ := stZ X29 hx hZ e29 Ar30 (j := (7 : Int32)) hin30 (g := (mkF m 107 #[.val (.int p0), .val (.ref fa1), .unset, .unset] [(.int (1 : Int32)), (.int (7 : Int32)), (.ref fa22), (.ref fa22)])) rfl rfl (hb hby at_107)
  have V30 : Arv Z h30 fa22 fk22 .boolean (10 : Int32) [(.int (0 : Int32)), (.int (0 : Int32)), (.int (0 : Int32)), (.int (0 : Int32)), (.int (0 : Int32)), (.int (0 : Int32)), (.int (0 : Int32)), (.int (1 : Int32)), (.int (0 : Int32)), (.int (0 : Int32))] (.int (0 : Int32)) := Arv.set Ar30 q30 S30 Nn30 H30 G30 (fits_nar_bool _) W30 7 rfl (Nat.le_of_ble_eq_true rfl)
  have N30 := Fr.snoc X30 N29 gn_fa22
  have Zn30 : n0 ≤ h30.size := Nat.le_trans Zn29 (Keep.of_wr W30).1
  have K30 : Keep h0 h30 [] := K29.wr W30 (Or.inr gh_fa22)
  obtain ⟨cl31, Ar31, q31, S31, Nn31, H31, G31⟩ := id V30
  have hin31 : ¬ ((8 : Int32) < 0 ∨ cl31.slots.size ≤ ((8 : Int32)).toNatClampNeg) := inb_of S31 ⟨by decide, by decide⟩
  obtain ⟨T31, h31, X31, e31, W31, st31⟩ := stZ X30 hx hZ e30 Ar31 (j := (8 : Int32)) hin31 (g := (mkF m 112 #[.val (.int p0), .val (.ref fa1), .unset, .unset] [(.int (1 : Int32)), (.int (8 : Int32)), (.ref fa22), (.ref fa22)])) rfl rfl (hb hby at_112)
  have V31 : Arv Z h31 fa22 fk22 .boolean (10 : Int32) [(.int (0 : Int32)), (.int (0 : Int32)), (.int (0 : Int32)), (.int (0 : Int32)), (.int (0 : Int32)), (.int (0 : Int32)), (.int (0 : Int32)), (.int (1 : Int32)), (.int (1 : Int32)), (.int (0 : Int32))] (.int (0 : Int32)) := Arv.set Ar31 q31 S31 Nn31 H31 G31 (fits_nar_bool _) W31 8 rfl (Nat.le_of_ble_eq_true rfl)
  have N31 := Fr.snoc X31 N30 gn_fa22
  have Zn31 : n0 ≤ h31.size := Nat.le_trans Zn30 (Keep.of_wr W31).1
  have K31 : Keep h0 h31 [] := K30.wr W31 (Or.inr gh_fa22)
  obtain ⟨cl32, Ar32, q32, S32, Nn32, H32, G32⟩ := id V31
  have hin32 : ¬ ((9 : Int32) < 0 ∨ cl32.slots.size ≤ ((9 : Int32)).toNatClampNeg) := inb_of S32 ⟨by decide, by decide⟩
  obtain ⟨T32, h32, X32, e32, W32, st32⟩ := stZ X31 hx hZ e31 Ar32 (j := (9 : Int32)) hin32 (g := (mkF m 117 #[.val (.int p0), .val (.ref fa1), .unset, .unset] [(.int (1 : Int32)), (.int (9 : Int32)), (.ref fa22), (.ref fa22)])) rfl rfl (hb hby at_117)
  have V32 : Arv Z h32 fa22 fk22 .boolean (10 : Int32) [(.int (0 : Int32)), (.int (0 : Int32)), (.int (0 : Int32)), (.int (0 : Int32)), (.int (0 : Int32)), (.int (0 : Int32)), (.int (0 : Int32)), (.int (1 : Int32)), (.int (1 : Int32)), (.int (1 : Int32))] (.int (0 : Int32)) := Arv.set Ar32 q32 S32 Nn32 H32 G32 (fits_nar_bool _) W32 9 rfl (Nat.le_of_ble_eq_true rfl)
  have N32 := Fr.snoc X32 N31 gn_fa22
  have Zn32 : n0 ≤ h32.size := Nat.le_trans Zn31 (Keep.of_wr W32).1
  have K32 : Keep h0 h32 [] := K31.wr W32 (Or.inr gh_fa22)
  obtain ⟨cl33, Ar33, q33, S33, Nn33, H33, G33⟩ := (((((((((((V21.ext E22).other W23 (Nat.ne_of_lt (Nat.lt_of_lt_of_le V1.lt (Nat.le_trans (Keep.of_wr W3).1 (Nat.le_trans (Keep.of_wr W5).1 (Nat.le_trans (Keep.of_wr W7).1 (Nat.le_trans (Keep.of_wr W9).1 (Nat.le_trans (Keep.of_wr W11).1 (Nat.le_trans (Keep.of_wr W13).1 (Nat.le_trans (Keep.of_wr W15).1 (Nat.le_trans (Keep.of_wr W17).1 (Nat.le_trans (Keep.of_wr W19).1 (Nat.le_trans (Keep.of_wr W21).1 (Nat.le_of_eq g22.symm)))))))))))))).other W24 (Nat.ne_of_lt (Nat.lt_of_lt_of_le V1.lt (Nat.le_trans (Keep.of_wr W3).1 (Nat.le_trans (Keep.of_wr W5).1 (Nat.le_trans (Keep.of_wr W7).1 (Nat.le_trans (Keep.of_wr W9).1 (Nat.le_trans (Keep.of_wr W11).1 (Nat.le_trans (Keep.of_wr W13).1 (Nat.le_trans (Keep.of_wr W15).1 (Nat.le_trans (Keep.of_wr W17).1 (Nat.le_trans (Keep.of_wr W19).1 (Nat.le_trans (Keep.of_wr W21).1 (Nat.le_of_eq g22.symm)))))))))))))).other W25 (Nat.ne_of_lt (Nat.lt_of_lt_of_le V1.lt (Nat.le_trans (Keep.of_wr W3).1 (Nat.le_trans (Keep.of_wr W5).1 (Nat.le_trans (Keep.of_wr W7).1 (Nat.le_trans (Keep.of_wr W9).1 (Nat.le_trans (Keep.of_wr W11).1 (Nat.le_trans (Keep.of_wr W13).1 (Nat.le_trans (Keep.of_wr W15).1 (Nat.le_trans (Keep.of_wr W17).1 (Nat.le_trans (Keep.of_wr W19).1 (Nat.le_trans (Keep.of_wr W21).1 (Nat.le_of_eq g22.symm)))))))))))))).other W26 (Nat.ne_of_lt (Nat.lt_of_lt_of_le V1.lt (Nat.le_trans (Keep.of_wr W3).1 (Nat.le_trans (Keep.of_wr W5).1 (Nat.le_trans (Keep.of_wr W7).1 (Nat.le_trans (Keep.of_wr W9).1 (Nat.le_trans (Keep.of_wr W11).1 (Nat.le_trans (Keep.of_wr W13).1 (Nat.le_trans (Keep.of_wr W15).1 (Nat.le_trans (Keep.of_wr W17).1 (Nat.le_trans (Keep.of_wr W19).1 (Nat.le_trans (Keep.of_wr W21).1 (Nat.le_of_eq g22.symm)))))))))))))).other W27 (Nat.ne_of_lt (Nat.lt_of_lt_of_le V1.lt (Nat.le_trans (Keep.of_wr W3).1 (Nat.le_trans (Keep.of_wr W5).1 (Nat.le_trans (Keep.of_wr W7).1 (Nat.le_trans (Keep.of_wr W9).1 (Nat.le_trans (Keep.of_wr W11).1 (Nat.le_trans (Keep.of_wr W13).1 (Nat.le_trans (Keep.of_wr W15).1 (Nat.le_trans (Keep.of_wr W17).1 (Nat.le_trans (Keep.of_wr W19).1 (Nat.le_trans (Keep.of_wr W21).1 (Nat.le_of_eq g22.symm)))))))))))))).other W28 (Nat.ne_of_lt (Nat.lt_of_lt_of_le V1.lt (Nat.le_trans (Keep.of_wr W3).1 (Nat.le_trans (Keep.of_wr W5).1 (Nat.le_trans (Keep.of_wr W7).1 (Nat.le_trans (Keep.of_wr W9).1 (Nat.le_trans (Keep.of_wr W11).1 (Nat.le_trans (Keep.of_wr W13).1 (Nat.le_trans (Keep.of_wr W15).1 (Nat.le_trans (Keep.of_wr W17).1 (Nat.le_trans (Keep.of_wr W19).1 (Nat.le_trans (Keep.of_wr W21).1 (Nat.le_of_eq g22.symm)))))))))))))).other W29 (Nat.ne_of_lt (Nat.lt_of_lt_of_le V1.lt (Nat.le_trans (Keep.of_wr W3).1 (Nat.le_trans (Keep.of_wr W5).1 (Nat.le_trans (Keep.of_wr W7).1 (Nat.le_trans (Keep.of_wr W9).1 (Nat.le_trans (Keep.of_wr W11).1 (Nat.le_trans (Keep.of_wr W13).1 (Nat.le_trans (Keep.of_wr W15).1 (Nat.le_trans (Keep.of_wr W17).1 (Nat.le_trans (Keep.of_wr W19).1 (Nat.le_trans (Keep.of_wr W21).1 (Nat.le_of_eq g22.symm)))))))))))))).other W30 (Nat.ne_of_lt (Nat.lt_of_lt_of_le V1.lt (Nat.le_trans (Keep.of_wr W3).1 (Nat.le_trans (Keep.of_wr W5).1 (Nat.le_trans (Keep.of_wr W7).1 (Nat.le_trans (Keep.of_wr W9).1 (Nat.le_trans (Keep.of_wr W11).1 (Nat.le_trans (Keep.of_wr W13).1 (Nat.le_trans (Keep.of_wr W15).1 (Nat.le_trans (Keep.of_wr W17).1 (Nat.le_trans (Keep.of_wr W19).1 (Nat.le_trans (Keep.of_wr W21).1 (Nat.le_of_eq g22.symm)))))))))))))).other W31 (Nat.ne_of_lt (Nat.lt_of_lt_of_le V1.lt (Nat.le_trans (Keep.of_wr W3).1 (Nat.le_trans (Keep.of_wr W5).1 (Nat.le_trans (Keep.of_wr W7).1 (Nat.le_trans (Keep.of_wr W9).1 (Nat.le_trans (Keep.of_wr W11).1 (Nat.le_trans (Keep.of_wr W13).1 (Nat.le_trans (Keep.of_wr W15).1 (Nat.le_trans (Keep.of_wr W17).1 (Nat.le_trans (Keep.of_wr W19).1 (Nat.le_trans (Keep.of_wr W21).1 (Nat.le_of_eq g22.symm)))))))))))))).other W32 (Nat.ne_of_lt (Nat.lt_of_lt_of_le V1.lt (Nat.le_trans (Keep.of_wr W3).1 (Nat.le_trans (Keep.of_wr W5).1 (Nat.le_trans (Keep.of_wr W7).1 (Nat.le_trans (Keep.of_wr W9).1 (Nat.le_trans (Keep.of_wr W11).1 (Nat.le_trans (Keep.of_wr W13).1 (Nat.le_trans (Keep.of_wr W15).1 (Nat.le_trans (Keep.of_wr W17).1 (Nat.le_trans (Keep.of_wr W19).1 (Nat.le_trans (Keep.of_wr W21).1 (Nat.le_of_eq g22.symm))))))))))))))
  have hin33 : ¬ (((p0 &&& (2147483647 : Int32)) % (10 : Int32)) < 0 ∨ cl33.slots.size ≤ (((p0 &&& (2147483647 : Int32)) % (10 : Int32))).toNatClampNeg) := inb_of S33 (own_mod10 p0)
  obtain ⟨cq34, kq34, q34a, q34b, q34c⟩ := isOf hZ e32 (own_exa _ ((((((((((((((((((((((E_REFUGE.ext E1).wr W3).wr W5).wr W7).wr W9).wr W11).wr W13).wr W15).wr W17).wr W19).wr W21).ext E22).wr W23).wr W24).wr W25).wr W26).wr W27).wr W28).wr W29).wr W30).wr W31).wr W32) ((((((((((((((((((((((E_FIRE.ext E1).wr W3).wr W5).wr W7).wr W9).wr W11).wr W13).wr W15).wr W17).wr W19).wr W21).ext E22).wr W23).wr W24).wr W25).wr W26).wr W27).wr W28).wr W29).wr W30).wr W31).wr W32) ((((((((((((((((((((((E_HYDRANT.ext E1).wr W3).wr W5).wr W7).wr W9).wr W11).wr W13).wr W15).wr W17).wr W19).wr W21).ext E22).wr W23).wr W24).wr W25).wr W26).wr W27).wr W28).wr W29).wr W30).wr W31).wr W32) ((((((((((((((((((((((E_CIVILIAN.ext E1).wr W3).wr W5).wr W7).wr W9).wr W11).wr W13).wr W15).wr W17).wr W19).wr W21).ext E22).wr W23).wr W24).wr W25).wr W26).wr W27).wr W28).wr W29).wr W30).wr W31).wr W32) ((((((((((((((((((((((E_FIRE_BRIGADE.ext E1).wr W3).wr W5).wr W7).wr W9).wr W11).wr W13).wr W15).wr W17).wr W19).wr W21).ext E22).wr W23).wr W24).wr W25).wr W26).wr W27).wr W28).wr W29).wr W30).wr W31).wr W32) ((((((((((((((((((((((E_POLICE_FORCE.ext E1).wr W3).wr W5).wr W7).wr W9).wr W11).wr W13).wr W15).wr W17).wr W19).wr W21).ext E22).wr W23).wr W24).wr W25).wr W26).wr W27).wr W28).wr W29).wr W30).wr W31).wr W32) ((((((((((((((((((((((E_AMBULANCE_TEAM.ext E1).wr W3).wr W5).wr W7).wr W9).wr W11).wr W13).wr W15).wr W17).wr W19).wr W21).ext E22).wr W23).wr W24).wr W25).wr W26).wr W27).wr W28).wr W29).wr W30).wr W31).wr W32) ((((((((((((((((((((((E_FIRE_STATION.ext E1).wr W3).wr W5).wr W7).wr W9).wr W11).wr W13).wr W15).wr W17).wr W19).wr W21).ext E22).wr W23).wr W24).wr W25).wr W26).wr W27).wr W28).wr W29).wr W30).wr W31).wr W32) ((((((((((((((((((((((E_POLICE_OFFICE.ext E1).wr W3).wr W5).wr W7).wr W9).wr W11).wr W13).wr W15).wr W17).wr W19).wr W21).ext E22).wr W23).wr W24).wr W25).wr W26).wr W27).wr W28).wr W29).wr W30).wr W31).wr W32) ((((((((((((((((((((((E_AMBULANCE_CENTRE.ext E1).wr W3).wr W5).wr W7).wr W9).wr W11).wr W13).wr W15).wr W17).wr W19).wr W21).ext E22).wr W23).wr W24).wr W25).wr W26).wr W27).wr W28).wr W29).wr W30).wr W31).wr W32))
  obtain ⟨_, _, ⟨T34, L34, k34, n34⟩, -, X34, ⟨Lc34, hQ34, l34, y34, z34⟩, st34⟩ := X32.virtualBack hx (y := (⟨"com/example/musterpoint/musterpoint/world/Scenario$Kind", "isCentre", "()Z"⟩ : MethodName)) (z := (⟨"com/example/musterpoint/musterpoint/world/Scenario$Kind", "isCentre", "()Z"⟩ : MethodName)) hown (mvT hZ (hw _ (List.mem_of_getElem? (i := 26) rfl))) (mvT hZ (hw _ (List.mem_of_getElem? (i := 27) rfl))) (notFace_of_selects (args := #[]) (mvT hZ (hw _ (List.mem_of_getElem? (i := 29) rfl)))) (mvT hZ (hw _ (List.mem_of_getElem? (i := 29) rfl))) (mvT hZ (hw _ (List.mem_of_getElem? (i := 28) rfl))) (by decide) (backOf (W := 0) (rm1 l Z a0 hw [] (own_pick ((p0 &&& (2147483647 : Int32)) % (10 : Int32)) w_REFUGE w_FIRE w_HYDRANT w_CIVILIAN w_FIRE_BRIGADE w_POLICE_FORCE w_AMBULANCE_TEAM w_FIRE_STATION w_POLICE_OFFICE w_AMBULANCE_CENTRE) w_FIRE_STATION w_POLICE_OFFICE w_AMBULANCE_CENTRE h32 n0 Zn32 ((((((((((((((((((((((S_FIRE_STATION.ext E1).wr W3).wr W5).wr W7).wr W9).wr W11).wr W13).wr W15).wr W17).wr W19).wr W21).ext E22).wr W23).wr W24).wr W25).wr W26).wr W27).wr W28).wr W29).wr W30).wr W31).wr W32) ((((((((((((((((((((((S_POLICE_OFFICE.ext E1).wr W3).wr W5).wr W7).wr W9).wr W11).wr W13).wr W15).wr W17).wr W19).wr W21).ext E22).wr W23).wr W24).wr W25).wr W26).wr W27).wr W28).wr W29).wr W30).wr W31).wr W32) ((((((((((((((((((((((S_AMBULANCE_CENTRE.ext E1).wr W3).wr W5).wr W7).wr W9).wr W11).wr W13).wr W15).wr W17).wr W19).wr W21).ext E22).wr W23).wr W24).wr W25).wr W26).wr W27).wr W28).wr W29).wr W30).wr W31).wr W32)) hZ (hw _ (List.mem_of_getElem? (i := 30) rfl)) (hw _ (List.mem_of_getElem? (i := 3) rfl)) (by decide) (by decide)) q34a q34c (g := (mkF m 130 #[.val (.int p0), .val (.ref fa1), .val (.ref fa22), .val (.int ((p0 &&& (2147483647 : Int32)) % (10 : Int32)))] [(.ref (own_pick ((p0 &&& (2147483647 : Int32)) % (10 : Int32)) w_REFUGE w_FIRE w_HYDRANT w_CIVILIAN w_FIRE_BRIGADE w_POLICE_FORCE w_AMBULANCE_TEAM w_FIRE_STATION w_POLICE_OFFICE w_AMBULANCE_CENTRE))])) rfl (by rw [hml]; rfl) (Steps.refl _) (argsL := []) (rest := []) (lenOf pd_0 rfl) rfl (by show 2 * 0 + _ ≤ _; exact Nat.le_of_eq rfl) (hb hby at_130) (fun _ _ => ⟨rfl, e32, (by decide : 2 + 0 ≤ _), (by decide : 20 + 0 ≤ _)⟩)
  dsimp only [Pt.U, Pt.locs, Pt.cells, Pt.slots] at X34 l34 y34 z34 st34 hQ34
  subst l34 y34 z34
  obtain ⟨rfl, N34q, e34⟩ := hQ34
  have N34 := Fr.app N32 N34q
  obtain ⟨cl35, Ar35, q35, S35, Nn35, H35, G35⟩ := V32
  have hin35 : ¬ (((p0 &&& (2147483647 : Int32)) % (10 : Int32)) < 0 ∨ cl35.slots.size ≤ (((p0 &&& (2147483647 : Int32)) % (10 : Int32))).toNatClampNeg) := inb_of S35 (own_mod10 p0)
  obtain ⟨fs, hr, hrun, hended, hW, hsame⟩ := X34.leave (v := some (.int (1 : Int32))) (fun h => by rw [Bd.returns] at h; cases h)
  refine ⟨_, _, pre0 _ ?_, hrun, hended, _, _, rfl, ?_, ⟨_, rfl⟩, hW, hsame.mono (by decide) (by decide)⟩
  · show Steps p.tables e below (s₁.setTop (mkF m 0 #[.val (.int p0), .unset, .unset, .unset] [])) _
    refine XS.bipush X0.here hx rfl (hb hby at_0) ?_
    show Steps p.tables e below (s₁.setTop (mkF m 2 #[.val (.int p0), .unset, .unset, .unset] [(.int (10 : Int32))])) _
    refine st1 _ ?_
    show Steps p.tables e below (T1.setTop (mkF m 5 #[.val (.int p0), .unset, .unset, .unset] [(.ref fa1)])) _
    refine XS.dup X1.here hx rfl (hb hby at_5) rfl rfl ?_
    show Steps p.tables e below (T1.setTop (mkF m 6 #[.val (.int p0), .unset, .unset, .unset] [(.ref fa1), (.ref fa1)])) _
    refine XS.iconst X1.here hx rfl (hb hby at_6) ?_
    show Steps p.tables e below (T1.setTop (mkF m 7 #[.val (.int p0), .unset, .unset, .unset] [(.int (0 : Int32)), (.ref fa1), (.ref fa1)])) _
    refine st2 _ ?_
    show Steps p.tables e below (T2.setTop (mkF m 10 #[.val (.int p0), .unset, .unset, .unset] [(.ref w_REFUGE), (.int (0 : Int32)), (.ref fa1), (.ref fa1)])) _
    refine st3 _ ?_
    show Steps p.tables e below (T3.setTop (mkF m 11 #[.val (.int p0), .unset, .unset, .unset] [(.ref fa1)])) _
    refine XS.dup X3.here hx rfl (hb hby at_11) rfl rfl ?_
    show Steps p.tables e below (T3.setTop (mkF m 12 #[.val (.int p0), .unset, .unset, .unset] [(.ref fa1), (.ref fa1)])) _
    refine XS.iconst X3.here hx rfl (hb hby at_12) ?_
    show Steps p.tables e below (T3.setTop (mkF m 13 #[.val (.int p0), .unset, .unset, .unset] [(.int (1 : Int32)), (.ref fa1), (.ref fa1)])) _
    refine st4 _ ?_
    show Steps p.tables e below (T4.setTop (mkF m 16 #[.val (.int p0), .unset, .unset, .unset] [(.ref w_FIRE), (.int (1 : Int32)), (.ref fa1), (.ref fa1)])) _
    refine st5 _ ?_
    show Steps p.tables e below (T5.setTop (mkF m 17 #[.val (.int p0), .unset, .unset, .unset] [(.ref fa1)])) _
    refine XS.dup X5.here hx rfl (hb hby at_17) rfl rfl ?_
    show Steps p.tables e below (T5.setTop (mkF m 18 #[.val (.int p0), .unset, .unset, .unset] [(.ref fa1), (.ref fa1)])) _
    refine XS.iconst X5.here hx rfl (hb hby at_18) ?_
    show Steps p.tables e below (T5.setTop (mkF m 19 #[.val (.int p0), .unset, .unset, .unset] [(.int (2 : Int32)), (.ref fa1), (.ref fa1)])) _
    refine st6 _ ?_
    show Steps p.tables e below (T6.setTop (mkF m 22 #[.val (.int p0), .unset, .unset, .unset] [(.ref w_HYDRANT), (.int (2 : Int32)), (.ref fa1), (.ref fa1)])) _
    refine st7 _ ?_
    show Steps p.tables e below (T7.setTop (mkF m 23 #[.val (.int p0), .unset, .unset, .unset] [(.ref fa1)])) _
    refine XS.dup X7.here hx rfl (hb hby at_23) rfl rfl ?_
    show Steps p.tables e below (T7.setTop (mkF m 24 #[.val (.int p0), .unset, .unset, .unset] [(.ref fa1), (.ref fa1)])) _
    refine XS.iconst X7.here hx rfl (hb hby at_24) ?_
    show Steps p.tables e below (T7.setTop (mkF m 25 #[.val (.int p0), .unset, .unset, .unset] [(.int (3 : Int32)), (.ref fa1), (.ref fa1)])) _
    refine st8 _ ?_
    show Steps p.tables e below (T8.setTop (mkF m 28 #[.val (.int p0), .unset, .unset, .unset] [(.ref w_CIVILIAN), (.int (3 : Int32)), (.ref fa1), (.ref fa1)])) _
    refine st9 _ ?_
    show Steps p.tables e below (T9.setTop (mkF m 29 #[.val (.int p0), .unset, .unset, .unset] [(.ref fa1)])) _
    refine XS.dup X9.here hx rfl (hb hby at_29) rfl rfl ?_
    show Steps p.tables e below (T9.setTop (mkF m 30 #[.val (.int p0), .unset, .unset, .unset] [(.ref fa1), (.ref fa1)])) _
    refine XS.iconst X9.here hx rfl (hb hby at_30) ?_
    show Steps p.tables e below (T9.setTop (mkF m 31 #[.val (.int p0), .unset, .unset, .unset] [(.int (4 : Int32)), (.ref fa1), (.ref fa1)])) _
    refine st10 _ ?_
    show Steps p.tables e below (T10.setTop (mkF m 34 #[.val (.int p0), .unset, .unset, .unset] [(.ref w_FIRE_BRIGADE), (.int (4 : Int32)), (.ref fa1), (.ref fa1)])) _
    refine st11 _ ?_
    show Steps p.tables e below (T11.setTop (mkF m 35 #[.val (.int p0), .unset, .unset, .unset] [(.ref fa1)])) _
    refine XS.dup X11.here hx rfl (hb hby at_35) rfl rfl ?_
    show Steps p.tables e below (T11.setTop (mkF m 36 #[.val (.int p0), .unset, .unset, .unset] [(.ref fa1), (.ref fa1)])) _
    refine XS.iconst X11.here hx rfl (hb hby at_36) ?_
    show Steps p.tables e below (T11.setTop (mkF m 37 #[.val (.int p0), .unset, .unset, .unset] [(.int (5 : Int32)), (.ref fa1), (.ref fa1)])) _
    refine st12 _ ?_
    show Steps p.tables e below (T12.setTop (mkF m 40 #[.val (.int p0), .unset, .unset, .unset] [(.ref w_POLICE_FORCE), (.int (5 : Int32)), (.ref fa1), (.ref fa1)])) _
    refine st13 _ ?_
    show Steps p.tables e below (T13.setTop (mkF m 41 #[.val (.int p0), .unset, .unset, .unset] [(.ref fa1)])) _
    refine XS.dup X13.here hx rfl (hb hby at_41) rfl rfl ?_
    show Steps p.tables e below (T13.setTop (mkF m 42 #[.val (.int p0), .unset, .unset, .unset] [(.ref fa1), (.ref fa1)])) _
    refine XS.bipush X13.here hx rfl (hb hby at_42) ?_
    show Steps p.tables e below (T13.setTop (mkF m 44 #[.val (.int p0), .unset, .unset, .unset] [(.int (6 : Int32)), (.ref fa1), (.ref fa1)])) _
    refine st14 _ ?_
    show Steps p.tables e below (T14.setTop (mkF m 47 #[.val (.int p0), .unset, .unset, .unset] [(.ref w_AMBULANCE_TEAM), (.int (6 : Int32)), (.ref fa1), (.ref fa1)])) _
    refine st15 _ ?_
    show Steps p.tables e below (T15.setTop (mkF m 48 #[.val (.int p0), .unset, .unset, .unset] [(.ref fa1)])) _
    refine XS.dup X15.here hx rfl (hb hby at_48) rfl rfl ?_
    show Steps p.tables e below (T15.setTop (mkF m 49 #[.val (.int p0), .unset, .unset, .unset] [(.ref fa1), (.ref fa1)])) _
    refine XS.bipush X15.here hx rfl (hb hby at_49) ?_
    show Steps p.tables e below (T15.setTop (mkF m 51 #[.val (.int p0), .unset, .unset, .unset] [(.int (7 : Int32)), (.ref fa1), (.ref fa1)])) _
    refine st16 _ ?_
    show Steps p.tables e below (T16.setTop (mkF m 54 #[.val (.int p0), .unset, .unset, .unset] [(.ref w_FIRE_STATION), (.int (7 : Int32)), (.ref fa1), (.ref fa1)])) _
    refine st17 _ ?_
    show Steps p.tables e below (T17.setTop (mkF m 55 #[.val (.int p0), .unset, .unset, .unset] [(.ref fa1)])) _
    refine XS.dup X17.here hx rfl (hb hby at_55) rfl rfl ?_
    show Steps p.tables e below (T17.setTop (mkF m 56 #[.val (.int p0), .unset, .unset, .unset] [(.ref fa1), (.ref fa1)])) _
    refine XS.bipush X17.here hx rfl (hb hby at_56) ?_
    show Steps p.tables e below (T17.setTop (mkF m 58 #[.val (.int p0), .unset, .unset, .unset] [(.int (8 : Int32)), (.ref fa1), (.ref fa1)])) _
    refine st18 _ ?_
    show Steps p.tables e below (T18.setTop (mkF m 61 #[.val (.int p0), .unset, .unset, .unset] [(.ref w_POLICE_OFFICE), (.int (8 : Int32)), (.ref fa1), (.ref fa1)])) _
    refine st19 _ ?_
    show Steps p.tables e below (T19.setTop (mkF m 62 #[.val (.int p0), .unset, .unset, .unset] [(.ref fa1)])) _
    refine XS.dup X19.here hx rfl (hb hby at_62) rfl rfl ?_
    show Steps p.tables e below (T19.setTop (mkF m 63 #[.val (.int p0), .unset, .unset, .unset] [(.ref fa1), (.ref fa1)])) _
    refine XS.bipush X19.here hx rfl (hb hby at_63) ?_
    show Steps p.tables e below (T19.setTop (mkF m 65 #[.val (.int p0), .unset, .unset, .unset] [(.int (9 : Int32)), (.ref fa1), (.ref fa1)])) _
    refine st20 _ ?_
    show Steps p.tables e below (T20.setTop (mkF m 68 #[.val (.int p0), .unset, .unset, .unset] [(.ref w_AMBULANCE_CENTRE), (.int (9 : Int32)), (.ref fa1), (.ref fa1)])) _
    refine st21 _ ?_
    show Steps p.tables e below (T21.setTop (mkF m 69 #[.val (.int p0), .unset, .unset, .unset] [(.ref fa1)])) _
    refine XS.astoreN X21.here hx rfl (hb hby at_69) rfl rfl (l' := #[.val (.int p0), .val (.ref fa1), .unset, .unset]) rfl ?_
    show Steps p.tables e below (T21.setTop (mkF m 70 #[.val (.int p0), .val (.ref fa1), .unset, .unset] [])) _
    refine XS.bipush X21.here hx rfl (hb hby at_70) ?_
    show Steps p.tables e below (T21.setTop (mkF m 72 #[.val (.int p0), .val (.ref fa1), .unset, .unset] [(.int (10 : Int32))])) _
    refine st22 _ ?_
    show Steps p.tables e below (T22.setTop (mkF m 74 #[.val (.int p0), .val (.ref fa1), .unset, .unset] [(.ref fa22)])) _
    refine XS.dup X22.here hx rfl (hb hby at_74) rfl rfl ?_
    show Steps p.tables e below (T22.setTop (mkF m 75 #[.val (.int p0), .val (.ref fa1), .unset, .unset] [(.ref fa22), (.ref fa22)])) _
    refine XS.iconst X22.here hx rfl (hb hby at_75) ?_
    show Steps p.tables e below (T22.setTop (mkF m 76 #[.val (.int p0), .val (.ref fa1), .unset, .unset] [(.int (0 : Int32)), (.ref fa22), (.ref fa22)])) _
    refine XS.iconst X22.here hx rfl (hb hby at_76) ?_
    show Steps p.tables e below (T22.setTop (mkF m 77 #[.val (.int p0), .val (.ref fa1), .unset, .unset] [(.int (0 : Int32)), (.int (0 : Int32)), (.ref fa22), (.ref fa22)])) _
    refine st23 _ ?_
    show Steps p.tables e below (T23.setTop (mkF m 78 #[.val (.int p0), .val (.ref fa1), .unset, .unset] [(.ref fa22)])) _
    refine XS.dup X23.here hx rfl (hb hby at_78) rfl rfl ?_
    show Steps p.tables e below (T23.setTop (mkF m 79 #[.val (.int p0), .val (.ref fa1), .unset, .unset] [(.ref fa22), (.ref fa22)])) _
    refine XS.iconst X23.here hx rfl (hb hby at_79) ?_
    show Steps p.tables e below (T23.setTop (mkF m 80 #[.val (.int p0), .val (.ref fa1), .unset, .unset] [(.int (1 : Int32)), (.ref fa22), (.ref fa22)])) _
    refine XS.iconst X23.here hx rfl (hb hby at_80) ?_
    show Steps p.tables e below (T23.setTop (mkF m 81 #[.val (.int p0), .val (.ref fa1), .unset, .unset] [(.int (0 : Int32)), (.int (1 : Int32)), (.ref fa22), (.ref fa22)])) _
    refine st24 _ ?_
    show Steps p.tables e below (T24.setTop (mkF m 82 #[.val (.int p0), .val (.ref fa1), .unset, .unset] [(.ref fa22)])) _
    refine XS.dup X24.here hx rfl (hb hby at_82) rfl rfl ?_
    show Steps p.tables e below (T24.setTop (mkF m 83 #[.val (.int p0), .val (.ref fa1), .unset, .unset] [(.ref fa22), (.ref fa22)])) _
    refine XS.iconst X24.here hx rfl (hb hby at_83) ?_
    show Steps p.tables e below (T24.setTop (mkF m 84 #[.val (.int p0), .val (.ref fa1), .unset, .unset] [(.int (2 : Int32)), (.ref fa22), (.ref fa22)])) _
    refine XS.iconst X24.here hx rfl (hb hby at_84) ?_
    show Steps p.tables e below (T24.setTop (mkF m 85 #[.val (.int p0), .val (.ref fa1), .unset, .unset] [(.int (0 : Int32)), (.int (2 : Int32)), (.ref fa22), (.ref fa22)])) _
    refine st25 _ ?_
    show Steps p.tables e below (T25.setTop (mkF m 86 #[.val (.int p0), .val (.ref fa1), .unset, .unset] [(.ref fa22)])) _
    refine XS.dup X25.here hx rfl (hb hby at_86) rfl rfl ?_
    show Steps p.tables e below (T25.setTop (mkF m 87 #[.val (.int p0), .val (.ref fa1), .unset, .unset] [(.ref fa22), (.ref fa22)])) _
    refine XS.iconst X25.here hx rfl (hb hby at_87) ?_
    show Steps p.tables e below (T25.setTop (mkF m 88 #[.val (.int p0), .val (.ref fa1), .unset, .unset] [(.int (3 : Int32)), (.ref fa22), (.ref fa22)])) _
    refine XS.iconst X25.here hx rfl (hb hby at_88) ?_
    show Steps p.tables e below (T25.setTop (mkF m 89 #[.val (.int p0), .val (.ref fa1), .unset, .unset] [(.int (0 : Int32)), (.int (3 : Int32)), (.ref fa22), (.ref fa22)])) _
    refine st26 _ ?_
    show Steps p.tables e below (T26.setTop (mkF m 90 #[.val (.int p0), .val (.ref fa1), .unset, .unset] [(.ref fa22)])) _
    refine XS.dup X26.here hx rfl (hb hby at_90) rfl rfl ?_
    show Steps p.tables e below (T26.setTop (mkF m 91 #[.val (.int p0), .val (.ref fa1), .unset, .unset] [(.ref fa22), (.ref fa22)])) _
    refine XS.iconst X26.here hx rfl (hb hby at_91) ?_
    show Steps p.tables e below (T26.setTop (mkF m 92 #[.val (.int p0), .val (.ref fa1), .unset, .unset] [(.int (4 : Int32)), (.ref fa22), (.ref fa22)])) _
    refine XS.iconst X26.here hx rfl (hb hby at_92) ?_
    show Steps p.tables e below (T26.setTop (mkF m 93 #[.val (.int p0), .val (.ref fa1), .unset, .unset] [(.int (0 : Int32)), (.int (4 : Int32)), (.ref fa22), (.ref fa22)])) _
    refine st27 _ ?_
    show Steps p.tables e below (T27.setTop (mkF m 94 #[.val (.int p0), .val (.ref fa1), .unset, .unset] [(.ref fa22)])) _
    refine XS.dup X27.here hx rfl (hb hby at_94) rfl rfl ?_
    show Steps p.tables e below (T27.setTop (mkF m 95 #[.val (.int p0), .val (.ref fa1), .unset, .unset] [(.ref fa22), (.ref fa22)])) _
    refine XS.iconst X27.here hx rfl (hb hby at_95) ?_
    show Steps p.tables e below (T27.setTop (mkF m 96 #[.val (.int p0), .val (.ref fa1), .unset, .unset] [(.int (5 : Int32)), (.ref fa22), (.ref fa22)])) _
    refine XS.iconst X27.here hx rfl (hb hby at_96) ?_
    show Steps p.tables e below (T27.setTop (mkF m 97 #[.val (.int p0), .val (.ref fa1), .unset, .unset] [(.int (0 : Int32)), (.int (5 : Int32)), (.ref fa22), (.ref fa22)])) _
    refine st28 _ ?_
    show Steps p.tables e below (T28.setTop (mkF m 98 #[.val (.int p0), .val (.ref fa1), .unset, .unset] [(.ref fa22)])) _
    refine XS.dup X28.here hx rfl (hb hby at_98) rfl rfl ?_
    show Steps p.tables e below (T28.setTop (mkF m 99 #[.val (.int p0), .val (.ref fa1), .unset, .unset] [(.ref fa22), (.ref fa22)])) _
    refine XS.bipush X28.here hx rfl (hb hby at_99) ?_
    show Steps p.tables e below (T28.setTop (mkF m 101 #[.val (.int p0), .val (.ref fa1), .unset, .unset] [(.int (6 : Int32)), (.ref fa22), (.ref fa22)])) _
    refine XS.iconst X28.here hx rfl (hb hby at_101) ?_
    show Steps p.tables e below (T28.setTop (mkF m 102 #[.val (.int p0), .val (.ref fa1), .unset, .unset] [(.int (0 : Int32)), (.int (6 : Int32)), (.ref fa22), (.ref fa22)])) _
    refine st29 _ ?_
    show Steps p.tables e below (T29.setTop (mkF m 103 #[.val (.int p0), .val (.ref fa1), .unset, .unset] [(.ref fa22)])) _
    refine XS.dup X29.here hx rfl (hb hby at_103) rfl rfl ?_
    show Steps p.tables e below (T29.setTop (mkF m 104 #[.val (.int p0), .val (.ref fa1), .unset, .unset] [(.ref fa22), (.ref fa22)])) _
    refine XS.bipush X29.here hx rfl (hb hby at_104) ?_
    show Steps p.tables e below (T29.setTop (mkF m 106 #[.val (.int p0), .val (.ref fa1), .unset, .unset] [(.int (7 : Int32)), (.ref fa22), (.ref fa22)])) _
    refine XS.iconst X29.here hx rfl (hb hby at_106) ?_
    show Steps p.tables e below (T29.setTop (mkF m 107 #[.val (.int p0), .val (.ref fa1), .unset, .unset] [(.int (1 : Int32)), (.int (7 : Int32)), (.ref fa22), (.ref fa22)])) _
    refine st30 _ ?_
    show Steps p.tables e below (T30.setTop (mkF m 108 #[.val (.int p0), .val (.ref fa1), .unset, .unset] [(.ref fa22)])) _
    refine XS.dup X30.here hx rfl (hb hby at_108) rfl rfl ?_
    show Steps p.tables e below (T30.setTop (mkF m 109 #[.val (.int p0), .val (.ref fa1), .unset, .unset] [(.ref fa22), (.ref fa22)])) _
    refine XS.bipush X30.here hx rfl (hb hby at_109) ?_
    show Steps p.tables e below (T30.setTop (mkF m 111 #[.val (.int p0), .val (.ref fa1), .unset, .unset] [(.int (8 : Int32)), (.ref fa22), (.ref fa22)])) _
    refine XS.iconst X30.here hx rfl (hb hby at_111) ?_
    show Steps p.tables e below (T30.setTop (mkF m 112 #[.val (.int p0), .val (.ref fa1), .unset, .unset] [(.int (1 : Int32)), (.int (8 : Int32)), (.ref fa22), (.ref fa22)])) _
    refine st31 _ ?_
    show Steps p.tables e below (T31.setTop (mkF m 113 #[.val (.int p0), .val (.ref fa1), .unset, .unset] [(.ref fa22)])) _
    refine XS.dup X31.here hx rfl (hb hby at_113) rfl rfl ?_
    show Steps p.tables e below (T31.setTop (mkF m 114 #[.val (.int p0), .val (.ref fa1), .unset, .unset] [(.ref fa22), (.ref fa22)])) _
    refine XS.bipush X31.here hx rfl (hb hby at_114) ?_
    show Steps p.tables e below (T31.setTop (mkF m 116 #[.val (.int p0), .val (.ref fa1), .unset, .unset] [(.int (9 : Int32)), (.ref fa22), (.ref fa22)])) _
    refine XS.iconst X31.here hx rfl (hb hby at_116) ?_
    show Steps p.tables e below (T31.setTop (mkF m 117 #[.val (.int p0), .val (.ref fa1), .unset, .unset] [(.int (1 : Int32)), (.int (9 : Int32)), (.ref fa22), (.ref fa22)])) _
    refine st32 _ ?_
    show Steps p.tables e below (T32.setTop (mkF m 118 #[.val (.int p0), .val (.ref fa1), .unset, .unset] [(.ref fa22)])) _
    refine XS.astoreN X32.here hx rfl (hb hby at_118) rfl rfl (l' := #[.val (.int p0), .val (.ref fa1), .val (.ref fa22), .unset]) rfl ?_
    show Steps p.tables e below (T32.setTop (mkF m 119 #[.val (.int p0), .val (.ref fa1), .val (.ref fa22), .unset] [])) _
    refine XS.iloadN X32.here hx rfl (hb hby at_119) rfl ?_
    show Steps p.tables e below (T32.setTop (mkF m 120 #[.val (.int p0), .val (.ref fa1), .val (.ref fa22), .unset] [(.int p0)])) _
    refine X32.ldcInt hx hown (mvT hZ (hw _ (List.mem_of_getElem? (i := 25) rfl))) (g := (mkF m 120 #[.val (.int p0), .val (.ref fa1), .val (.ref fa22), .unset] [(.int p0)])) rfl (hb hby at_120) _ ?_
    show Steps p.tables e below (T32.setTop (mkF m 122 #[.val (.int p0), .val (.ref fa1), .val (.ref fa22), .unset] [(.int (2147483647 : Int32)), (.int p0)])) _
    refine XS.iand X32.here hx rfl (hb hby at_122) rfl ?_
    show Steps p.tables e below (T32.setTop (mkF m 123 #[.val (.int p0), .val (.ref fa1), .val (.ref fa22), .unset] [(.int (p0 &&& (2147483647 : Int32)))])) _
    refine XS.bipush X32.here hx rfl (hb hby at_123) ?_
    show Steps p.tables e below (T32.setTop (mkF m 125 #[.val (.int p0), .val (.ref fa1), .val (.ref fa22), .unset] [(.int (10 : Int32)), (.int (p0 &&& (2147483647 : Int32)))])) _
    refine iremM (g := (mkF m 125 #[.val (.int p0), .val (.ref fa1), .val (.ref fa22), .unset] [(.int (10 : Int32)), (.int (p0 &&& (2147483647 : Int32)))])) X32 hx rfl (hb hby at_125) rfl (by decide) ?_
    show Steps p.tables e below (T32.setTop (mkF m 126 #[.val (.int p0), .val (.ref fa1), .val (.ref fa22), .unset] [(.int ((p0 &&& (2147483647 : Int32)) % (10 : Int32)))])) _
    refine XS.istoreN X32.here hx rfl (hb hby at_126) rfl (l' := #[.val (.int p0), .val (.ref fa1), .val (.ref fa22), .val (.int ((p0 &&& (2147483647 : Int32)) % (10 : Int32)))]) rfl ?_
    show Steps p.tables e below (T32.setTop (mkF m 127 #[.val (.int p0), .val (.ref fa1), .val (.ref fa22), .val (.int ((p0 &&& (2147483647 : Int32)) % (10 : Int32)))] [])) _
    refine XS.aloadN X32.here hx rfl (hb hby at_127) rfl rfl ?_
    show Steps p.tables e below (T32.setTop (mkF m 128 #[.val (.int p0), .val (.ref fa1), .val (.ref fa22), .val (.int ((p0 &&& (2147483647 : Int32)) % (10 : Int32)))] [(.ref fa1)])) _
    refine XS.iloadN X32.here hx rfl (hb hby at_128) rfl ?_
    show Steps p.tables e below (T32.setTop (mkF m 129 #[.val (.int p0), .val (.ref fa1), .val (.ref fa22), .val (.int ((p0 &&& (2147483647 : Int32)) % (10 : Int32)))] [(.int ((p0 &&& (2147483647 : Int32)) % (10 : Int32))), (.ref fa1)])) _
    refine X32.aaload hx (j := ((p0 &&& (2147483647 : Int32)) % (10 : Int32))) (v := (.ref (own_pick ((p0 &&& (2147483647 : Int32)) % (10 : Int32)) w_REFUGE w_FIRE w_HYDRANT w_CIVILIAN w_FIRE_BRIGADE w_POLICE_FORCE w_AMBULANCE_TEAM w_FIRE_STATION w_POLICE_OFFICE w_AMBULANCE_CENTRE))) (by rw [e32]; exact (Ar33).1) (State.isArrayOf_alike hZ.alike (Ar33).2.1) rfl (Ar33).2.2 hin33 (H33.at hin33 (own_getR _ (own_mod10 p0) w_REFUGE w_FIRE w_HYDRANT w_CIVILIAN w_FIRE_BRIGADE w_POLICE_FORCE w_AMBULANCE_TEAM w_FIRE_STATION w_POLICE_OFFICE w_AMBULANCE_CENTRE)) (g := (mkF m 129 #[.val (.int p0), .val (.ref fa1), .val (.ref fa22), .val (.int ((p0 &&& (2147483647 : Int32)) % (10 : Int32)))] [(.int ((p0 &&& (2147483647 : Int32)) % (10 : Int32))), (.ref fa1)])) rfl rfl (hb hby at_129) _ ?_
    show Steps p.tables e below (T32.setTop (mkF m 130 #[.val (.int p0), .val (.ref fa1), .val (.ref fa22), .val (.int ((p0 &&& (2147483647 : Int32)) % (10 : Int32)))] [(.ref (own_pick ((p0 &&& (2147483647 : Int32)) % (10 : Int32)) w_REFUGE w_FIRE w_HYDRANT w_CIVILIAN w_FIRE_BRIGADE w_POLICE_FORCE w_AMBULANCE_TEAM w_FIRE_STATION w_POLICE_OFFICE w_AMBULANCE_CENTRE))])) _
    refine st34.trans ?_
    show Steps p.tables e below (T34.setTop (mkF m 133 #[.val (.int p0), .val (.ref fa1), .val (.ref fa22), .val (.int ((p0 &&& (2147483647 : Int32)) % (10 : Int32)))] [(.int (own_isC (own_pick ((p0 &&& (2147483647 : Int32)) % (10 : Int32)) w_REFUGE w_FIRE w_HYDRANT w_CIVILIAN w_FIRE_BRIGADE w_POLICE_FORCE w_AMBULANCE_TEAM w_FIRE_STATION w_POLICE_OFFICE w_AMBULANCE_CENTRE) w_FIRE_STATION w_POLICE_OFFICE w_AMBULANCE_CENTRE))])) _
    refine XS.aloadN X34.here hx rfl (hb hby at_133) rfl rfl ?_
    show Steps p.tables e below (T34.setTop (mkF m 134 #[.val (.int p0), .val (.ref fa1), .val (.ref fa22), .val (.int ((p0 &&& (2147483647 : Int32)) % (10 : Int32)))] [(.ref fa22), (.int (own_isC (own_pick ((p0 &&& (2147483647 : Int32)) % (10 : Int32)) w_REFUGE w_FIRE w_HYDRANT w_CIVILIAN w_FIRE_BRIGADE w_POLICE_FORCE w_AMBULANCE_TEAM w_FIRE_STATION w_POLICE_OFFICE w_AMBULANCE_CENTRE) w_FIRE_STATION w_POLICE_OFFICE w_AMBULANCE_CENTRE))])) _
    refine XS.iloadN X34.here hx rfl (hb hby at_134) rfl ?_
    show Steps p.tables e below (T34.setTop (mkF m 135 #[.val (.int p0), .val (.ref fa1), .val (.ref fa22), .val (.int ((p0 &&& (2147483647 : Int32)) % (10 : Int32)))] [(.int ((p0 &&& (2147483647 : Int32)) % (10 : Int32))), (.ref fa22), (.int (own_isC (own_pick ((p0 &&& (2147483647 : Int32)) % (10 : Int32)) w_REFUGE w_FIRE w_HYDRANT w_CIVILIAN w_FIRE_BRIGADE w_POLICE_FORCE w_AMBULANCE_TEAM w_FIRE_STATION w_POLICE_OFFICE w_AMBULANCE_CENTRE) w_FIRE_STATION w_POLICE_OFFICE w_AMBULANCE_CENTRE))])) _
    refine X34.baloadBooleans hx (j := ((p0 &&& (2147483647 : Int32)) % (10 : Int32))) (v := (.int (own_cen ((p0 &&& (2147483647 : Int32)) % (10 : Int32))))) (by rw [e34]; exact (Ar35).1) (State.isArrayOf_alike hZ.alike (Ar35).2.1) (Ar35).2.2 hin35 (H35.at hin35 (own_getB _ (own_mod10 p0))) (g := (mkF m 135 #[.val (.int p0), .val (.ref fa1), .val (.ref fa22), .val (.int ((p0 &&& (2147483647 : Int32)) % (10 : Int32)))] [(.int ((p0 &&& (2147483647 : Int32)) % (10 : Int32))), (.ref fa22), (.int (own_isC (own_pick ((p0 &&& (2147483647 : Int32)) % (10 : Int32)) w_REFUGE w_FIRE w_HYDRANT w_CIVILIAN w_FIRE_BRIGADE w_POLICE_FORCE w_AMBULANCE_TEAM w_FIRE_STATION w_POLICE_OFFICE w_AMBULANCE_CENTRE) w_FIRE_STATION w_POLICE_OFFICE w_AMBULANCE_CENTRE))])) rfl rfl (hb hby at_135) _ ?_
    show Steps p.tables e below (T34.setTop (mkF m 136 #[.val (.int p0), .val (.ref fa1), .val (.ref fa22), .val (.int ((p0 &&& (2147483647 : Int32)) % (10 : Int32)))] [(.int (own_cen ((p0 &&& (2147483647 : Int32)) % (10 : Int32)))), (.int (own_isC (own_pick ((p0 &&& (2147483647 : Int32)) % (10 : Int32)) w_REFUGE w_FIRE w_HYDRANT w_CIVILIAN w_FIRE_BRIGADE w_POLICE_FORCE w_AMBULANCE_TEAM w_FIRE_STATION w_POLICE_OFFICE w_AMBULANCE_CENTRE) w_FIRE_STATION w_POLICE_OFFICE w_AMBULANCE_CENTRE))])) _
    refine XS.icmpNo X34.here hx rfl (hb hby at_136) rfl (teq (own_val WD _ (own_mod10 p0) : (own_isC (own_pick ((p0 &&& (2147483647 : Int32)) % (10 : Int32)) w_REFUGE w_FIRE w_HYDRANT w_CIVILIAN w_FIRE_BRIGADE w_POLICE_FORCE w_AMBULANCE_TEAM w_FIRE_STATION w_POLICE_OFFICE w_AMBULANCE_CENTRE) w_FIRE_STATION w_POLICE_OFFICE w_AMBULANCE_CENTRE) = (own_cen ((p0 &&& (2147483647 : Int32)) % (10 : Int32))))).2 ?_
    show Steps p.tables e below (T34.setTop (mkF m 139 #[.val (.int p0), .val (.ref fa1), .val (.ref fa22), .val (.int ((p0 &&& (2147483647 : Int32)) % (10 : Int32)))] [])) _
    refine XS.iconst X34.here hx rfl (hb hby at_139) ?_
    show Steps p.tables e below (T34.setTop (mkF m 140 #[.val (.int p0), .val (.ref fa1), .val (.ref fa22), .val (.int ((p0 &&& (2147483647 : Int32)) % (10 : Int32)))] [(.int (1 : Int32))])) _
    refine XS.goto X34.here hx rfl (pc0 := 140) (pc' := 144) rfl (hb hby at_140) (by decide) (by decide) ?_
    show Steps p.tables e below (T34.setTop (mkF m 144 #[.val (.int p0), .val (.ref fa1), .val (.ref fa22), .val (.int ((p0 &&& (2147483647 : Int32)) % (10 : Int32)))] [(.int (1 : Int32))])) _
    exact retN X34 hx (t := .boolean) Bd.returns (by simp) (hb hby at_144) hr
  · show Q_rm0 Z p0 w_REFUGE w_FIRE w_HYDRANT w_CIVILIAN w_FIRE_BRIGADE w_POLICE_FORCE w_AMBULANCE_TEAM w_FIRE_STATION w_POLICE_OFFICE w_AMBULANCE_CENTRE h0 n0 _ T34.heap _
    rw [e34]
    exact ⟨rfl, N34, trivial⟩
set_option maxRecDepth 65536 in
set_option maxHeartbeats 40000000 in
theorem comes_1 {Post : Tables → Env → Array Value → State → Outcome → State → Prop} (hpost : ∀ tb e args s v u, (limb_1_1.after args s (.returned v) u = true ∧ limb_1_2.after args s (.returned v) u = true ∧ True) → FrameEnd s (.returned v) u (Jvm.fieldLocs frame_1_writes args s ++ Jvm.arrayLocs frame_1_arrays args s ++ Jvm.staticLocs frame_1_statics s) 16 128 → Post tb e args s (.returned v) u) :
    ArmFor flags0 classFile x code maxLocals ret World_1 tables_1 room_1 Calls_1 rest_1 Pre_1 Post := by
  intro l hfl _ _ p e ha hc hk s m args below hf hA hF happ hP
  obtain ⟨hcalls, hrest, hpre⟩ := hP
  obtain ⟨-, -, -, hnamed, -, -, -, hat⟩ := (Spec.applies_iff hf).mp happ
  obtain ⟨hg, hn⟩ := and_e (Cond.before_iff.mp (show (Jvm.Cond.and given_1 narrow_1).before args s = true from hpre))
  obtain ⟨hg1a, hg1b⟩ := and_e hg
  obtain ⟨w0, rfl⟩ : ∃ w0 : Value, args = #[w0] := by
    have hs : args.size = 1 := by simpa [Cond.value, given_1] using hg1a
    obtain ⟨L⟩ := args
    match L, hs with
    | [w0], _ => exact ⟨w0, rfl⟩
  have hw := fun d (hd : d ∈ tables_1) => atoms_spec (ws := Jvm.Cond.code x code maxLocals ret :: tables_1) hat d (List.mem_cons_of_mem _ hd)
  have hfit : Fit s := fun {y c} hc i hi => by
    obtain ⟨ha, rfl⟩ := Array.getElem?_eq_some_iff.mp hc
    have q := List.all_eq_true.mp ((Array.all_eq_true_iff_forall_mem.mp hF) _ (Array.getElem_mem ha)) i (List.mem_range.mpr hi)
    simpa [Array.getElem?_eq_getElem hi] using q
  obtain ⟨i0, ei0⟩ := is_v hg1b
  obtain rfl : w0 = (.int i0) := Option.some.inj ei0
  obtain ⟨hn1a, hn1b⟩ := and_e hn
  obtain ⟨hn2a, hn2b⟩ := and_e hn1b
  obtain ⟨hn3a, hn3b⟩ := and_e hn2b
  obtain ⟨hn4a, hn4b⟩ := and_e hn3b
  obtain ⟨hn5a, hn5b⟩ := and_e hn4b
  obtain ⟨hn6a, hn6b⟩ := and_e hn5b
  obtain ⟨hn7a, hn7b⟩ := and_e hn6b
  obtain ⟨hn8a, hn8b⟩ := and_e hn7b
  obtain ⟨hn9a, hn9b⟩ := and_e hn8b
  obtain ⟨hn10a, hn10b⟩ := and_e hn9b
  obtain ⟨hn11a, hn11b⟩ := and_e hn10b
  obtain ⟨hn12a, hn12b⟩ := and_e hn11b
  obtain ⟨hn13a, hn13b⟩ := and_e hn12b
  obtain ⟨hn14a, hn14b⟩ := and_e hn13b
  obtain ⟨hn15a, hn15b⟩ := and_e hn14b
  obtain ⟨hn16a, hn16b⟩ := and_e hn15b
  obtain ⟨hn17a, hn17b⟩ := and_e hn16b
  obtain ⟨hn18a, hn18b⟩ := and_e hn17b
  obtain ⟨hn19a, hn19b⟩ := and_e hn18b
  obtain ⟨w_REFUGE, evw_REFUGE⟩ := exa_v hn1a
  have E_REFUGE := Exa.start evw_REFUGE hn1a
  have S_REFUGE := Sta.start evw_REFUGE (Or.inr ⟨(hw _ (List.mem_of_getElem? (i := 3) rfl)), (hw _ (List.mem_of_getElem? (i := 4) rfl))⟩)
  obtain ⟨w_FIRE, evw_FIRE⟩ := exa_v hn2a
  have E_FIRE := Exa.start evw_FIRE hn2a
  have S_FIRE := Sta.start evw_FIRE (Or.inr ⟨(hw _ (List.mem_of_getElem? (i := 3) rfl)), (hw _ (List.mem_of_getElem? (i := 7) rfl))⟩)
  obtain ⟨w_HYDRANT, evw_HYDRANT⟩ := exa_v hn3a
  have E_HYDRANT := Exa.start evw_HYDRANT hn3a
  have S_HYDRANT := Sta.start evw_HYDRANT (Or.inr ⟨(hw _ (List.mem_of_getElem? (i := 3) rfl)), (hw _ (List.mem_of_getElem? (i := 9) rfl))⟩)
  obtain ⟨w_CIVILIAN, evw_CIVILIAN⟩ := exa_v hn4a
  have E_CIVILIAN := Exa.start evw_CIVILIAN hn4a
  have S_CIVILIAN := Sta.start evw_CIVILIAN (Or.inr ⟨(hw _ (List.mem_of_getElem? (i := 3) rfl)), (hw _ (List.mem_of_getElem? (i := 11) rfl))⟩)
  obtain ⟨w_FIRE_BRIGADE, evw_FIRE_BRIGADE⟩ := exa_v hn5a
  have E_FIRE_BRIGADE := Exa.start evw_FIRE_BRIGADE hn5a
  have S_FIRE_BRIGADE := Sta.start evw_FIRE_BRIGADE (Or.inr ⟨(hw _ (List.mem_of_getElem? (i := 3) rfl)), (hw _ (List.mem_of_getElem? (i := 13) rfl))⟩)
  obtain ⟨w_POLICE_FORCE, evw_POLICE_FORCE⟩ := exa_v hn6a
  have E_POLICE_FORCE := Exa.start evw_POLICE_FORCE hn6a
  have S_POLICE_FORCE := Sta.start evw_POLICE_FORCE (Or.inr ⟨(hw _ (List.mem_of_getElem? (i := 3) rfl)), (hw _ (List.mem_of_getElem? (i := 15) rfl))⟩)
  obtain ⟨w_AMBULANCE_TEAM, evw_AMBULANCE_TEAM⟩ := exa_v hn7a
  have E_AMBULANCE_TEAM := Exa.start evw_AMBULANCE_TEAM hn7a
  have S_AMBULANCE_TEAM := Sta.start evw_AMBULANCE_TEAM (Or.inr ⟨(hw _ (List.mem_of_getElem? (i := 3) rfl)), (hw _ (List.mem_of_getElem? (i := 17) rfl))⟩)
  obtain ⟨w_FIRE_STATION, evw_FIRE_STATION⟩ := exa_v hn8a
  have E_FIRE_STATION := Exa.start evw_FIRE_STATION hn8a
  have S_FIRE_STATION := Sta.start evw_FIRE_STATION (Or.inr ⟨(hw _ (List.mem_of_getElem? (i := 3) rfl)), (hw _ (List.mem_of_getElem? (i := 19) rfl))⟩)
  obtain ⟨w_POLICE_OFFICE, evw_POLICE_OFFICE⟩ := exa_v hn9a
  have E_POLICE_OFFICE := Exa.start evw_POLICE_OFFICE hn9a
  have S_POLICE_OFFICE := Sta.start evw_POLICE_OFFICE (Or.inr ⟨(hw _ (List.mem_of_getElem? (i := 3) rfl)), (hw _ (List.mem_of_getElem? (i := 21) rfl))⟩)
  obtain ⟨w_AMBULANCE_CENTRE, evw_AMBULANCE_CENTRE⟩ := exa_v hn10a
  have E_AMBULANCE_CENTRE := Exa.start evw_AMBULANCE_CENTRE hn10a
  have S_AMBULANCE_CENTRE := Sta.start evw_AMBULANCE_CENTRE (Or.inr ⟨(hw _ (List.mem_of_getElem? (i := 3) rfl)), (hw _ (List.mem_of_getElem? (i := 23) rfl))⟩)
  have F_REFUGE_ordinal := own_fldI evw_REFUGE hn11a
  have F_FIRE_STATION_ordinal := own_fldI evw_FIRE_STATION hn12a
  have F_POLICE_OFFICE_ordinal := own_fldI evw_POLICE_OFFICE hn13a
  have F_AMBULANCE_CENTRE_ordinal := own_fldI evw_AMBULANCE_CENTRE hn14a
  have F_CIVILIAN_ordinal := own_fldI evw_CIVILIAN hn15a
  have F_FIRE_ordinal := own_fldI evw_FIRE hn16a
  have F_FIRE_BRIGADE_ordinal := own_fldI evw_FIRE_BRIGADE hn17a
  have F_HYDRANT_ordinal := own_fldI evw_HYDRANT hn18a
  have F_POLICE_FORCE_ordinal := own_fldI evw_POLICE_FORCE hn19a
  have F_AMBULANCE_TEAM_ordinal := own_fldI evw_AMBULANCE_TEAM hn19b
  have WD : World s s.heap w_REFUGE w_FIRE w_HYDRANT w_CIVILIAN w_FIRE_BRIGADE w_POLICE_FORCE w_AMBULANCE_TEAM w_FIRE_STATION w_POLICE_OFFICE w_AMBULANCE_CENTRE := ⟨S_REFUGE, E_REFUGE, S_FIRE, E_FIRE, S_HYDRANT, E_HYDRANT, S_CIVILIAN, E_CIVILIAN, S_FIRE_BRIGADE, E_FIRE_BRIGADE, S_POLICE_FORCE, E_POLICE_FORCE, S_AMBULANCE_TEAM, E_AMBULANCE_TEAM, S_FIRE_STATION, E_FIRE_STATION, S_POLICE_OFFICE, E_POLICE_OFFICE, S_AMBULANCE_CENTRE, E_AMBULANCE_CENTRE, F_REFUGE_ordinal, F_FIRE_STATION_ordinal, F_POLICE_OFFICE_ordinal, F_AMBULANCE_CENTRE_ordinal, F_CIVILIAN_ordinal, F_FIRE_ordinal, F_FIRE_BRIGADE_ordinal, F_HYDRANT_ordinal, F_POLICE_FORCE_ordinal, F_AMBULANCE_TEAM_ordinal⟩
  obtain ⟨n, o, h1, h2, h3, _, L, rfl, ⟨rfl, N, -⟩, hq⟩ := rm0 l s _ hw tables_1 i0 w_REFUGE w_FIRE w_HYDRANT w_CIVILIAN w_FIRE_BRIGADE w_POLICE_FORCE w_AMBULANCE_TEAM w_FIRE_STATION w_POLICE_OFFICE w_AMBULANCE_CENTRE s.heap s.heap.size (Nat.le_refl _) WD p e ha hc hk s m _ below hf ((Spec.applies_iff_loose hf).mp happ).1 ⟨rfl, State.Warmed39.refl s, rfl⟩ trivial
  refine ⟨n, _, h1, h2, h3, hpost _ _ _ _ _ _ ⟨Cond.after_iff.mpr rfl, Cond.after_iff.mpr (eq_i res_at (Term.int_eval (1)) rfl), trivial⟩ ⟨hq.1, hq.2.1, (hq.2.2.sift fun y hy => Or.inr (N y hy)).mono (by decide) (by decide)⟩⟩
theorem main_1_1 : Claimed_1_1 := comes_1 fun _ _ _ _ _ _ h hF => ⟨h.1, hF⟩
theorem main_1_2 : Claimed_1_2 := comes_1 fun _ _ _ _ _ _ h hF => ⟨h.2.1, hF⟩
end Jvm.Pilot.@@N@@
namespace Jvm.Pilot.@@N@@
open Jvm Jvm.ClassFile Sem Op Lib Jvm.Free Jvm.Stand Jvm.Pilot.@@N@@.Jvm.D
/-! MADE BY PROGRAM (witnessworld.py) out of the Statement's table words and the real class files: 15 classes; the members and pool entries that the words name. The judged class is class 1, her method 1. -/
namespace start1
open Jvm.ClassFile
def u (s : String) : CpInfo := .utf8 (stringToUtf16 s)
/-- a pool by its gaps: so many unusable entries, then the entry; so many at the end -/
def gap : Nat → List CpInfo → List CpInfo
  | 0, r => r
  | n + 1, r => .unusable :: gap n r
def poolList (es : List (Nat × CpInfo)) (last : Nat) : List CpInfo := es.foldr (fun e r => gap e.1 (e.2 :: r)) (gap last [])
def pool (es : List (Nat × CpInfo)) (last : Nat) : Array CpInfo := ⟨poolList es last⟩
def fileOf (pool : Array CpInfo) (this : Nat) (attrs : Array Attribute := #[]) (ms : Array MethodInfo := #[]) (fl : Nat := 33) (sup : Nat := 0) (ifs : Array Nat := #[]) (fds : Array FieldInfo := #[]) : ClassFile where
  minorVersion := 0
  majorVersion := 65
  constantPool := pool
  accessFlags := fl
  thisClass := this
  superClass := sup
  interfaces := ifs
  fields := fds
  methods := ms
  attributes := attrs
def plain (name : String) (sup : Option ClassId) : Class where
  name := name
  kind := .ordinary
  loader := none
  accessFlags := 33
  super := sup
  interfaces := #[]
  cf := none
  fields := #[]
  methods := #[]
  instanceTypes := #[]
  staticTypes := #[]
  resolved := #[]
  callSites := []
  init := .initialized
  statics := none
  mirror := none

def pool0 : Array CpInfo := pool [(5, u "<init>"), (0, u "()V"), (1, .class_ 10), (1, u "java/lang/Object")] 113

def k0m0 : Method := { name := "<init>", desc := "()V", sig := { parameters := [], returnType := none }, accessFlags := 1, code := none }
/-- java/lang/Object -/
def k0 : Class := { plain "java/lang/Object" none with
  accessFlags := 33
  interfaces := #[]
  cf := some (fileOf pool0 8 #[] #[{ accessFlags := 1, nameIndex := 5, descriptorIndex := 6, attributes := #[] }] 33 0 #[] #[])
  fields := #[]
  methods := #[k0m0]
  instanceTypes := #[]
  staticTypes := #[]
  resolved := Array.replicate 124 none
  statics := none }

def pool1 : Array CpInfo := pool [(2, .class_ 4), (1, u "java/lang/Object"), (0, u "<init>"), (0, u "()V"), (0, .class_ 8), (0, u "com/example/musterpoint/musterpoint/world/Scenario$Kind"), (0, .fieldref 7 10), (0, .nameAndType 11 12), (0, u "REFUGE"), (0, u "Lcom/example/musterpoint/musterpoint/world/Scenario$Kind;"), (0, .fieldref 7 14), (0, .nameAndType 15 12), (0, u "FIRE"), (0, .fieldref 7 17), (0, .nameAndType 18 12), (0, u "HYDRANT"), (0, .fieldref 7 20), (0, .nameAndType 21 12), (0, u "CIVILIAN"), (0, .fieldref 7 23), (0, .nameAndType 24 12), (0, u "FIRE_BRIGADE"), (0, .fieldref 7 26), (0, .nameAndType 27 12), (0, u "POLICE_FORCE"), (0, .fieldref 7 29), (0, .nameAndType 30 12), (0, u "AMBULANCE_TEAM"), (0, .fieldref 7 32), (0, .nameAndType 33 12), (0, u "FIRE_STATION"), (0, .fieldref 7 35), (0, .nameAndType 36 12), (0, u "POLICE_OFFICE"), (0, .fieldref 7 38), (0, .nameAndType 39 12), (0, u "AMBULANCE_CENTRE"), (0, .integer 2147483647), (0, .methodref 7 42), (0, .nameAndType 43 44), (0, u "isCentre"), (0, u "()Z"), (0, .class_ 46), (0, u "com/example/musterpoint/musterpoint/world/KindIsCentrePinLaw"), (2, u "law"), (0, u "(I)Z")] 11

def k1m0 : Method := { name := "<init>", desc := "()V", sig := { parameters := [], returnType := none }, accessFlags := 2, code := none }
def k1c1 : Code := { maxStack := 4, maxLocals := 4, code := code, exceptionTable := #[], attributes := #[] }
def k1m1 : Method := { name := "law", desc := "(I)Z", sig := { parameters := [.int], returnType := some .boolean }, accessFlags := 9, code := some k1c1 }
/-- com/example/musterpoint/musterpoint/world/KindIsCentrePinLaw -/
def k1 : Class := { plain "com/example/musterpoint/musterpoint/world/KindIsCentrePinLaw" (some 0) with
  accessFlags := 49
  interfaces := #[]
  cf := some (fileOf pool1 45 #[] #[{ accessFlags := 2, nameIndex := 5, descriptorIndex := 6, attributes := #[] }, { accessFlags := 9, nameIndex := 49, descriptorIndex := 50, attributes := #[] }] 49 2 #[] #[])
  fields := #[]
  methods := #[k1m0, k1m1]
  instanceTypes := #[]
  staticTypes := #[]
  resolved := Array.replicate 62 none
  statics := none }

def pool2 : Array CpInfo := pool [(1, .class_ 2), (0, u "java/lang/constant/Constable"), (0, .class_ 4), (0, u "java/lang/Object")] 6

/-- java/lang/constant/Constable -/
def k2 : Class := { plain "java/lang/constant/Constable" (some 0) with
  accessFlags := 1537
  interfaces := #[]
  cf := some (fileOf pool2 1 #[] #[] 1537 3 #[] #[])
  fields := #[]
  methods := #[]
  instanceTypes := #[]
  staticTypes := #[]
  resolved := Array.replicate 11 none
  statics := none }

def pool3 : Array CpInfo := pool [(1, .class_ 2), (0, u "java/lang/Comparable"), (0, .class_ 4), (0, u "java/lang/Object")] 7

/-- java/lang/Comparable -/
def k3 : Class := { plain "java/lang/Comparable" (some 0) with
  accessFlags := 1537
  interfaces := #[]
  cf := some (fileOf pool3 1 #[] #[] 1537 3 #[] #[])
  fields := #[]
  methods := #[]
  instanceTypes := #[]
  staticTypes := #[]
  resolved := Array.replicate 12 none
  statics := none }

def pool4 : Array CpInfo := pool [(1, .class_ 2), (0, u "java/io/Serializable"), (0, .class_ 4), (0, u "java/lang/Object")] 2

/-- java/io/Serializable -/
def k4 : Class := { plain "java/io/Serializable" (some 0) with
  accessFlags := 1537
  interfaces := #[]
  cf := some (fileOf pool4 1 #[] #[] 1537 3 #[] #[])
  fields := #[]
  methods := #[]
  instanceTypes := #[]
  staticTypes := #[]
  resolved := Array.replicate 7 none
  statics := none }

def pool5 : Array CpInfo := pool [(2, .class_ 4), (1, u "java/lang/Enum"), (0, u "name"), (0, u "Ljava/lang/String;"), (2, u "ordinal"), (0, u "I"), (1, .class_ 14), (1, u "java/lang/Object"), (4, u "hash"), (86, .class_ 108), (1, u "java/lang/Enum$EnumDesc"), (2, .class_ 112), (0, u "java/lang/constant/Constable"), (0, .class_ 114), (0, u "java/lang/Comparable"), (0, .class_ 116), (0, u "java/io/Serializable")] 87

/-- java/lang/Enum -/
def k5 : Class := { plain "java/lang/Enum" (some 0) with
  accessFlags := 1057
  interfaces := #[2, 3, 4]
  cf := some (fileOf pool5 2 #[.nestMembers #[106]] #[] 1057 12 #[111, 113, 115] #[{ accessFlags := 18, nameIndex := 5, descriptorIndex := 6, attributes := #[] }, { accessFlags := 18, nameIndex := 9, descriptorIndex := 10, attributes := #[] }, { accessFlags := 2, nameIndex := 19, descriptorIndex := 10, attributes := #[] }])
  fields := #[{ name := "name", type := (.object "java/lang/String"), accessFlags := 18, slot := 0, constantValue := 0 }, { name := "ordinal", type := .int, accessFlags := 18, slot := 1, constantValue := 0 }, { name := "hash", type := .int, accessFlags := 2, slot := 2, constantValue := 0 }]
  methods := #[]
  instanceTypes := #[(.object "java/lang/String"), .int, .int]
  staticTypes := #[]
  resolved := Array.replicate 204 none
  statics := none }

def pool6 : Array CpInfo := pool [(1, .class_ 2), (0, u "com/example/musterpoint/musterpoint/world/Scenario$Kind"), (2, u "REFUGE"), (0, u "Lcom/example/musterpoint/musterpoint/world/Scenario$Kind;"), (2, u "FIRE"), (2, u "HYDRANT"), (2, u "CIVILIAN"), (2, u "FIRE_BRIGADE"), (2, u "POLICE_FORCE"), (2, u "AMBULANCE_TEAM"), (0, .fieldref 1 26), (0, .nameAndType 27 6), (0, u "FIRE_STATION"), (0, .fieldref 1 29), (0, .nameAndType 30 6), (0, u "POLICE_OFFICE"), (0, .fieldref 1 32), (0, .nameAndType 33 6), (0, u "AMBULANCE_CENTRE"), (2, u "$VALUES"), (0, u "[Lcom/example/musterpoint/musterpoint/world/Scenario$Kind;"), (6, .class_ 46), (1, u "java/lang/Enum"), (8, u "elementName"), (0, u "Ljava/lang/String;"), (19, u "()Z"), (2, u "isCentre"), (53, .class_ 134), (0, u "com/example/musterpoint/musterpoint/world/Scenario")] 2

def k6c0 : Code := { maxStack := 2, maxLocals := 1, code := prog_90_method_8_code, exceptionTable := #[], attributes := #[] }
def k6m0 : Method := { name := "isCentre", desc := "()Z", sig := { parameters := [], returnType := some .boolean }, accessFlags := 1, code := some k6c0 }
/-- com/example/musterpoint/musterpoint/world/Scenario$Kind -/
def k6 : Class := { plain "com/example/musterpoint/musterpoint/world/Scenario$Kind" (some 5) with
  accessFlags := 16433
  interfaces := #[]
  cf := some (fileOf pool6 1 #[.nestHost 133] #[{ accessFlags := 1, nameIndex := 79, descriptorIndex := 76, attributes := #[] }] 16433 44 #[] #[{ accessFlags := 16409, nameIndex := 5, descriptorIndex := 6, attributes := #[] }, { accessFlags := 16409, nameIndex := 9, descriptorIndex := 6, attributes := #[] }, { accessFlags := 16409, nameIndex := 12, descriptorIndex := 6, attributes := #[] }, { accessFlags := 16409, nameIndex := 15, descriptorIndex := 6, attributes := #[] }, { accessFlags := 16409, nameIndex := 18, descriptorIndex := 6, attributes := #[] }, { accessFlags := 16409, nameIndex := 21, descriptorIndex := 6, attributes := #[] }, { accessFlags := 16409, nameIndex := 24, descriptorIndex := 6, attributes := #[] }, { accessFlags := 16409, nameIndex := 27, descriptorIndex := 6, attributes := #[] }, { accessFlags := 16409, nameIndex := 30, descriptorIndex := 6, attributes := #[] }, { accessFlags := 16409, nameIndex := 33, descriptorIndex := 6, attributes := #[] }, { accessFlags := 18, nameIndex := 55, descriptorIndex := 56, attributes := #[] }, { accessFlags := 4122, nameIndex := 36, descriptorIndex := 37, attributes := #[] }])
  fields := #[{ name := "REFUGE", type := (.object "com/example/musterpoint/musterpoint/world/Scenario$Kind"), accessFlags := 16409, slot := 0, constantValue := 0 }, { name := "FIRE", type := (.object "com/example/musterpoint/musterpoint/world/Scenario$Kind"), accessFlags := 16409, slot := 1, constantValue := 0 }, { name := "HYDRANT", type := (.object "com/example/musterpoint/musterpoint/world/Scenario$Kind"), accessFlags := 16409, slot := 2, constantValue := 0 }, { name := "CIVILIAN", type := (.object "com/example/musterpoint/musterpoint/world/Scenario$Kind"), accessFlags := 16409, slot := 3, constantValue := 0 }, { name := "FIRE_BRIGADE", type := (.object "com/example/musterpoint/musterpoint/world/Scenario$Kind"), accessFlags := 16409, slot := 4, constantValue := 0 }, { name := "POLICE_FORCE", type := (.object "com/example/musterpoint/musterpoint/world/Scenario$Kind"), accessFlags := 16409, slot := 5, constantValue := 0 }, { name := "AMBULANCE_TEAM", type := (.object "com/example/musterpoint/musterpoint/world/Scenario$Kind"), accessFlags := 16409, slot := 6, constantValue := 0 }, { name := "FIRE_STATION", type := (.object "com/example/musterpoint/musterpoint/world/Scenario$Kind"), accessFlags := 16409, slot := 7, constantValue := 0 }, { name := "POLICE_OFFICE", type := (.object "com/example/musterpoint/musterpoint/world/Scenario$Kind"), accessFlags := 16409, slot := 8, constantValue := 0 }, { name := "AMBULANCE_CENTRE", type := (.object "com/example/musterpoint/musterpoint/world/Scenario$Kind"), accessFlags := 16409, slot := 9, constantValue := 0 }, { name := "elementName", type := (.object "java/lang/String"), accessFlags := 18, slot := 3, constantValue := 0 }, { name := "$VALUES", type := (.array (.object "com/example/musterpoint/musterpoint/world/Scenario$Kind")), accessFlags := 4122, slot := 10, constantValue := 0 }]
  methods := #[k6m0]
  instanceTypes := #[(.object "java/lang/String"), .int, .int, (.object "java/lang/String")]
  staticTypes := #[(.object "com/example/musterpoint/musterpoint/world/Scenario$Kind"), (.object "com/example/musterpoint/musterpoint/world/Scenario$Kind"), (.object "com/example/musterpoint/musterpoint/world/Scenario$Kind"), (.object "com/example/musterpoint/musterpoint/world/Scenario$Kind"), (.object "com/example/musterpoint/musterpoint/world/Scenario$Kind"), (.object "com/example/musterpoint/musterpoint/world/Scenario$Kind"), (.object "com/example/musterpoint/musterpoint/world/Scenario$Kind"), (.object "com/example/musterpoint/musterpoint/world/Scenario$Kind"), (.object "com/example/musterpoint/musterpoint/world/Scenario$Kind"), (.object "com/example/musterpoint/musterpoint/world/Scenario$Kind"), (.array (.object "com/example/musterpoint/musterpoint/world/Scenario$Kind"))]
  resolved := Array.replicate 137 none
  statics := some 0 }

def pool7 : Array CpInfo := pool [(1, u "java/lang/Cloneable"), (0, .class_ 1), (0, u "java/lang/Object"), (0, .class_ 3)] 3

/-- java/lang/Cloneable -/
def k7 : Class := { plain "java/lang/Cloneable" (some 0) with
  accessFlags := 1537
  interfaces := #[]
  cf := some (fileOf pool7 2 #[] #[] 1537 4 #[] #[])
  fields := #[]
  methods := #[]
  instanceTypes := #[]
  staticTypes := #[]
  resolved := Array.replicate 8 none
  statics := none }

/-- the primitive boolean -/
def k8 : Class := { plain "boolean" none with kind := .primitive 'Z', accessFlags := 0x411 }
/-- [Z -/
def k9 : Class := { plain "[Z" (some 0) with kind := .array 8 .boolean, interfaces := #[7, 4], accessFlags := 1041 }

/-- the primitive byte -/
def k10 : Class := { plain "byte" none with kind := .primitive 'B', accessFlags := 0x411 }
/-- [B -/
def k11 : Class := { plain "[B" (some 0) with kind := .array 10 .byte, interfaces := #[7, 4], accessFlags := 1041 }

/-- the primitive int -/
def k12 : Class := { plain "int" none with kind := .primitive 'I', accessFlags := 0x411 }
/-- [I -/
def k13 : Class := { plain "[I" (some 0) with kind := .array 12 .int, interfaces := #[7, 4], accessFlags := 1041 }

/-- [Lcom/example/musterpoint/musterpoint/world/Scenario$Kind; -/
def k14 : Class := { plain "[Lcom/example/musterpoint/musterpoint/world/Scenario$Kind;" (some 0) with kind := .array 6 (.object "com/example/musterpoint/musterpoint/world/Scenario$Kind"), interfaces := #[7, 4], accessFlags := 1041 }

def heap : Heap := #[{ cls := 6, slots := #[.ref 1, .ref 2, .ref 3, .ref 4, .ref 5, .ref 6, .ref 7, .ref 8, .ref 9, .ref 10, .null], vm := .statics 6 },
  { cls := 6, slots := #[.null, .int 0, .int 0, .null], vm := .none },
  { cls := 6, slots := #[.null, .int 1, .int 0, .null], vm := .none },
  { cls := 6, slots := #[.null, .int 2, .int 0, .null], vm := .none },
  { cls := 6, slots := #[.null, .int 3, .int 0, .null], vm := .none },
  { cls := 6, slots := #[.null, .int 4, .int 0, .null], vm := .none },
  { cls := 6, slots := #[.null, .int 5, .int 0, .null], vm := .none },
  { cls := 6, slots := #[.null, .int 6, .int 0, .null], vm := .none },
  { cls := 6, slots := #[.null, .int 7, .int 0, .null], vm := .none },
  { cls := 6, slots := #[.null, .int 8, .int 0, .null], vm := .none },
  { cls := 6, slots := #[.null, .int 9, .int 0, .null], vm := .none }]
def classes : Array Class := #[k0, k1, k2, k3, k4, k5, k6, k7, k8, k9, k10, k11, k12, k13, k14]
def interned : List (Array UInt16 × Addr) := []
def slotsUsed : Nat := 51
def theMethod : MethodId := ⟨1, 1⟩
def args0 : Array Value := #[.int 5]
def aboutOver (below : List Frame) : State where
  vm := { classes := classes, interned := interned.toArray }
  heap := heap
  slotsUsed := slotsUsed
  threads := #[{ frames := .invoking theMethod args0 :: below }]
def below0 : List Frame := [.native { method := ⟨0, 0⟩, args := #[] }]
def about1 : State := aboutOver below0
def p0 : Program := .bare "" "" ""
def e0 : Env := launch0.env 0 0 0
theorem w_frames : about1.frames = Frame.invoking theMethod args0 :: below0 := rfl
set_option maxRecDepth 65536 in
theorem w_args : argsFit about1.vm theMethod args0 = true := by decide +kernel
set_option maxRecDepth 65536 in
theorem w_heap : heapFits about1 = true := by decide +kernel
set_option maxRecDepth 65536 in
theorem w_runnable : about1.curStatus? = some .runnable := by decide +kernel
set_option maxRecDepth 65536 in
theorem w_alone : about1.alone = true := by decide +kernel
set_option maxRecDepth 65536 in
theorem w_named : about1.methodNamed? x = some theMethod := by decide +kernel
set_option maxRecDepth 65536 in
theorem w_hears : about1.hears theMethod below0 = true := by decide +kernel
set_option maxRecDepth 65536 in
theorem w_ripe : about1.ripe theMethod args0 below0 = true := by decide +kernel
theorem w_running : about1.status = .running := rfl
set_option maxRecDepth 65536 in
theorem w_room : about1.hasRoom e0.platform room_1 = true :=
  launch0.hasRoom_least _ room_1 (by decide +kernel) (by decide +kernel) (by decide +kernel) (by decide +kernel) (by decide +kernel) (by decide +kernel)
theorem allAtoms_all (ts : List Jvm.Cond) (a : Array Jvm.Value) (st : Jvm.State) : (allAtoms ts).before a st = ts.all (fun c => c.before a st) := by
  induction ts with
  | nil => rfl
  | cons c t ih =>
    show (Jvm.Cond.and c (allAtoms t)).before a st = _
    rw [Jvm.Cond.before_and, ih, List.all_cons]
def words1 : List Jvm.Cond := Jvm.Cond.code x code maxLocals ret :: tables_1
/-- a 'code' word, met by the world's own term for the bytes: nothing is compared byte by byte -/
theorem code_word {y : MethodName} {bytes : ByteArray} {mx : Nat} {rt : Option FieldType} {a : Array Value} {s : State} {m : MethodId} {meth : Method} {c : Code} (h1 : s.methodNamed? y = some m) (h2 : s.vm.method? m = some meth) (h3 : meth.code = some c) (h4 : c.code = bytes)
    (h5 : (c.maxLocals == mx && c.exceptionTable.isEmpty && decide (c.maxStack ≤ mostOperands) && decide (meth.sig.returnType = rt) && !meth.locks && decide (parseMethodDescriptor y.desc = some meth.sig)) = true) : (Jvm.Cond.code y bytes mx rt).before a s = true := by
  simp only [Bool.and_eq_true, beq_iff_eq, Bool.not_eq_true', decide_eq_true_eq] at h5
  obtain ⟨⟨⟨⟨⟨g1, g2⟩, g3⟩, g4⟩, g5⟩, g6⟩ := h5
  simp [Cond.before, Cond.holds, Cond.value, h1, h2, h3, h4, g1, g2, g3, g4, g5, g6]
def isCode : Jvm.Cond → Bool
  | .code _ _ _ _ => true
  | _ => false
theorem all_split {L : List Jvm.Cond} {P : Jvm.Cond → Bool} (h1 : L.all (fun c => isCode c || P c) = true) (h2 : ∀ c ∈ L.filter isCode, P c = true) : L.all P = true := by
  refine List.all_eq_true.mpr fun c hc => ?_
  have h := List.all_eq_true.mp h1 c hc
  rcases Bool.eq_false_or_eq_true (isCode c) with hi | hi
  · exact h2 c (List.mem_filter.mpr ⟨hc, hi⟩)
  · simpa [hi] using h
set_option maxRecDepth 65536 in
theorem w_c0 : (Jvm.Cond.code x code maxLocals ret).before args0 about1 = true := code_word (m := ⟨1, 1⟩) (meth := k1m1) (c := k1c1) (by decide +kernel) rfl rfl rfl (by decide +kernel)
set_option maxRecDepth 65536 in
theorem w_c1 : (Jvm.Cond.code ({ cls := "com/example/musterpoint/musterpoint/world/Scenario$Kind", name := "isCentre", desc := "()Z" } : Jvm.MethodName) prog_90_method_8_code (1 : Nat) (Option.some Jvm.ClassFile.FieldType.boolean)).before args0 about1 = true := code_word (m := ⟨6, 0⟩) (meth := k6m0) (c := k6c0) (by decide +kernel) rfl rfl rfl (by decide +kernel)
def codes1 : List Jvm.Cond := [Jvm.Cond.code x code maxLocals ret, Jvm.Cond.code ({ cls := "com/example/musterpoint/musterpoint/world/Scenario$Kind", name := "isCentre", desc := "()Z" } : Jvm.MethodName) prog_90_method_8_code (1 : Nat) (Option.some Jvm.ClassFile.FieldType.boolean)]
set_option maxRecDepth 65536 in
theorem codes_eq : words1.filter isCode = codes1 := rfl
theorem w_codes : ∀ c ∈ words1.filter isCode, c.before args0 about1 = true := by
  rw [codes_eq]
  intro c hc
  simp only [codes1, List.mem_cons, List.not_mem_nil, or_false] at hc
  rcases hc with rfl | rfl
  · exact w_c0
  · exact w_c1
set_option maxRecDepth 65536 in
theorem w_t1 : (words1.take 24).all (fun c => isCode c || c.before args0 about1) = true := by decide +kernel
set_option maxRecDepth 65536 in
theorem w_t2 : (words1.drop 24).all (fun c => isCode c || c.before args0 about1) = true := by decide +kernel
theorem w_tables : (allAtoms (Jvm.Cond.code x code maxLocals ret :: tables_1)).before args0 about1 = true := by
  rw [allAtoms_all]
  show words1.all (fun c => c.before args0 about1) = true
  refine all_split ?_ w_codes
  rw [← List.take_append_drop 24 words1, List.all_append, w_t1, w_t2]
  rfl
set_option maxRecDepth 65536 in
theorem w_case : (Jvm.Cond.and given_1 narrow_1).before args0 about1 = true := by decide +kernel
theorem w_applies : (headSpec (Jvm.Cond.code x code maxLocals ret :: tables_1) room_1).applies x e0.platform about1 = true :=
  (Spec.applies_iff w_frames).mpr ⟨w_running, w_runnable, w_alone, w_named, w_hears, w_ripe, w_room, w_tables⟩
theorem atStart : AtStart classFile x code maxLocals ret World_1 tables_1 room_1 Calls_1 rest_1 Pre_1 launch0 p0 e0 about1 theMethod args0 below0 :=
  ⟨lists_1, trivial, launch0.admits_env _ _ _, launch0.least_env, fairChoices_fair.cas, fairChoices_fair.clock, w_frames, w_args, w_heap, w_applies, trivial, trivial, w_case⟩
end start1
theorem witness_1 : WitnessClaimed_1 := ⟨start1.p0, start1.e0, start1.about1, start1.theMethod, start1.args0, start1.below0, start1.atStart⟩
end Jvm.Pilot.@@N@@
