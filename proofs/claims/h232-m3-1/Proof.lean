import JvmDerived
import JvmDerived.Pilot.@@N@@Statement
import JvmDerived.Pilot.@@N@@Code
set_option linter.unusedVariables false
set_option linter.unusedSimpArgs false
@@BLOCK:LamKit.lean.txt@@
namespace Jvm.RoadKit
open Sem ClassFile Op Lib Jvm.Stand Jvm.Free Jvm.LawKit
section New
variable {p : Program} {l : Launch} {e : Env} {R : Room} {s : State} {m : MethodId} {args : Array Value} {below : List Frame} {meth : Method} {c : Code} {T : State} {locs : List Loc} {cells slots : Nat}
theorem retI (X : Stand p l e R s m args below meth c T locs cells slots) (hx : p.tables.exec = Jvm.exec) {pc : Nat} {Ls : Array Slot} {z : Int32} {rest : List Value} (hret : meth.sig.returnType = some .int) (hd : decode c.code pc = .ok (.ireturn, 1)) {fs : List Frame}
    (hl : ∀ (f : JFrame) (acts : List Action), f.method = m → f.locked = none → f.entered = [] → (doReturn e (T.setTop f) acts (some (.int z))).1 = T.setFrames fs) : Steps p.tables e below (T.setTop (mkF m pc Ls (.int z :: rest))) (T.setFrames fs) := by
  have hm' : T.vm.method? m = some meth := X.method'
  have hn : narrow .int (.int z) = .int z := rfl
  show Steps p.tables e below (T.setTop { method := m, pc := pc, locals := Ls, stack := _ :: rest, locked := none }) _
  jvm_step X.here [X.here.top, hx, hd, hm', hret, hn]
  first | (intro acts; rw [hl _ acts rfl rfl rfl]) | rw [hl _ _ rfl rfl rfl]
  exact Steps.refl _
end New
end Jvm.RoadKit
namespace Jvm.RoadKit
open Sem ClassFile Op Lib Jvm.Stand Jvm.Free Jvm.LawKit Jvm.LamKit Jvm.Lambda
section OwnLam
variable {p : Program} {l : Launch} {e : Env} {R : Room} {s : State} {m : MethodId} {args : Array Value} {below : List Frame} {meth : Method} {c : Code} {T : State} {locs : List Loc} {cells slots : Nat} {Z : State} {a0 : Array Value} {h : Heap}
end OwnLam
end Jvm.RoadKit
namespace Jvm.RoadKit
open Sem ClassFile Op Lib Jvm.Stand Jvm.Free Jvm.LawKit Jvm.LamKit Jvm.Lambda
section OwnLam2
variable {p : Program} {l : Launch} {e : Env} {R : Room} {s : State} {m : MethodId} {args : Array Value} {below : List Frame} {meth : Method} {c : Code} {T : State} {locs : List Loc} {cells slots : Nat} {Z : State} {a0 : Array Value} {h h' : Heap}
/-- the function object L: of the made class, it holds q -/
def LamO (h : Heap) (L : Addr) (cK : ClassId) (q : Addr) : Prop := ∃ cell : Cell, h[L]? = some cell ∧ cell.cls = cK ∧ cell.vm = .none ∧ cell.slots[0]? = some (.ref q)
theorem LamO.lt {L q : Addr} {cK : ClassId} (F : LamO h L cK q) : L < h.size := by obtain ⟨c, h1, -⟩ := F; exact (Array.getElem?_eq_some_iff.mp h1).1
theorem LamO.ext {L q : Addr} {cK : ClassId} (F : LamO h L cK q) (E : Ext h h') : LamO h' L cK q := by obtain ⟨c, h1, r⟩ := F; exact ⟨c, E.2 _ _ h1, r⟩
theorem LamO.keep {L q : Addr} {cK : ClassId} {ws : List Addr} (F : LamO h L cK q) (K : Keep h h' ws) (n : L ∉ ws) : LamO h' L cK q := by obtain ⟨c, h1, r⟩ := F; exact ⟨c, K.2.1 _ _ h1 n, r⟩
theorem LamO.other {L q a : Addr} {cK : ClassId} {sl : Nat} {v : Value} (F : LamO h L cK q) (W : Wr h h' a sl v) (n : L ≠ a) : LamO h' L cK q := F.keep (Keep.of_wr W) (ninS n nin0)
/-- an array of which every place has a property -/
def Arp (Z : State) (h : Heap) (a : Addr) (k : ClassId) (ty : FieldType) (n : Int32) (P : Value → Prop) : Prop := ∃ c : Cell, Arr Z h a c ty ∧ c.cls = k ∧ c.slots.size = n.toNatClampNeg ∧ ¬ n < 0 ∧ (∀ (i : Nat) v, c.slots[i]? = some v → P v) ∧ True
variable {a b : Addr} {k : ClassId} {ty : FieldType} {n j : Int32} {P : Value → Prop}
theorem Arp.lt (F : Arp Z h a k ty n P) : a < h.size := by obtain ⟨c, A, -⟩ := F; exact A.lt
theorem Arp.ext (F : Arp Z h a k ty n P) (E : Ext h h') : Arp Z h' a k ty n P := by obtain ⟨c, A, r⟩ := F; exact ⟨c, A.ext E, r⟩
theorem Arp.other {sl : Nat} {v : Value} (F : Arp Z h b k ty n P) (W : Wr h h' a sl v) (q : b ≠ a) : Arp Z h' b k ty n P := by obtain ⟨c, A, r⟩ := F; exact ⟨c, A.other W q, r⟩
theorem Arp.keep {ws : List Addr} (F : Arp Z h a k ty n P) (K : Keep h h' ws) (q : a ∉ ws) : Arp Z h' a k ty n P := by obtain ⟨c, A, r⟩ := F; exact ⟨c, ⟨K.2.1 a c A.1 q, A.2⟩, r⟩
theorem Arp.of {vs : List Value} {d : Value} (F : Arv Z h a k ty n vs d) (hP : ∀ i, P (vs.getD i d)) : Arp Z h a k ty n P := by
  obtain ⟨c, A, q1, q2, q3, H, -⟩ := F
  refine ⟨c, A, q1, q2, q3, fun i v hv => ?_, trivial⟩
  have hi := (Array.getElem?_eq_some_iff.mp hv).1
  cases (H i hi).symm.trans hv
  exact hP i
theorem Arp.get {cl : Cell} (H : ∀ (i : Nat) v, cl.slots[i]? = some v → P v) (hin : ¬ (j < 0 ∨ cl.slots.size ≤ j.toNatClampNeg)) : ∃ v, cl.slots[j.toNatClampNeg]? = some v ∧ P v := by
  have hlt : j.toNatClampNeg < cl.slots.size := Nat.lt_of_not_le fun q => hin (Or.inr q)
  exact ⟨_, Array.getElem?_eq_getElem hlt, H _ _ (Array.getElem?_eq_getElem hlt)⟩
theorem Arp.set {cl : Cell} {v : Value} {i : Nat} (A : Arr Z h a cl ty) (q1 : cl.cls = k) (S : cl.slots.size = n.toNatClampNeg) (q3 : ¬ n < 0) (H : ∀ (i : Nat) v, cl.slots[i]? = some v → P v) (hv : P v) (W : Wr h h' a i v) : Arp Z h' a k ty n P := by
  refine ⟨_, A.same W, q1, by rw [sz_set]; exact S, q3, fun x w hx => ?_, trivial⟩
  by_cases u : i = x
  · subst u
    have hi : i < cl.slots.size := by
      have := (Array.getElem?_eq_some_iff.mp hx).1
      simpa [Cell.setSlot] using this
    rw [Cell.slots_setSlot_self v hi] at hx
    cases hx; exact hv
  · rw [Cell.slots_setSlot_ne v u] at hx
    exact H _ _ hx
/-- one place of an array -/
def Elt (h : Heap) (a : Addr) (i : Nat) (v : Value) : Prop := ∃ cl : Cell, h[a]? = some cl ∧ cl.slots[i]? = some v
theorem Elt.ext {i : Nat} {v : Value} (F : Elt h a i v) (E : Ext h h') : Elt h' a i v := by obtain ⟨c, h1, r⟩ := F; exact ⟨c, E.2 _ _ h1, r⟩
theorem Elt.keep {i : Nat} {v : Value} {ws : List Addr} (F : Elt h a i v) (K : Keep h h' ws) (q : a ∉ ws) : Elt h' a i v := by obtain ⟨c, h1, r⟩ := F; exact ⟨c, K.2.1 _ _ h1 q, r⟩
theorem Elt.other {i sl : Nat} {v w : Value} (F : Elt h a i v) (W : Wr h h' b sl w) (q : a ≠ b) : Elt h' a i v := F.keep (Keep.of_wr W) (ninS q nin0)
theorem Elt.at {i : Nat} {v : Value} {cl : Cell} (F : Elt h a i v) (hc : h[a]? = some cl) : cl.slots[i]? = some v := by obtain ⟨c, h1, r⟩ := F; cases hc.symm.trans h1; exact r
/-- an array as a function of its places -/
def ArfI (Z : State) (h : Heap) (a : Addr) (k : ClassId) (n : Int32) (F : Nat → Int32) : Prop := ∃ c : Cell, Arr Z h a c .int ∧ c.cls = k ∧ c.slots.size = n.toNatClampNeg ∧ ¬ n < 0 ∧ (∀ i : Nat, i < c.slots.size → c.slots[i]? = some (.int (F i))) ∧ True
theorem ArfI.lt {F : Nat → Int32} (A : ArfI Z h a k n F) : a < h.size := by obtain ⟨c, A, -⟩ := A; exact A.lt
theorem ArfI.ext {F : Nat → Int32} (A : ArfI Z h a k n F) (E : Ext h h') : ArfI Z h' a k n F := by obtain ⟨c, A, r⟩ := A; exact ⟨c, A.ext E, r⟩
theorem ArfI.other {F : Nat → Int32} {sl : Nat} {v : Value} (A : ArfI Z h b k n F) (W : Wr h h' a sl v) (q : b ≠ a) : ArfI Z h' b k n F := by obtain ⟨c, A, r⟩ := A; exact ⟨c, A.other W q, r⟩
theorem ArfI.keep {F : Nat → Int32} {ws : List Addr} (A : ArfI Z h a k n F) (K : Keep h h' ws) (q : a ∉ ws) : ArfI Z h' a k n F := by obtain ⟨c, A, r⟩ := A; exact ⟨c, ⟨K.2.1 a c A.1 q, A.2⟩, r⟩
theorem ArfI.of {x : Int32} (A : Arv Z h a k .int n [] (.int x)) : ArfI Z h a k n (fun _ => x) := by
  obtain ⟨c, A, q1, q2, q3, H, -⟩ := A
  exact ⟨c, A, q1, q2, q3, fun i hi => H i hi, trivial⟩
theorem ArfI.get {F : Nat → Int32} {cl : Cell} {y : Int32} (H : ∀ i : Nat, i < cl.slots.size → cl.slots[i]? = some (.int (F i))) (hin : ¬ (j < 0 ∨ cl.slots.size ≤ j.toNatClampNeg)) (hy : y = F j.toNatClampNeg) : cl.slots[j.toNatClampNeg]? = some (.int y) := by
  subst hy
  exact H _ (Nat.lt_of_not_le fun q => hin (Or.inr q))
theorem ArfI.set {F : Nat → Int32} {cl : Cell} {v : Int32} {i : Nat} (A : Arr Z h a cl .int) (q1 : cl.cls = k) (S : cl.slots.size = n.toNatClampNeg) (q3 : ¬ n < 0) (H : ∀ i : Nat, i < cl.slots.size → cl.slots[i]? = some (.int (F i))) (W : Wr h h' a i (.int v)) : ArfI Z h' a k n (fun j => if j = i then v else F j) := by
  refine ⟨_, A.same W, q1, by rw [sz_set]; exact S, q3, fun x hx => ?_, trivial⟩
  rw [sz_set] at hx
  by_cases u : i = x
  · subst u
    rw [Cell.slots_setSlot_self _ hx]
    show some (Value.int v) = some (Value.int (if i = i then v else F i))
    rw [if_pos rfl]
  · rw [Cell.slots_setSlot_ne _ u, H x hx]
    show some (Value.int (F x)) = some (Value.int (if x = i then v else F x))
    rw [if_neg (fun e => u e.symm)]
/-- an array as a function of its places -/
def ArfJ (Z : State) (h : Heap) (a : Addr) (k : ClassId) (n : Int32) (F : Nat → Int64) : Prop := ∃ c : Cell, Arr Z h a c .long ∧ c.cls = k ∧ c.slots.size = n.toNatClampNeg ∧ ¬ n < 0 ∧ (∀ i : Nat, i < c.slots.size → c.slots[i]? = some (.long (F i))) ∧ True
theorem ArfJ.lt {F : Nat → Int64} (A : ArfJ Z h a k n F) : a < h.size := by obtain ⟨c, A, -⟩ := A; exact A.lt
theorem ArfJ.ext {F : Nat → Int64} (A : ArfJ Z h a k n F) (E : Ext h h') : ArfJ Z h' a k n F := by obtain ⟨c, A, r⟩ := A; exact ⟨c, A.ext E, r⟩
theorem ArfJ.other {F : Nat → Int64} {sl : Nat} {v : Value} (A : ArfJ Z h b k n F) (W : Wr h h' a sl v) (q : b ≠ a) : ArfJ Z h' b k n F := by obtain ⟨c, A, r⟩ := A; exact ⟨c, A.other W q, r⟩
theorem ArfJ.keep {F : Nat → Int64} {ws : List Addr} (A : ArfJ Z h a k n F) (K : Keep h h' ws) (q : a ∉ ws) : ArfJ Z h' a k n F := by obtain ⟨c, A, r⟩ := A; exact ⟨c, ⟨K.2.1 a c A.1 q, A.2⟩, r⟩
theorem ArfJ.of {x : Int64} (A : Arv Z h a k .long n [] (.long x)) : ArfJ Z h a k n (fun _ => x) := by
  obtain ⟨c, A, q1, q2, q3, H, -⟩ := A
  exact ⟨c, A, q1, q2, q3, fun i hi => H i hi, trivial⟩
theorem ArfJ.get {F : Nat → Int64} {cl : Cell} {y : Int64} (H : ∀ i : Nat, i < cl.slots.size → cl.slots[i]? = some (.long (F i))) (hin : ¬ (j < 0 ∨ cl.slots.size ≤ j.toNatClampNeg)) (hy : y = F j.toNatClampNeg) : cl.slots[j.toNatClampNeg]? = some (.long y) := by
  subst hy
  exact H _ (Nat.lt_of_not_le fun q => hin (Or.inr q))
theorem ArfJ.set {F : Nat → Int64} {cl : Cell} {v : Int64} {i : Nat} (A : Arr Z h a cl .long) (q1 : cl.cls = k) (S : cl.slots.size = n.toNatClampNeg) (q3 : ¬ n < 0) (H : ∀ i : Nat, i < cl.slots.size → cl.slots[i]? = some (.long (F i))) (W : Wr h h' a i (.long v)) : ArfJ Z h' a k n (fun j => if j = i then v else F j) := by
  refine ⟨_, A.same W, q1, by rw [sz_set]; exact S, q3, fun x hx => ?_, trivial⟩
  rw [sz_set] at hx
  by_cases u : i = x
  · subst u
    rw [Cell.slots_setSlot_self _ hx]
    show some (Value.long v) = some (Value.long (if i = i then v else F i))
    rw [if_pos rfl]
  · rw [Cell.slots_setSlot_ne _ u, H x hx]
    show some (Value.long (F x)) = some (Value.long (if x = i then v else F x))
    rw [if_neg (fun e => u e.symm)]
/-- an array as a function of its places -/
def ArfC (Z : State) (h : Heap) (a : Addr) (k : ClassId) (n : Int32) (F : Nat → Int32) : Prop := ∃ c : Cell, Arr Z h a c .char ∧ c.cls = k ∧ c.slots.size = n.toNatClampNeg ∧ ¬ n < 0 ∧ (∀ i : Nat, i < c.slots.size → c.slots[i]? = some (.int (F i))) ∧ True
theorem ArfC.lt {F : Nat → Int32} (A : ArfC Z h a k n F) : a < h.size := by obtain ⟨c, A, -⟩ := A; exact A.lt
theorem ArfC.ext {F : Nat → Int32} (A : ArfC Z h a k n F) (E : Ext h h') : ArfC Z h' a k n F := by obtain ⟨c, A, r⟩ := A; exact ⟨c, A.ext E, r⟩
theorem ArfC.other {F : Nat → Int32} {sl : Nat} {v : Value} (A : ArfC Z h b k n F) (W : Wr h h' a sl v) (q : b ≠ a) : ArfC Z h' b k n F := by obtain ⟨c, A, r⟩ := A; exact ⟨c, A.other W q, r⟩
theorem ArfC.keep {F : Nat → Int32} {ws : List Addr} (A : ArfC Z h a k n F) (K : Keep h h' ws) (q : a ∉ ws) : ArfC Z h' a k n F := by obtain ⟨c, A, r⟩ := A; exact ⟨c, ⟨K.2.1 a c A.1 q, A.2⟩, r⟩
theorem ArfC.of {x : Int32} (A : Arv Z h a k .char n [] (.int x)) : ArfC Z h a k n (fun _ => x) := by
  obtain ⟨c, A, q1, q2, q3, H, -⟩ := A
  exact ⟨c, A, q1, q2, q3, fun i hi => H i hi, trivial⟩
theorem ArfC.get {F : Nat → Int32} {cl : Cell} {y : Int32} (H : ∀ i : Nat, i < cl.slots.size → cl.slots[i]? = some (.int (F i))) (hin : ¬ (j < 0 ∨ cl.slots.size ≤ j.toNatClampNeg)) (hy : y = F j.toNatClampNeg) : cl.slots[j.toNatClampNeg]? = some (.int y) := by
  subst hy
  exact H _ (Nat.lt_of_not_le fun q => hin (Or.inr q))
theorem ArfC.set {F : Nat → Int32} {cl : Cell} {v : Int32} {i : Nat} (A : Arr Z h a cl .char) (q1 : cl.cls = k) (S : cl.slots.size = n.toNatClampNeg) (q3 : ¬ n < 0) (H : ∀ i : Nat, i < cl.slots.size → cl.slots[i]? = some (.int (F i))) (W : Wr h h' a i (.int v)) : ArfC Z h' a k n (fun j => if j = i then v else F j) := by
  refine ⟨_, A.same W, q1, by rw [sz_set]; exact S, q3, fun x hx => ?_, trivial⟩
  rw [sz_set] at hx
  by_cases u : i = x
  · subst u
    rw [Cell.slots_setSlot_self _ hx]
    show some (Value.int v) = some (Value.int (if i = i then v else F i))
    rw [if_pos rfl]
  · rw [Cell.slots_setSlot_ne _ u, H x hx]
    show some (Value.int (F x)) = some (Value.int (if x = i then v else F x))
    rw [if_neg (fun e => u e.symm)]
/-- an array as a function of its places -/
def ArfB (Z : State) (h : Heap) (a : Addr) (k : ClassId) (n : Int32) (F : Nat → Int32) : Prop := ∃ c : Cell, Arr Z h a c .byte ∧ c.cls = k ∧ c.slots.size = n.toNatClampNeg ∧ ¬ n < 0 ∧ (∀ i : Nat, i < c.slots.size → c.slots[i]? = some (.int (F i))) ∧ True
theorem ArfB.lt {F : Nat → Int32} (A : ArfB Z h a k n F) : a < h.size := by obtain ⟨c, A, -⟩ := A; exact A.lt
theorem ArfB.ext {F : Nat → Int32} (A : ArfB Z h a k n F) (E : Ext h h') : ArfB Z h' a k n F := by obtain ⟨c, A, r⟩ := A; exact ⟨c, A.ext E, r⟩
theorem ArfB.other {F : Nat → Int32} {sl : Nat} {v : Value} (A : ArfB Z h b k n F) (W : Wr h h' a sl v) (q : b ≠ a) : ArfB Z h' b k n F := by obtain ⟨c, A, r⟩ := A; exact ⟨c, A.other W q, r⟩
theorem ArfB.keep {F : Nat → Int32} {ws : List Addr} (A : ArfB Z h a k n F) (K : Keep h h' ws) (q : a ∉ ws) : ArfB Z h' a k n F := by obtain ⟨c, A, r⟩ := A; exact ⟨c, ⟨K.2.1 a c A.1 q, A.2⟩, r⟩
theorem ArfB.of {x : Int32} (A : Arv Z h a k .byte n [] (.int x)) : ArfB Z h a k n (fun _ => x) := by
  obtain ⟨c, A, q1, q2, q3, H, -⟩ := A
  exact ⟨c, A, q1, q2, q3, fun i hi => H i hi, trivial⟩
theorem ArfB.get {F : Nat → Int32} {cl : Cell} {y : Int32} (H : ∀ i : Nat, i < cl.slots.size → cl.slots[i]? = some (.int (F i))) (hin : ¬ (j < 0 ∨ cl.slots.size ≤ j.toNatClampNeg)) (hy : y = F j.toNatClampNeg) : cl.slots[j.toNatClampNeg]? = some (.int y) := by
  subst hy
  exact H _ (Nat.lt_of_not_le fun q => hin (Or.inr q))
theorem ArfB.set {F : Nat → Int32} {cl : Cell} {v : Int32} {i : Nat} (A : Arr Z h a cl .byte) (q1 : cl.cls = k) (S : cl.slots.size = n.toNatClampNeg) (q3 : ¬ n < 0) (H : ∀ i : Nat, i < cl.slots.size → cl.slots[i]? = some (.int (F i))) (W : Wr h h' a i (.int v)) : ArfB Z h' a k n (fun j => if j = i then v else F j) := by
  refine ⟨_, A.same W, q1, by rw [sz_set]; exact S, q3, fun x hx => ?_, trivial⟩
  rw [sz_set] at hx
  by_cases u : i = x
  · subst u
    rw [Cell.slots_setSlot_self _ hx]
    show some (Value.int v) = some (Value.int (if i = i then v else F i))
    rw [if_pos rfl]
  · rw [Cell.slots_setSlot_ne _ u, H x hx]
    show some (Value.int (F x)) = some (Value.int (if x = i then v else F x))
    rw [if_neg (fun e => u e.symm)]
end OwnLam2
end Jvm.RoadKit
namespace Jvm.RoadKit
open Sem ClassFile Op Lib Jvm.Stand Jvm.Free Jvm.LawKit
section OwnCold
variable {p : Program} {l : Launch} {e : Env} {R : Room} {s : State} {m : MethodId} {args : Array Value} {below : List Frame} {meth : Method} {c : Code} {T : State} {locs : List Loc} {cells slots : Nat} {Z : State} {a0 : Array Value} {h : Heap}
theorem own_backSH {y : MethodName} {bytes : ByteArray} {maxL : Nat} {ret : Option FieldType} {rm : Room} {len W : Nat} {as' : Array Value} {Q : Option Value → Heap → List Loc → Prop}
    (hM : MetFree l y (head1 [Cond.code y bytes maxL ret] rm) (fun a U => a = as' ∧ Z.WarmedH U.vm ∧ U.heap = h) (fun _ _ _ _ _ => True) (fun _ U o U' => ∃ v L, o = .returned v ∧ Q v U'.heap L ∧ ReturnedEndW U o U' L rm.cells rm.slots))
    (hZ : Z.WarmedH s.vm) (wc : (Cond.code y bytes maxL ret).before a0 Z = true) (wz : (Cond.initialized y.cls).before a0 Z = true) (hf : rm.frames + 1 ≤ R.frames) (hl : W + (maxL + 11) + rm.locals ≤ R.locals) :
    BackS l R p e below s args y len W (fun A a => a = as' ∧ A.U.heap = h ∧ A.cells + rm.cells ≤ R.cells ∧ A.slots + rm.slots ≤ R.slots)
      (fun A _ v B => ∃ L, Q v B.U.heap L ∧ B.locs = A.locs ++ L ∧ B.cells = A.cells + rm.cells ∧ B.slots = A.slots + rm.slots) :=
  BackS.of_freeW (bytes := bytes) (maxL := maxL) (ret := ret) (E := fun _ _ o t L k n => k = rm.cells ∧ n = rm.slots ∧ ∃ v, o = .returned v ∧ Q v t.heap L) hM hf hl
    (fun m meth c A a Y hp => have hU : Z.Warmed39 A.U.vm := wtrans hZ.wide Y.warmed
      ⟨by show (Cond.and _ .tt).before a A.U = true; rw [Cond.before_and, mv hU wc]; rfl, mv hU wc, mv hU wz, hp.2.2.1, hp.2.2.2⟩)
    (fun m meth c A a g mk Y hp => ⟨hp.1, State.WarmedH.trans hZ Y.warmed, hp.2.1⟩) (fun _ _ _ _ _ _ _ _ _ => trivial)
    (fun _ _ _ _ ⟨v, L, h1, h2, h3⟩ => ⟨L, _, _, h3, rfl, rfl, v, h1, h2⟩)
    (fun m meth c A a g mk v t L k n Y hp _ _ ⟨e1, e2, v', e3, e4⟩ => by cases e3; subst e1 e2; exact ⟨L, e4, rfl, rfl, rfl⟩)
end OwnCold
end Jvm.RoadKit
namespace Jvm.RoadKit
open Sem ClassFile Op Lib Jvm.Stand Jvm.Free Jvm.LawKit
section OwnSteps
variable {p : Program} {l : Launch} {e : Env} {R : Room} {s : State} {m : MethodId} {args : Array Value} {below : List Frame} {meth : Method} {c : Code} {T : State} {locs : List Loc} {cells slots : Nat} {pc : Nat} {Ls : Array Slot} {st : List Value} {target : State}
theorem s_aloadN (X : Stand p l e R s m args below meth c T locs cells slots) (hx : p.tables.exec = Jvm.exec) {k : Fin 4} {v : Value} (hd : decode c.code pc = .ok (.aload_n k, 1)) (hl : Ls[k.val]? = some (.val v)) (hv : v.isRef = true) (hr : Steps p.tables e below (T.setTop (mkF m (pc + 1) Ls (v :: st))) target) : Steps p.tables e below (T.setTop (mkF m pc Ls st)) target := XS.aloadN (g := mkF m pc Ls st) X.here hx rfl hd hl hv hr
theorem s_astoreN (X : Stand p l e R s m args below meth c T locs cells slots) (hx : p.tables.exec = Jvm.exec) {k : Fin 4} {x : Value} {l' : Array Slot} (hd : decode c.code pc = .ok (.astore_n k, 1)) (hv : x.isRef = true) (hl : storeLocals Ls k.val x = some l') (hr : Steps p.tables e below (T.setTop (mkF m (pc + 1) l' st)) target) : Steps p.tables e below (T.setTop (mkF m pc Ls (x :: st))) target := XS.astoreN (g := mkF m pc Ls (x :: st)) X.here hx rfl hd rfl hv hl hr
theorem s_aload (X : Stand p l e R s m args below meth c T locs cells slots) (hx : p.tables.exec = Jvm.exec) {k : Nat} {v : Value} (hd : decode c.code pc = .ok (.aload k, 2)) (hl : Ls[k]? = some (.val v)) (hv : v.isRef = true) (hr : Steps p.tables e below (T.setTop (mkF m (pc + 2) Ls (v :: st))) target) : Steps p.tables e below (T.setTop (mkF m pc Ls st)) target := XS.aload (g := mkF m pc Ls st) X.here hx rfl hd hl hv hr
theorem s_astore (X : Stand p l e R s m args below meth c T locs cells slots) (hx : p.tables.exec = Jvm.exec) {k : Nat} {x : Value} {l' : Array Slot} (hd : decode c.code pc = .ok (.astore k, 2)) (hv : x.isRef = true) (hl : storeLocals Ls k x = some l') (hr : Steps p.tables e below (T.setTop (mkF m (pc + 2) l' st)) target) : Steps p.tables e below (T.setTop (mkF m pc Ls (x :: st))) target := XS.astore (g := mkF m pc Ls (x :: st)) X.here hx rfl hd rfl hv hl hr
theorem s_iloadN (X : Stand p l e R s m args below meth c T locs cells slots) (hx : p.tables.exec = Jvm.exec) {k : Fin 4} {v : Int32} (hd : decode c.code pc = .ok (.iload_n k, 1)) (hl : Ls[k.val]? = some (.val (.int v))) (hr : Steps p.tables e below (T.setTop (mkF m (pc + 1) Ls (.int v :: st))) target) : Steps p.tables e below (T.setTop (mkF m pc Ls st)) target := XS.iloadN (g := mkF m pc Ls st) X.here hx rfl hd hl hr
theorem s_istoreN (X : Stand p l e R s m args below meth c T locs cells slots) (hx : p.tables.exec = Jvm.exec) {k : Fin 4} {x : Int32} {l' : Array Slot} (hd : decode c.code pc = .ok (.istore_n k, 1)) (hl : storeLocals Ls k.val (.int x) = some l') (hr : Steps p.tables e below (T.setTop (mkF m (pc + 1) l' st)) target) : Steps p.tables e below (T.setTop (mkF m pc Ls (.int x :: st))) target := XS.istoreN (g := mkF m pc Ls (.int x :: st)) X.here hx rfl hd rfl hl hr
theorem s_iload (X : Stand p l e R s m args below meth c T locs cells slots) (hx : p.tables.exec = Jvm.exec) {k : Nat} {v : Int32} (hd : decode c.code pc = .ok (.iload k, 2)) (hl : Ls[k]? = some (.val (.int v))) (hr : Steps p.tables e below (T.setTop (mkF m (pc + 2) Ls (.int v :: st))) target) : Steps p.tables e below (T.setTop (mkF m pc Ls st)) target := XS.iload (g := mkF m pc Ls st) X.here hx rfl hd hl hr
theorem s_istore (X : Stand p l e R s m args below meth c T locs cells slots) (hx : p.tables.exec = Jvm.exec) {k : Nat} {x : Int32} {l' : Array Slot} (hd : decode c.code pc = .ok (.istore k, 2)) (hl : storeLocals Ls k (.int x) = some l') (hr : Steps p.tables e below (T.setTop (mkF m (pc + 2) l' st)) target) : Steps p.tables e below (T.setTop (mkF m pc Ls (.int x :: st))) target := XS.istore (g := mkF m pc Ls (.int x :: st)) X.here hx rfl hd rfl hl hr
theorem s_iconst (X : Stand p l e R s m args below meth c T locs cells slots) (hx : p.tables.exec = Jvm.exec) {i : Int} (r : Int32) (hd : decode c.code pc = .ok (.iconst i, 1)) (hf : Int32.ofInt i = r) (hr : Steps p.tables e below (T.setTop (mkF m (pc + 1) Ls (.int r :: st))) target) : Steps p.tables e below (T.setTop (mkF m pc Ls st)) target := XS.iconst (g := mkF m pc Ls st) X.here hx rfl hd (by rw [← hf] at hr; exact hr)
theorem s_bipush (X : Stand p l e R s m args below meth c T locs cells slots) (hx : p.tables.exec = Jvm.exec) {i : Int} (r : Int32) (hd : decode c.code pc = .ok (.bipush i, 2)) (hf : (Int8.ofInt i).toInt32 = r) (hr : Steps p.tables e below (T.setTop (mkF m (pc + 2) Ls (.int r :: st))) target) : Steps p.tables e below (T.setTop (mkF m pc Ls st)) target := XS.bipush (g := mkF m pc Ls st) X.here hx rfl hd (by rw [← hf] at hr; exact hr)
theorem s_sipush (X : Stand p l e R s m args below meth c T locs cells slots) (hx : p.tables.exec = Jvm.exec) {i : Int} (r : Int32) (hd : decode c.code pc = .ok (.sipush i, 3)) (hf : (Int16.ofInt i).toInt32 = r) (hr : Steps p.tables e below (T.setTop (mkF m (pc + 3) Ls (.int r :: st))) target) : Steps p.tables e below (T.setTop (mkF m pc Ls st)) target := XS.sipush (g := mkF m pc Ls st) X.here hx rfl hd (by rw [← hf] at hr; exact hr)
theorem s_aconstNull (X : Stand p l e R s m args below meth c T locs cells slots) (hx : p.tables.exec = Jvm.exec) (hd : decode c.code pc = .ok (.aconst_null, 1)) (hr : Steps p.tables e below (T.setTop (mkF m (pc + 1) Ls (.null :: st))) target) : Steps p.tables e below (T.setTop (mkF m pc Ls st)) target := XS.aconstNull (g := mkF m pc Ls st) X.here hx rfl hd hr
theorem s_iadd (X : Stand p l e R s m args below meth c T locs cells slots) (hx : p.tables.exec = Jvm.exec) {x y r : Int32} (hd : decode c.code pc = .ok (.iadd, 1)) (hf : x + y = r) (hr : Steps p.tables e below (T.setTop (mkF m (pc + 1) Ls (.int r :: st))) target) : Steps p.tables e below (T.setTop (mkF m pc Ls (.int y :: .int x :: st))) target := XS.iadd (g := mkF m pc Ls (.int y :: .int x :: st)) X.here hx rfl hd rfl (by rw [← hf] at hr; exact hr)
theorem s_isub (X : Stand p l e R s m args below meth c T locs cells slots) (hx : p.tables.exec = Jvm.exec) {x y r : Int32} (hd : decode c.code pc = .ok (.isub, 1)) (hf : x - y = r) (hr : Steps p.tables e below (T.setTop (mkF m (pc + 1) Ls (.int r :: st))) target) : Steps p.tables e below (T.setTop (mkF m pc Ls (.int y :: .int x :: st))) target := XS.isub (g := mkF m pc Ls (.int y :: .int x :: st)) X.here hx rfl hd rfl (by rw [← hf] at hr; exact hr)
theorem s_iand (X : Stand p l e R s m args below meth c T locs cells slots) (hx : p.tables.exec = Jvm.exec) {x y r : Int32} (hd : decode c.code pc = .ok (.iand, 1)) (hf : x &&& y = r) (hr : Steps p.tables e below (T.setTop (mkF m (pc + 1) Ls (.int r :: st))) target) : Steps p.tables e below (T.setTop (mkF m pc Ls (.int y :: .int x :: st))) target := XS.iand (g := mkF m pc Ls (.int y :: .int x :: st)) X.here hx rfl hd rfl (by rw [← hf] at hr; exact hr)
theorem s_ior (X : Stand p l e R s m args below meth c T locs cells slots) (hx : p.tables.exec = Jvm.exec) {x y r : Int32} (hd : decode c.code pc = .ok (.ior, 1)) (hf : x ||| y = r) (hr : Steps p.tables e below (T.setTop (mkF m (pc + 1) Ls (.int r :: st))) target) : Steps p.tables e below (T.setTop (mkF m pc Ls (.int y :: .int x :: st))) target := XS.ior (g := mkF m pc Ls (.int y :: .int x :: st)) X.here hx rfl hd rfl (by rw [← hf] at hr; exact hr)
theorem s_i2b (X : Stand p l e R s m args below meth c T locs cells slots) (hx : p.tables.exec = Jvm.exec) {x : Int32} {r : Int32} (hd : decode c.code pc = .ok (.i2b, 1)) (hf : x.toInt8.toInt32 = r) (hr : Steps p.tables e below (T.setTop (mkF m (pc + 1) Ls (.int r :: st))) target) : Steps p.tables e below (T.setTop (mkF m pc Ls (.int x :: st))) target := XS.i2b (g := mkF m pc Ls (.int x :: st)) X.here hx rfl hd rfl (by rw [← hf] at hr; exact hr)
theorem s_i2c (X : Stand p l e R s m args below meth c T locs cells slots) (hx : p.tables.exec = Jvm.exec) {x : Int32} {r : Int32} (hd : decode c.code pc = .ok (.i2c, 1)) (hf : x.toUInt32.toUInt16.toUInt32.toInt32 = r) (hr : Steps p.tables e below (T.setTop (mkF m (pc + 1) Ls (.int r :: st))) target) : Steps p.tables e below (T.setTop (mkF m pc Ls (.int x :: st))) target := XS.i2c (g := mkF m pc Ls (.int x :: st)) X.here hx rfl hd rfl (by rw [← hf] at hr; exact hr)
theorem s_ishr (X : Stand p l e R s m args below meth c T locs cells slots) (hx : p.tables.exec = Jvm.exec) {x r : Int32} {y : Int32} (hd : decode c.code pc = .ok (.ishr, 1)) (hf : (x >>> (y &&& 31)) = r) (hr : Steps p.tables e below (T.setTop (mkF m (pc + 1) Ls (.int r :: st))) target) : Steps p.tables e below (T.setTop (mkF m pc Ls (.int y :: .int x :: st))) target := XS.ishr (g := mkF m pc Ls (.int y :: .int x :: st)) X.here hx rfl hd rfl (by rw [← hf] at hr; exact hr)
theorem s_iushr (X : Stand p l e R s m args below meth c T locs cells slots) (hx : p.tables.exec = Jvm.exec) {x r : Int32} {y : Int32} (hd : decode c.code pc = .ok (.iushr, 1)) (hf : ((x.toUInt32 >>> (y &&& 31).toUInt32).toInt32) = r) (hr : Steps p.tables e below (T.setTop (mkF m (pc + 1) Ls (.int r :: st))) target) : Steps p.tables e below (T.setTop (mkF m pc Ls (.int y :: .int x :: st))) target := XS.iushr (g := mkF m pc Ls (.int y :: .int x :: st)) X.here hx rfl hd rfl (by rw [← hf] at hr; exact hr)
theorem s_irem (X : Stand p l e R s m args below meth c T locs cells slots) (hx : p.tables.exec = Jvm.exec) {x y r : Int32} (hd : decode c.code pc = .ok (.irem, 1)) (hy : y ≠ 0) (hf : x % y = r) (hr : Steps p.tables e below (T.setTop (mkF m (pc + 1) Ls (.int r :: st))) target) : Steps p.tables e below (T.setTop (mkF m pc Ls (.int y :: .int x :: st))) target := iremM (g := mkF m pc Ls (.int y :: .int x :: st)) X hx rfl hd rfl hy (by rw [← hf] at hr; exact hr)
theorem s_dup (X : Stand p l e R s m args below meth c T locs cells slots) (hx : p.tables.exec = Jvm.exec) {x : Value} (hd : decode c.code pc = .ok (.dup, 1)) (h1 : x.category = 1) (hr : Steps p.tables e below (T.setTop (mkF m (pc + 1) Ls (x :: x :: st))) target) : Steps p.tables e below (T.setTop (mkF m pc Ls (x :: st))) target := XS.dup (g := mkF m pc Ls (x :: st)) X.here hx rfl hd rfl h1 hr
theorem s_pop (X : Stand p l e R s m args below meth c T locs cells slots) (hx : p.tables.exec = Jvm.exec) {x : Value} (hd : decode c.code pc = .ok (.pop, 1)) (h1 : x.category = 1) (hr : Steps p.tables e below (T.setTop (mkF m (pc + 1) Ls st)) target) : Steps p.tables e below (T.setTop (mkF m pc Ls (x :: st))) target := XS.pop (g := mkF m pc Ls (x :: st)) X.here hx rfl hd rfl h1 hr
theorem s_goto (X : Stand p l e R s m args below meth c T locs cells slots) (hx : p.tables.exec = Jvm.exec) {o : Int} (pc' : Nat) (hd : decode c.code pc = .ok (.goto o, 3)) (ho : 0 ≤ (pc : Int) + o) (hp : ((pc : Int) + o).toNat = pc') (hr : Steps p.tables e below (T.setTop (mkF m pc' Ls st)) target) : Steps p.tables e below (T.setTop (mkF m pc Ls st)) target := XS.goto (g := mkF m pc Ls st) X.here hx rfl (pc0 := pc) rfl hd ho hp hr
theorem s_ifYes (X : Stand p l e R s m args below meth c T locs cells slots) (hx : p.tables.exec = Jvm.exec) {cd : ClassFile.Cond} {x : Int32} {o : Int} (pc' : Nat) (hd : decode c.code pc = .ok (.ifCond cd o, 3)) (hc : ifCond.holds cd x = true) (ho : 0 ≤ (pc : Int) + o) (hp : ((pc : Int) + o).toNat = pc') (hr : Steps p.tables e below (T.setTop (mkF m pc' Ls st)) target) : Steps p.tables e below (T.setTop (mkF m pc Ls (.int x :: st))) target := XS.ifYes (g := mkF m pc Ls (.int x :: st)) X.here hx rfl (pc0 := pc) rfl hd rfl hc ho hp hr
theorem s_ifNo (X : Stand p l e R s m args below meth c T locs cells slots) (hx : p.tables.exec = Jvm.exec) {cd : ClassFile.Cond} {x : Int32} {o : Int} (hd : decode c.code pc = .ok (.ifCond cd o, 3)) (hc : ifCond.holds cd x = false) (hr : Steps p.tables e below (T.setTop (mkF m (pc + 3) Ls st)) target) : Steps p.tables e below (T.setTop (mkF m pc Ls (.int x :: st))) target := XS.ifNo (g := mkF m pc Ls (.int x :: st)) X.here hx rfl hd rfl hc hr
theorem s_icmpYes (X : Stand p l e R s m args below meth c T locs cells slots) (hx : p.tables.exec = Jvm.exec) {cd : ClassFile.Cond} {x y : Int32} {o : Int} (pc' : Nat) (hd : decode c.code pc = .ok (.if_icmp cd o, 3)) (hc : if_icmp.holds cd x y = true) (ho : 0 ≤ (pc : Int) + o) (hp : ((pc : Int) + o).toNat = pc') (hr : Steps p.tables e below (T.setTop (mkF m pc' Ls st)) target) : Steps p.tables e below (T.setTop (mkF m pc Ls (.int y :: .int x :: st))) target := XS.icmpYes (g := mkF m pc Ls (.int y :: .int x :: st)) X.here hx rfl (pc0 := pc) rfl hd rfl hc ho hp hr
theorem s_icmpNo (X : Stand p l e R s m args below meth c T locs cells slots) (hx : p.tables.exec = Jvm.exec) {cd : ClassFile.Cond} {x y : Int32} {o : Int} (hd : decode c.code pc = .ok (.if_icmp cd o, 3)) (hc : if_icmp.holds cd x y = false) (hr : Steps p.tables e below (T.setTop (mkF m (pc + 3) Ls st)) target) : Steps p.tables e below (T.setTop (mkF m pc Ls (.int y :: .int x :: st))) target := XS.icmpNo (g := mkF m pc Ls (.int y :: .int x :: st)) X.here hx rfl hd rfl hc hr
theorem s_iinc (X : Stand p l e R s m args below meth c T locs cells slots) (hx : p.tables.exec = Jvm.exec) {k : Nat} {cst : Int} {x r : Int32} {l' : Array Slot} (hd : decode c.code pc = .ok (.iinc k cst, 3)) (hl : Ls[k]? = some (.val (.int x))) (hf : x + Int32.ofInt cst = r) (hl' : storeLocals Ls k (.int r) = some l') (hr : Steps p.tables e below (T.setTop (mkF m (pc + 3) l' st)) target) : Steps p.tables e below (T.setTop (mkF m pc Ls st)) target := XS.iinc (g := mkF m pc Ls st) X.here hx rfl hd hl (by rw [hf]; exact hl') hr
end OwnSteps
end Jvm.RoadKit
namespace Jvm.Pilot.@@N@@
open Jvm Jvm.ClassFile Sem Op Lib Jvm.Free Jvm.Stand Jvm.LawKit Jvm.RoadKit Jvm.LamKit Bundle Jvm.Pilot.@@N@@.Jvm.D
theorem own_fldI {t : Term} {C n d : String} {args : Array Value} {s : State} {a : Addr} {z : Int32} (ev : t.eval args s none [] s = some (.ref a)) (h : (Jvm.Cond.eq (Term.field t C n d) (Term.int z)).value args s none s [] = some true) : Fld s s.heap a C n d (.int z) := by
  obtain ⟨x, y, hx, hy, k1, k2⟩ := cmp_v (Or.inl h)
  cases (Term.int_eval z).symm.trans hy
  obtain ⟨q, rfl⟩ := k2
  have hq : q = z := by
    have h' := h
    simp only [Cond.value, hx, Term.int_eval] at h'
    simpa using h'
  subst hq
  exact Fld.start ((fld_at ev).symm.trans hx)
theorem own_inj {Z : State} {h : Heap} {a : Addr} {C n d : String} {v w : Value} (F : Fld Z h a C n d v) (G : Fld Z h a C n d w) : v = w := by
  obtain ⟨c1, cf, k, i, f, h1, h2, -, -, -, -, h7⟩ := F
  obtain ⟨c2, cf', k', i', f', g1, g2, -, -, -, -, g7⟩ := G
  cases h1.symm.trans g1
  cases h2.symm.trans g2
  exact Option.some.inj (h7.symm.trans g7)
theorem own_oldsz {Z : State} {n0 : Nat} {h : Heap} (O : Old Z n0 h) : n0 ≤ h.size := O.1 ▸ O.2.1
theorem own_mem {x : Addr} {ws : List Addr} {n : Nat} (i : Nat) (h : ws[i]? = some x) : x ∈ ws ∨ n ≤ x := Or.inl (List.mem_of_getElem? h)
def OWorld (Z : State) (h : Heap) (w_MD5 : Addr) (w_SHA384 : Addr) (w_SHA256 : Addr) (w_SHA1 : Addr) (w_SHA224 : Addr) (w_SHA512 : Addr) (cs : Int32) (sf : Value) : Prop := Sta Z h "com/example/packstone/packstone/model/ChecksumAlgorithm" "MD5" "Lcom/example/packstone/packstone/model/ChecksumAlgorithm;" (.ref w_MD5) ∧ Exa Z h w_MD5 "com/example/packstone/packstone/model/ChecksumAlgorithm" ∧ Fld Z h w_MD5 "com/example/packstone/packstone/model/ChecksumAlgorithm" "hexDigits" "I" (.int (32 : Int32)) ∧ Sta Z h "com/example/packstone/packstone/model/ChecksumAlgorithm" "SHA384" "Lcom/example/packstone/packstone/model/ChecksumAlgorithm;" (.ref w_SHA384) ∧ Exa Z h w_SHA384 "com/example/packstone/packstone/model/ChecksumAlgorithm" ∧ Fld Z h w_SHA384 "com/example/packstone/packstone/model/ChecksumAlgorithm" "hexDigits" "I" (.int (96 : Int32)) ∧ Sta Z h "com/example/packstone/packstone/model/ChecksumAlgorithm" "SHA256" "Lcom/example/packstone/packstone/model/ChecksumAlgorithm;" (.ref w_SHA256) ∧ Exa Z h w_SHA256 "com/example/packstone/packstone/model/ChecksumAlgorithm" ∧ Fld Z h w_SHA256 "com/example/packstone/packstone/model/ChecksumAlgorithm" "hexDigits" "I" (.int (64 : Int32)) ∧ Sta Z h "com/example/packstone/packstone/model/ChecksumAlgorithm" "SHA1" "Lcom/example/packstone/packstone/model/ChecksumAlgorithm;" (.ref w_SHA1) ∧ Exa Z h w_SHA1 "com/example/packstone/packstone/model/ChecksumAlgorithm" ∧ Fld Z h w_SHA1 "com/example/packstone/packstone/model/ChecksumAlgorithm" "hexDigits" "I" (.int (40 : Int32)) ∧ Sta Z h "com/example/packstone/packstone/model/ChecksumAlgorithm" "SHA224" "Lcom/example/packstone/packstone/model/ChecksumAlgorithm;" (.ref w_SHA224) ∧ Exa Z h w_SHA224 "com/example/packstone/packstone/model/ChecksumAlgorithm" ∧ Fld Z h w_SHA224 "com/example/packstone/packstone/model/ChecksumAlgorithm" "hexDigits" "I" (.int (56 : Int32)) ∧ Sta Z h "com/example/packstone/packstone/model/ChecksumAlgorithm" "SHA512" "Lcom/example/packstone/packstone/model/ChecksumAlgorithm;" (.ref w_SHA512) ∧ Exa Z h w_SHA512 "com/example/packstone/packstone/model/ChecksumAlgorithm" ∧ Fld Z h w_SHA512 "com/example/packstone/packstone/model/ChecksumAlgorithm" "hexDigits" "I" (.int (128 : Int32)) ∧ Sta Z h "java/lang/String" "COMPACT_STRINGS" "Z" (.int cs) ∧ ¬ (cs = (0 : Int32)) ∧ Sta Z h "jdk/internal/util/Preconditions" "SIOOBE_FORMATTER" "Ljava/util/function/BiFunction;" sf ∧ sf.isRef = true ∧ Jvm.Lit.constHeld Z "java/lang/String" 7
def BV (x : Int32) : Int32 := nar .byte (x.toInt8.toInt32)
def CH (x : Int32) : Int32 := nar .char ((x &&& (255 : Int32)).toUInt32.toUInt16.toUInt32.toInt32)
def upd {α : Type} (F : Nat → α) (i : Nat) (v : α) : Nat → α := fun j => if j = i then v else F j
def HXb (x : Int32) : Bool := (!decide (x < 48) && !decide (57 < x)) || (!decide (x < 97) && !decide (102 < x))
theorem own_256 {P : Int32 → Prop} (h : ∀ k : Fin 256, P (Int32.ofNat k.1)) {x : Int32} (hx : ¬ x < 0 ∧ ¬ (255 : Int32) < x) : P x := by
  have h0 : (0 : Int32).toInt = 0 := by decide
  have h1 : (255 : Int32).toInt = 255 := by decide
  simp only [Int32.lt_iff_toInt_lt, h0, h1] at hx
  have e : x = Int32.ofNat x.toInt.toNat := by
    apply Int32.toInt_inj.mp
    rw [Int32.toInt_ofNat_of_lt (by omega)]; omega
  rw [e]
  exact h ⟨x.toInt.toNat, by omega⟩
theorem own_hxe {x : Int32} (hx : ¬ x < 0 ∧ ¬ (255 : Int32) < x) : HXb x = ((!decide (x - 48 < 0) && decide (x - 48 < 10)) || (!decide (x - 97 < 0) && decide (x - 97 < 6))) := own_256 (P := fun x => HXb x = ((!decide (x - 48 < 0) && decide (x - 48 < 10)) || (!decide (x - 97 < 0) && decide (x - 97 < 6)))) (by decide +kernel) hx
theorem own_chb {x : Int32} (hx : ¬ x < 0 ∧ ¬ (255 : Int32) < x) : CH (BV x) = x := own_256 (P := fun x => CH (BV x) = x) (by decide +kernel) hx
theorem own_c255 (x : Int32) : ¬ nar .char ((x &&& (255 : Int32)).toUInt32.toUInt16.toUInt32.toInt32) < 0 ∧ ¬ (255 : Int32) < nar .char ((x &&& (255 : Int32)).toUInt32.toUInt16.toUInt32.toInt32) := by
  have e1 : (x &&& (255 : Int32)).toInt = x.toInt % (2 ^ 8 : Nat) := c_mask x 255 8 (by decide) (by decide)
  have e2 := c_i2c (x &&& (255 : Int32))
  have e3 := c_i2c ((x &&& (255 : Int32)).toUInt32.toUInt16.toUInt32.toInt32)
  show ¬ ((x &&& (255 : Int32)).toUInt32.toUInt16.toUInt32.toInt32).toUInt32.toUInt16.toUInt32.toInt32 < 0 ∧ ¬ (255 : Int32) < ((x &&& (255 : Int32)).toUInt32.toUInt16.toUInt32.toInt32).toUInt32.toUInt16.toUInt32.toInt32
  have h0 : (0 : Int32).toInt = 0 := by decide
  have h1 : (255 : Int32).toInt = 255 := by decide
  simp only [Int32.lt_iff_toInt_lt, h0, h1]
  omega
theorem d13_0 : decode method_2_code 0 = .ok (.iload_n 0, 1) := by decide +kernel
theorem d13_1 : decode method_2_code 1 = .ok (.bipush 48, 2) := by decide +kernel
theorem d13_3 : decode method_2_code 3 = .ok (.isub, 1) := by decide +kernel
theorem d13_4 : decode method_2_code 4 = .ok (.istore_n 1, 1) := by decide +kernel
theorem d13_5 : decode method_2_code 5 = .ok (.iload_n 0, 1) := by decide +kernel
theorem d13_6 : decode method_2_code 6 = .ok (.bipush 97, 2) := by decide +kernel
theorem d13_8 : decode method_2_code 8 = .ok (.isub, 1) := by decide +kernel
theorem d13_9 : decode method_2_code 9 = .ok (.istore_n 2, 1) := by decide +kernel
theorem d13_10 : decode method_2_code 10 = .ok (.iload_n 1, 1) := by decide +kernel
theorem d13_11 : decode method_2_code 11 = .ok (.ifCond .lt 9, 3) := by decide +kernel
theorem d13_14 : decode method_2_code 14 = .ok (.iload_n 1, 1) := by decide +kernel
theorem d13_15 : decode method_2_code 15 = .ok (.bipush 10, 2) := by decide +kernel
theorem d13_17 : decode method_2_code 17 = .ok (.if_icmp .lt 13, 3) := by decide +kernel
theorem d13_20 : decode method_2_code 20 = .ok (.iload_n 2, 1) := by decide +kernel
theorem d13_21 : decode method_2_code 21 = .ok (.ifCond .lt 13, 3) := by decide +kernel
theorem d13_24 : decode method_2_code 24 = .ok (.iload_n 2, 1) := by decide +kernel
theorem d13_25 : decode method_2_code 25 = .ok (.bipush 6, 2) := by decide +kernel
theorem d13_27 : decode method_2_code 27 = .ok (.if_icmp .ge 7, 3) := by decide +kernel
theorem d13_30 : decode method_2_code 30 = .ok (.iconst 1, 1) := by decide +kernel
theorem d13_31 : decode method_2_code 31 = .ok (.goto 4, 3) := by decide +kernel
theorem d13_34 : decode method_2_code 34 = .ok (.iconst 0, 1) := by decide +kernel
theorem d13_35 : decode method_2_code 35 = .ok (.ireturn, 1) := by decide +kernel
theorem pn_0 : plainName "com/example/packstone/packstone/model/ChecksumAlgorithmIsChecksumPinLaw" = true := by first | (simp [plainName, overriddenIn]; done) | decide +kernel
theorem ef_rm_isHex (m : MethodId) (x0 : Int32) : entryFrame m #[(.int x0)] 3 = mkF m 0 #[.val (.int x0), .unset, .unset] [] := by first | (simp [entryFrame, mkF, argsToLocals, Value.category]; done) | rfl
def Q_rm_isHex (Z : State) (x : Int32) (w_MD5 : Addr) (w_SHA384 : Addr) (w_SHA256 : Addr) (w_SHA1 : Addr) (w_SHA224 : Addr) (w_SHA512 : Addr) (cs : Int32) (sf : Value) (h0 : Heap) (n0 : Nat) (v : Option Value) (h : Heap) (L : List Loc) : Prop := v = some (.int (if HXb x then (1 : Int32) else (0 : Int32))) ∧ Fr n0 L ∧ h = h0
set_option maxRecDepth 65536 in
set_option maxHeartbeats 40000000 in
theorem rm_isHex (l : Launch) (Z : State) (a0 : Array Value) (hw : ∀ d ∈ tables_1, d.before a0 Z = true) (ws : List Jvm.Cond) (x : Int32) (w_MD5 : Addr) (w_SHA384 : Addr) (w_SHA256 : Addr) (w_SHA1 : Addr) (w_SHA224 : Addr) (w_SHA512 : Addr) (cs : Int32) (sf : Value) (h0 : Heap) (n0 : Nat) (O0 : Old Z n0 h0) (WZ : OWorld Z Z.heap w_MD5 w_SHA384 w_SHA256 w_SHA1 w_SHA224 w_SHA512 cs sf) (hc : ¬ x < 0 ∧ ¬ (255 : Int32) < x) :
    MetFree l (⟨"com/example/packstone/packstone/model/ChecksumAlgorithmIsChecksumPinLaw", "isHex", "(C)Z"⟩ : MethodName) (head1 (Jvm.Cond.code (⟨"com/example/packstone/packstone/model/ChecksumAlgorithmIsChecksumPinLaw", "isHex", "(C)Z"⟩ : MethodName) method_2_code 3 (some .boolean) :: ws) ({ frames := 0, cells := 0, slots := 0, locals := 0 } : Room)) (fun a U => a = #[(.int x)] ∧ Z.Warmed39 U.vm ∧ U.heap = h0) (fun _ _ _ _ _ => True) (fun _ U o U' => ∃ v L, o = .returned v ∧ Q_rm_isHex Z x w_MD5 w_SHA384 w_SHA256 w_SHA1 w_SHA224 w_SHA512 cs sf h0 n0 v U'.heap L ∧ FrameEnd U o U' L ({ frames := 0, cells := 0, slots := 0, locals := 0 } : Room).cells ({ frames := 0, cells := 0, slots := 0, locals := 0 } : Room).slots) := by
  refine MetFree.of_bodySF (plainFor_of_name pn_0) hisR ?_
  intro p e s m args below meth c s₁ Bd hml0 hP hK
  obtain ⟨rfl, hZ, hh⟩ := hP
  have hx := Bd.exec
  have hby := Bd.bytes
  have D := fun {pc : Nat} {r : Except ClassFile.DecodeError (ClassFile.Instr × Nat)} (q : decode method_2_code pc = r) => hb (pc := pc) hby q
  have hml : c.maxLocals = 3 := hml0
  have hown : s.vm.findClass "com/example/packstone/packstone/model/ChecksumAlgorithmIsChecksumPinLaw" = some m.cls := findClass_of_methodNamed Bd.named
  have hnm := (name_of_methodNamed Bd.named Bd.method).1
  have X0 : Stand p l e ({ frames := 0, cells := 0, slots := 0, locals := 0 } : Room) s m #[(.int x)] below meth c s₁ [] 0 0 := Stand.of_body Bd
  have e0 : s₁.heap = h0 := by rw [← hh, Bd.state]; rfl
  have N0 := Fr.nil n0
  have pre0 : ∀ t, Steps p.tables e below (s₁.setTop (mkF m 0 #[.val (.int x), .unset, .unset] [])) t → Steps p.tables e below (s₁.setTop (entryFrame m #[(.int x)] 3)) t := fun t k => castTop (ef_rm_isHex m (x)) k
  have wd := fun {d : Jvm.Cond} (i : Nat) (h : tables_1[i]? = some d) => hw d (List.mem_of_getElem? h)
  obtain ⟨S_MD5, E_MD5, F_MD5_hexDigits, S_SHA384, E_SHA384, F_SHA384_hexDigits, S_SHA256, E_SHA256, F_SHA256_hexDigits, S_SHA1, E_SHA1, F_SHA1_hexDigits, S_SHA224, E_SHA224, F_SHA224_hexDigits, S_SHA512, E_SHA512, F_SHA512_hexDigits, S_cs, hcs, S_sf, hsf, hch⟩ := id WZ
  have cs1 : Steps p.tables e below (s₁.setTop (mkF m 0 #[.val (.int x), .unset, .unset] [])) (s₁.setTop (mkF m 11 #[.val (.int x), .val (.int (x - (48 : Int32))), .val (.int (x - (97 : Int32)))] [(.int (x - (48 : Int32)))])) := (by
    refine s_iloadN X0 hx (D d13_0) rfl ?_
    refine s_bipush X0 hx (48 : Int32) (D d13_1) rfl ?_
    refine s_isub X0 hx (D d13_3) rfl ?_
    refine s_istoreN X0 hx (D d13_4) (l' := #[.val (.int x), .val (.int (x - (48 : Int32))), .unset]) rfl ?_
    refine s_iloadN X0 hx (D d13_5) rfl ?_
    refine s_bipush X0 hx (97 : Int32) (D d13_6) rfl ?_
    refine s_isub X0 hx (D d13_8) rfl ?_
    refine s_istoreN X0 hx (D d13_9) (l' := #[.val (.int x), .val (.int (x - (48 : Int32))), .val (.int (x - (97 : Int32)))]) rfl ?_
    refine s_iloadN X0 hx (D d13_10) rfl ?_
    exact Steps.refl _)
  by_cases hc2 : (x - (48 : Int32)) < (0 : Int32)
  · have cs3 : Steps p.tables e below (s₁.setTop (mkF m 0 #[.val (.int x), .unset, .unset] [])) (s₁.setTop (mkF m 21 #[.val (.int x), .val (.int (x - (48 : Int32))), .val (.int (x - (97 : Int32)))] [(.int (x - (97 : Int32)))])) := cs1.trans (by
      refine s_ifYes X0 hx 20 (D d13_11) ((if0 _ _).trans (tlt hc2).1) (of_decide_eq_true rfl) rfl ?_
      refine s_iloadN X0 hx (D d13_20) rfl ?_
      exact Steps.refl _)
    by_cases hc4 : (x - (97 : Int32)) < (0 : Int32)
    · obtain ⟨fs, hr, hrun, hended, hW, hsame⟩ := X0.leave (v := some (.int (0 : Int32))) (fun h => by rw [Bd.returns] at h; cases h)
      refine ⟨_, _, pre0 _ ?_, hrun, hended, _, _, rfl, ?_, ⟨_, rfl⟩, hW, hsame.mono (by decide) (by decide)⟩
      · refine cs3.trans ?_
        refine s_ifYes X0 hx 34 (D d13_21) ((if0 _ _).trans (tlt hc4).1) (of_decide_eq_true rfl) rfl ?_
        refine s_iconst X0 hx (0 : Int32) (D d13_34) rfl ?_
        exact retN X0 hx (t := .boolean) Bd.returns (by simp) (D d13_35) hr
      · show Q_rm_isHex Z x w_MD5 w_SHA384 w_SHA256 w_SHA1 w_SHA224 w_SHA512 cs sf h0 n0 _ s₁.heap _
        rw [e0]
        exact ⟨by rw [own_hxe hc]; simp [hcs, hc2, hc4], N0, rfl⟩
    · have cs5 : Steps p.tables e below (s₁.setTop (mkF m 0 #[.val (.int x), .unset, .unset] [])) (s₁.setTop (mkF m 27 #[.val (.int x), .val (.int (x - (48 : Int32))), .val (.int (x - (97 : Int32)))] [(.int (6 : Int32)), (.int (x - (97 : Int32)))])) := cs3.trans (by
        refine s_ifNo X0 hx (D d13_21) ((if0 _ _).trans (flt hc4).1) ?_
        refine s_iloadN X0 hx (D d13_24) rfl ?_
        refine s_bipush X0 hx (6 : Int32) (D d13_25) rfl ?_
        exact Steps.refl _)
      by_cases hc6 : (x - (97 : Int32)) < (6 : Int32)
      · obtain ⟨fs, hr, hrun, hended, hW, hsame⟩ := X0.leave (v := some (.int (1 : Int32))) (fun h => by rw [Bd.returns] at h; cases h)
        refine ⟨_, _, pre0 _ ?_, hrun, hended, _, _, rfl, ?_, ⟨_, rfl⟩, hW, hsame.mono (by decide) (by decide)⟩
        · refine cs5.trans ?_
          refine s_icmpNo X0 hx (D d13_27) (tlt hc6).2.1 ?_
          refine s_iconst X0 hx (1 : Int32) (D d13_30) rfl ?_
          refine s_goto X0 hx 35 (D d13_31) (of_decide_eq_true rfl) rfl ?_
          exact retN X0 hx (t := .boolean) Bd.returns (by simp) (D d13_35) hr
        · show Q_rm_isHex Z x w_MD5 w_SHA384 w_SHA256 w_SHA1 w_SHA224 w_SHA512 cs sf h0 n0 _ s₁.heap _
          rw [e0]
          exact ⟨by rw [own_hxe hc]; simp [hcs, hc2, hc4, hc6], N0, rfl⟩
      · obtain ⟨fs, hr, hrun, hended, hW, hsame⟩ := X0.leave (v := some (.int (0 : Int32))) (fun h => by rw [Bd.returns] at h; cases h)
        refine ⟨_, _, pre0 _ ?_, hrun, hended, _, _, rfl, ?_, ⟨_, rfl⟩, hW, hsame.mono (by decide) (by decide)⟩
        · refine cs5.trans ?_
          refine s_icmpYes X0 hx 34 (D d13_27) (flt hc6).2.1 (of_decide_eq_true rfl) rfl ?_
          refine s_iconst X0 hx (0 : Int32) (D d13_34) rfl ?_
          exact retN X0 hx (t := .boolean) Bd.returns (by simp) (D d13_35) hr
        · show Q_rm_isHex Z x w_MD5 w_SHA384 w_SHA256 w_SHA1 w_SHA224 w_SHA512 cs sf h0 n0 _ s₁.heap _
          rw [e0]
          exact ⟨by rw [own_hxe hc]; simp [hcs, hc2, hc4, hc6], N0, rfl⟩
  · have cs7 : Steps p.tables e below (s₁.setTop (mkF m 0 #[.val (.int x), .unset, .unset] [])) (s₁.setTop (mkF m 17 #[.val (.int x), .val (.int (x - (48 : Int32))), .val (.int (x - (97 : Int32)))] [(.int (10 : Int32)), (.int (x - (48 : Int32)))])) := cs1.trans (by
      refine s_ifNo X0 hx (D d13_11) ((if0 _ _).trans (flt hc2).1) ?_
      refine s_iloadN X0 hx (D d13_14) rfl ?_
      refine s_bipush X0 hx (10 : Int32) (D d13_15) rfl ?_
      exact Steps.refl _)
    by_cases hc8 : (x - (48 : Int32)) < (10 : Int32)
    · obtain ⟨fs, hr, hrun, hended, hW, hsame⟩ := X0.leave (v := some (.int (1 : Int32))) (fun h => by rw [Bd.returns] at h; cases h)
      refine ⟨_, _, pre0 _ ?_, hrun, hended, _, _, rfl, ?_, ⟨_, rfl⟩, hW, hsame.mono (by decide) (by decide)⟩
      · refine cs7.trans ?_
        refine s_icmpYes X0 hx 30 (D d13_17) (tlt hc8).1 (of_decide_eq_true rfl) rfl ?_
        refine s_iconst X0 hx (1 : Int32) (D d13_30) rfl ?_
        refine s_goto X0 hx 35 (D d13_31) (of_decide_eq_true rfl) rfl ?_
        exact retN X0 hx (t := .boolean) Bd.returns (by simp) (D d13_35) hr
      · show Q_rm_isHex Z x w_MD5 w_SHA384 w_SHA256 w_SHA1 w_SHA224 w_SHA512 cs sf h0 n0 _ s₁.heap _
        rw [e0]
        exact ⟨by rw [own_hxe hc]; simp [hcs, hc2, hc8], N0, rfl⟩
    · have cs9 : Steps p.tables e below (s₁.setTop (mkF m 0 #[.val (.int x), .unset, .unset] [])) (s₁.setTop (mkF m 21 #[.val (.int x), .val (.int (x - (48 : Int32))), .val (.int (x - (97 : Int32)))] [(.int (x - (97 : Int32)))])) := cs7.trans (by
        refine s_icmpNo X0 hx (D d13_17) (flt hc8).1 ?_
        refine s_iloadN X0 hx (D d13_20) rfl ?_
        exact Steps.refl _)
      by_cases hc10 : (x - (97 : Int32)) < (0 : Int32)
      · obtain ⟨fs, hr, hrun, hended, hW, hsame⟩ := X0.leave (v := some (.int (0 : Int32))) (fun h => by rw [Bd.returns] at h; cases h)
        refine ⟨_, _, pre0 _ ?_, hrun, hended, _, _, rfl, ?_, ⟨_, rfl⟩, hW, hsame.mono (by decide) (by decide)⟩
        · refine cs9.trans ?_
          refine s_ifYes X0 hx 34 (D d13_21) ((if0 _ _).trans (tlt hc10).1) (of_decide_eq_true rfl) rfl ?_
          refine s_iconst X0 hx (0 : Int32) (D d13_34) rfl ?_
          exact retN X0 hx (t := .boolean) Bd.returns (by simp) (D d13_35) hr
        · show Q_rm_isHex Z x w_MD5 w_SHA384 w_SHA256 w_SHA1 w_SHA224 w_SHA512 cs sf h0 n0 _ s₁.heap _
          rw [e0]
          exact ⟨by rw [own_hxe hc]; simp [hcs, hc2, hc8, hc10], N0, rfl⟩
      · have cs11 : Steps p.tables e below (s₁.setTop (mkF m 0 #[.val (.int x), .unset, .unset] [])) (s₁.setTop (mkF m 27 #[.val (.int x), .val (.int (x - (48 : Int32))), .val (.int (x - (97 : Int32)))] [(.int (6 : Int32)), (.int (x - (97 : Int32)))])) := cs9.trans (by
          refine s_ifNo X0 hx (D d13_21) ((if0 _ _).trans (flt hc10).1) ?_
          refine s_iloadN X0 hx (D d13_24) rfl ?_
          refine s_bipush X0 hx (6 : Int32) (D d13_25) rfl ?_
          exact Steps.refl _)
        by_cases hc12 : (x - (97 : Int32)) < (6 : Int32)
        · obtain ⟨fs, hr, hrun, hended, hW, hsame⟩ := X0.leave (v := some (.int (1 : Int32))) (fun h => by rw [Bd.returns] at h; cases h)
          refine ⟨_, _, pre0 _ ?_, hrun, hended, _, _, rfl, ?_, ⟨_, rfl⟩, hW, hsame.mono (by decide) (by decide)⟩
          · refine cs11.trans ?_
            refine s_icmpNo X0 hx (D d13_27) (tlt hc12).2.1 ?_
            refine s_iconst X0 hx (1 : Int32) (D d13_30) rfl ?_
            refine s_goto X0 hx 35 (D d13_31) (of_decide_eq_true rfl) rfl ?_
            exact retN X0 hx (t := .boolean) Bd.returns (by simp) (D d13_35) hr
          · show Q_rm_isHex Z x w_MD5 w_SHA384 w_SHA256 w_SHA1 w_SHA224 w_SHA512 cs sf h0 n0 _ s₁.heap _
            rw [e0]
            exact ⟨by rw [own_hxe hc]; simp [hcs, hc2, hc8, hc10, hc12], N0, rfl⟩
        · obtain ⟨fs, hr, hrun, hended, hW, hsame⟩ := X0.leave (v := some (.int (0 : Int32))) (fun h => by rw [Bd.returns] at h; cases h)
          refine ⟨_, _, pre0 _ ?_, hrun, hended, _, _, rfl, ?_, ⟨_, rfl⟩, hW, hsame.mono (by decide) (by decide)⟩
          · refine cs11.trans ?_
            refine s_icmpYes X0 hx 34 (D d13_27) (flt hc12).2.1 (of_decide_eq_true rfl) rfl ?_
            refine s_iconst X0 hx (0 : Int32) (D d13_34) rfl ?_
            exact retN X0 hx (t := .boolean) Bd.returns (by simp) (D d13_35) hr
          · show Q_rm_isHex Z x w_MD5 w_SHA384 w_SHA256 w_SHA1 w_SHA224 w_SHA512 cs sf h0 n0 _ s₁.heap _
            rw [e0]
            exact ⟨by rw [own_hxe hc]; simp [hcs, hc2, hc8, hc10, hc12], N0, rfl⟩
theorem own_or {n z : Int32} (h : ¬ n < 0) : ¬ ((130 : Int32) ||| n) < 0 := by
  have h0 : (0 : Int32).toInt = 0 := by decide
  rw [Int32.lt_iff_toInt_lt, h0] at h ⊢
  have q := c_or0 130 n (by decide) (by omega)
  have h1 : (130 : Int32).toInt = 130 := by decide
  omega
theorem d4_0 : decode jdk_41_method_13_code 0 = .ok (.iload_n 2, 1) := by decide +kernel
theorem d4_1 : decode jdk_41_method_13_code 1 = .ok (.iload_n 0, 1) := by decide +kernel
theorem d4_2 : decode jdk_41_method_13_code 2 = .ok (.ior, 1) := by decide +kernel
theorem d4_3 : decode jdk_41_method_13_code 3 = .ok (.iload_n 1, 1) := by decide +kernel
theorem d4_4 : decode jdk_41_method_13_code 4 = .ok (.ior, 1) := by decide +kernel
theorem d4_5 : decode jdk_41_method_13_code 5 = .ok (.ifCond .lt 10, 3) := by decide +kernel
theorem d4_8 : decode jdk_41_method_13_code 8 = .ok (.iload_n 1, 1) := by decide +kernel
theorem d4_9 : decode jdk_41_method_13_code 9 = .ok (.iload_n 2, 1) := by decide +kernel
theorem d4_10 : decode jdk_41_method_13_code 10 = .ok (.iload_n 0, 1) := by decide +kernel
theorem d4_11 : decode jdk_41_method_13_code 11 = .ok (.isub, 1) := by decide +kernel
theorem d4_12 : decode jdk_41_method_13_code 12 = .ok (.if_icmp .le 11, 3) := by decide +kernel
theorem d4_23 : decode jdk_41_method_13_code 23 = .ok (.iload_n 0, 1) := by decide +kernel
theorem d4_24 : decode jdk_41_method_13_code 24 = .ok (.ireturn, 1) := by decide +kernel
theorem pn_1 : plainName "jdk/internal/util/Preconditions" = true := by first | (simp [plainName, overriddenIn]; done) | decide +kernel
theorem ef_rm_cfis (m : MethodId) (x0 : Int32) (x1 : Int32) (x2 : Int32) (x3 : Value) (hx3 : x3.isRef = true) : entryFrame m #[(.int x0), (.int x1), (.int x2), x3] 4 = mkF m 0 #[.val (.int x0), .val (.int x1), .val (.int x2), .val x3] [] := by cases x3 <;> first | (simp [Value.isRef] at hx3; done) | first | (simp [entryFrame, mkF, argsToLocals, Value.category]; done) | rfl
def Q_rm_cfis (Z : State) (n : Int32) (sf : Value) (h0 : Heap) (n0 : Nat) (v : Option Value) (h : Heap) (L : List Loc) : Prop := v = some (.int (0 : Int32)) ∧ Fr n0 L ∧ h = h0
set_option maxRecDepth 65536 in
set_option maxHeartbeats 40000000 in
theorem rm_cfis (l : Launch) (Z : State) (a0 : Array Value) (hw : ∀ d ∈ tables_1, d.before a0 Z = true) (ws : List Jvm.Cond) (n : Int32) (sf : Value) (h0 : Heap) (n0 : Nat) (O0 : Old Z n0 h0) (hn : ¬ n < 0) (hn2 : ¬ (130 : Int32) < n) (hsf4 : sf.isRef = true) :
    MetFree l (⟨"jdk/internal/util/Preconditions", "checkFromIndexSize", "(IIILjava/util/function/BiFunction;)I"⟩ : MethodName) (head1 (Jvm.Cond.code (⟨"jdk/internal/util/Preconditions", "checkFromIndexSize", "(IIILjava/util/function/BiFunction;)I"⟩ : MethodName) jdk_41_method_13_code 4 (some .int) :: ws) ({ frames := 0, cells := 0, slots := 0, locals := 0 } : Room)) (fun a U => a = #[(.int (0 : Int32)), (.int n), (.int (130 : Int32)), sf] ∧ Z.Warmed39 U.vm ∧ U.heap = h0) (fun _ _ _ _ _ => True) (fun _ U o U' => ∃ v L, o = .returned v ∧ Q_rm_cfis Z n sf h0 n0 v U'.heap L ∧ FrameEnd U o U' L ({ frames := 0, cells := 0, slots := 0, locals := 0 } : Room).cells ({ frames := 0, cells := 0, slots := 0, locals := 0 } : Room).slots) := by
  refine MetFree.of_bodySF (plainFor_of_name pn_1) hisR ?_
  intro p e s m args below meth c s₁ Bd hml0 hP hK
  obtain ⟨rfl, hZ, hh⟩ := hP
  have hx := Bd.exec
  have hby := Bd.bytes
  have D := fun {pc : Nat} {r : Except ClassFile.DecodeError (ClassFile.Instr × Nat)} (q : decode jdk_41_method_13_code pc = r) => hb (pc := pc) hby q
  have hml : c.maxLocals = 4 := hml0
  have hown : s.vm.findClass "jdk/internal/util/Preconditions" = some m.cls := findClass_of_methodNamed Bd.named
  have hnm := (name_of_methodNamed Bd.named Bd.method).1
  have X0 : Stand p l e ({ frames := 0, cells := 0, slots := 0, locals := 0 } : Room) s m #[(.int (0 : Int32)), (.int n), (.int (130 : Int32)), sf] below meth c s₁ [] 0 0 := Stand.of_body Bd
  have e0 : s₁.heap = h0 := by rw [← hh, Bd.state]; rfl
  have N0 := Fr.nil n0
  have pre0 : ∀ t, Steps p.tables e below (s₁.setTop (mkF m 0 #[.val (.int (0 : Int32)), .val (.int n), .val (.int (130 : Int32)), .val sf] [])) t → Steps p.tables e below (s₁.setTop (entryFrame m #[(.int (0 : Int32)), (.int n), (.int (130 : Int32)), sf] 4)) t := fun t k => castTop (ef_rm_cfis m ((0 : Int32)) (n) ((130 : Int32)) (sf) hsf4) k
  have wd := fun {d : Jvm.Cond} (i : Nat) (h : tables_1[i]? = some d) => hw d (List.mem_of_getElem? h)
  obtain ⟨fs, hr, hrun, hended, hW, hsame⟩ := X0.leave (v := some (.int (0 : Int32))) (fun h => by rw [Bd.returns] at h; cases h)
  refine ⟨_, _, pre0 _ ?_, hrun, hended, _, _, rfl, ?_, ⟨_, rfl⟩, hW, hsame.mono (by decide) (by decide)⟩
  · refine s_iloadN X0 hx (D d4_0) rfl ?_
    refine s_iloadN X0 hx (D d4_1) rfl ?_
    refine s_ior X0 hx (D d4_2) (r := (130 : Int32)) (by decide) ?_
    refine s_iloadN X0 hx (D d4_3) rfl ?_
    refine s_ior X0 hx (D d4_4) rfl ?_
    refine s_ifNo X0 hx (D d4_5) ((if0 _ _).trans (flt (own_or (z := 0) hn : ¬ (((130 : Int32) ||| n) < (0 : Int32)))).1) ?_
    refine s_iloadN X0 hx (D d4_8) rfl ?_
    refine s_iloadN X0 hx (D d4_9) rfl ?_
    refine s_iloadN X0 hx (D d4_10) rfl ?_
    refine s_isub X0 hx (D d4_11) (r := (130 : Int32)) (by decide) ?_
    refine s_icmpYes X0 hx 23 (D d4_12) (flt (hn2 : ¬ ((130 : Int32) < n))).2.2.2 (of_decide_eq_true rfl) rfl ?_
    refine s_iloadN X0 hx (D d4_23) rfl ?_
    exact retI X0 hx Bd.returns (D d4_24) hr
  · show Q_rm_cfis Z n sf h0 n0 _ s₁.heap _
    rw [e0]
    exact ⟨rfl, N0, rfl⟩
theorem d3_0 : decode jdk_42_method_157_code 0 = .ok (.iload_n 0, 1) := by decide +kernel
theorem d3_1 : decode jdk_42_method_157_code 1 = .ok (.iload_n 1, 1) := by decide +kernel
theorem d3_2 : decode jdk_42_method_157_code 2 = .ok (.iload_n 2, 1) := by decide +kernel
theorem d3_3 : decode jdk_42_method_157_code 3 = .ok (.getstatic 1053, 3) := by decide +kernel
theorem d3_6 : decode jdk_42_method_157_code 6 = .ok (.invokestatic 1065, 3) := by decide +kernel
theorem d3_9 : decode jdk_42_method_157_code 9 = .ok (.ireturn, 1) := by decide +kernel
theorem pd_0 : parseMethodDescriptor "(IIILjava/util/function/BiFunction;)I" = some ⟨[.int, .int, .int, (.object "java/util/function/BiFunction")], some .int⟩ := by decide +kernel
theorem pn_2 : plainName "java/lang/String" = true := by first | (simp [plainName, overriddenIn]; done) | decide +kernel
theorem ef_rm_cboc (m : MethodId) (x0 : Int32) (x1 : Int32) (x2 : Int32) : entryFrame m #[(.int x0), (.int x1), (.int x2)] 3 = mkF m 0 #[.val (.int x0), .val (.int x1), .val (.int x2)] [] := by first | (simp [entryFrame, mkF, argsToLocals, Value.category]; done) | rfl
def Q_rm_cboc (Z : State) (n : Int32) (w_MD5 : Addr) (w_SHA384 : Addr) (w_SHA256 : Addr) (w_SHA1 : Addr) (w_SHA224 : Addr) (w_SHA512 : Addr) (cs : Int32) (sf : Value) (h0 : Heap) (n0 : Nat) (v : Option Value) (h : Heap) (L : List Loc) : Prop := v = some (.int (0 : Int32)) ∧ Fr n0 L ∧ h = h0
set_option maxRecDepth 65536 in
set_option maxHeartbeats 40000000 in
theorem rm_cboc (l : Launch) (Z : State) (a0 : Array Value) (hw : ∀ d ∈ tables_1, d.before a0 Z = true) (ws : List Jvm.Cond) (n : Int32) (w_MD5 : Addr) (w_SHA384 : Addr) (w_SHA256 : Addr) (w_SHA1 : Addr) (w_SHA224 : Addr) (w_SHA512 : Addr) (cs : Int32) (sf : Value) (h0 : Heap) (n0 : Nat) (O0 : Old Z n0 h0) (WZ : OWorld Z Z.heap w_MD5 w_SHA384 w_SHA256 w_SHA1 w_SHA224 w_SHA512 cs sf) (hn : ¬ n < 0) (hn2 : ¬ (130 : Int32) < n) :
    MetFree l (⟨"java/lang/String", "checkBoundsOffCount", "(III)I"⟩ : MethodName) (head1 (Jvm.Cond.code (⟨"java/lang/String", "checkBoundsOffCount", "(III)I"⟩ : MethodName) jdk_42_method_157_code 3 (some .int) :: ws) ({ frames := 1, cells := 0, slots := 0, locals := 15 } : Room)) (fun a U => a = #[(.int (0 : Int32)), (.int n), (.int (130 : Int32))] ∧ Z.Warmed39 U.vm ∧ U.heap = h0) (fun _ _ _ _ _ => True) (fun _ U o U' => ∃ v L, o = .returned v ∧ Q_rm_cboc Z n w_MD5 w_SHA384 w_SHA256 w_SHA1 w_SHA224 w_SHA512 cs sf h0 n0 v U'.heap L ∧ FrameEnd U o U' L ({ frames := 1, cells := 0, slots := 0, locals := 15 } : Room).cells ({ frames := 1, cells := 0, slots := 0, locals := 15 } : Room).slots) := by
  refine MetFree.of_bodySF (plainFor_of_name pn_2) hisR ?_
  intro p e s m args below meth c s₁ Bd hml0 hP hK
  obtain ⟨rfl, hZ, hh⟩ := hP
  have hx := Bd.exec
  have hby := Bd.bytes
  have D := fun {pc : Nat} {r : Except ClassFile.DecodeError (ClassFile.Instr × Nat)} (q : decode jdk_42_method_157_code pc = r) => hb (pc := pc) hby q
  have hml : c.maxLocals = 3 := hml0
  have hown : s.vm.findClass "java/lang/String" = some m.cls := findClass_of_methodNamed Bd.named
  have hnm := (name_of_methodNamed Bd.named Bd.method).1
  have X0 : Stand p l e ({ frames := 1, cells := 0, slots := 0, locals := 15 } : Room) s m #[(.int (0 : Int32)), (.int n), (.int (130 : Int32))] below meth c s₁ [] 0 0 := Stand.of_body Bd
  have e0 : s₁.heap = h0 := by rw [← hh, Bd.state]; rfl
  have N0 := Fr.nil n0
  have pre0 : ∀ t, Steps p.tables e below (s₁.setTop (mkF m 0 #[.val (.int (0 : Int32)), .val (.int n), .val (.int (130 : Int32))] [])) t → Steps p.tables e below (s₁.setTop (entryFrame m #[(.int (0 : Int32)), (.int n), (.int (130 : Int32))] 3)) t := fun t k => castTop (ef_rm_cboc m ((0 : Int32)) (n) ((130 : Int32))) k
  have wd := fun {d : Jvm.Cond} (i : Nat) (h : tables_1[i]? = some d) => hw d (List.mem_of_getElem? h)
  obtain ⟨S_MD5, E_MD5, F_MD5_hexDigits, S_SHA384, E_SHA384, F_SHA384_hexDigits, S_SHA256, E_SHA256, F_SHA256_hexDigits, S_SHA1, E_SHA1, F_SHA1_hexDigits, S_SHA224, E_SHA224, F_SHA224_hexDigits, S_SHA512, E_SHA512, F_SHA512_hexDigits, S_cs, hcs, S_sf, hsf, hch⟩ := id WZ
  obtain ⟨T1, X1, e1, st1⟩ := getS2 X0 hx hZ hown (host := "") (Or.inl (wd 17 rfl)) Via.refl e0 (S_sf.ext O0.2) (g := (mkF m 3 #[.val (.int (0 : Int32)), .val (.int n), .val (.int (130 : Int32))] [(.int (130 : Int32)), (.int n), (.int (0 : Int32))])) rfl (D d3_3)
  obtain ⟨_, _, ⟨T2, L2, k2, n2⟩, -, X2, ⟨Lc2, hQ2, l2, y2, z2⟩, st2⟩ := Jvm.LawKit.callS X1 hx (y := (⟨"jdk/internal/util/Preconditions", "checkFromIndexSize", "(IIILjava/util/function/BiFunction;)I"⟩ : MethodName)) hown (mvT hZ (wd 19 rfl)) (mvT hZ (wd 20 rfl)) (mvT hZ (wd 18 rfl)) (mvT hZ (wd 21 rfl)) (by decide) (backOf (W := 0) (rm_cfis l Z a0 hw [] n sf h0 n0 O0 hn hn2 hsf) hZ (wd 21 rfl) (wd 18 rfl) (by decide) (by decide)) (g := (mkF m 6 #[.val (.int (0 : Int32)), .val (.int n), .val (.int (130 : Int32))] [sf, (.int (130 : Int32)), (.int n), (.int (0 : Int32))])) rfl (by rw [hml]; rfl) (argsL := [(.int (0 : Int32)), (.int n), (.int (130 : Int32)), sf]) (rest := []) (lenOf pd_0 rfl) rfl (by show 2 * 0 + _ ≤ _; exact Nat.le_of_eq rfl) (D d3_6) (fun _ _ => ⟨rfl, e1, (by decide : 0 + 0 ≤ _), (by decide : 0 + 0 ≤ _)⟩)
  dsimp only [Pt.U, Pt.locs, Pt.cells, Pt.slots] at X2 l2 y2 z2 st2 hQ2
  subst l2 y2 z2
  obtain ⟨rfl, N2q, e2⟩ := hQ2
  have N2 := Fr.app N0 N2q
  obtain ⟨fs, hr, hrun, hended, hW, hsame⟩ := X2.leave (v := some (.int (0 : Int32))) (fun h => by rw [Bd.returns] at h; cases h)
  refine ⟨_, _, pre0 _ ?_, hrun, hended, _, _, rfl, ?_, ⟨_, rfl⟩, hW, hsame.mono (by decide) (by decide)⟩
  · refine s_iloadN X0 hx (D d3_0) rfl ?_
    refine s_iloadN X0 hx (D d3_1) rfl ?_
    refine s_iloadN X0 hx (D d3_2) rfl ?_
    refine st1 _ ?_
    refine st2 _ ?_
    exact retI X2 hx Bd.returns (D d3_9) hr
  · show Q_rm_cboc Z n w_MD5 w_SHA384 w_SHA256 w_SHA1 w_SHA224 w_SHA512 cs sf h0 n0 _ T2.heap _
    rw [e2]
    exact ⟨rfl, N2, rfl⟩
theorem d2_0 : decode jdk_42_method_5_code 0 = .ok (.iload_n 1, 1) := by decide +kernel
theorem d2_1 : decode jdk_42_method_5_code 1 = .ok (.iload_n 2, 1) := by decide +kernel
theorem d2_2 : decode jdk_42_method_5_code 2 = .ok (.aload_n 0, 1) := by decide +kernel
theorem d2_3 : decode jdk_42_method_5_code 3 = .ok (.arraylength, 1) := by decide +kernel
theorem d2_4 : decode jdk_42_method_5_code 4 = .ok (.invokestatic 34, 3) := by decide +kernel
theorem d2_7 : decode jdk_42_method_5_code 7 = .ok (.pop, 1) := by decide +kernel
theorem d2_8 : decode jdk_42_method_5_code 8 = .ok (.aconst_null, 1) := by decide +kernel
theorem d2_9 : decode jdk_42_method_5_code 9 = .ok (.areturn, 1) := by decide +kernel
theorem pd_1 : parseMethodDescriptor "(III)I" = some ⟨[.int, .int, .int], some .int⟩ := by decide +kernel
theorem ef_rm_range (m : MethodId) (x0 : Addr) (x1 : Int32) (x2 : Int32) : entryFrame m #[(.ref x0), (.int x1), (.int x2)] 3 = mkF m 0 #[.val (.ref x0), .val (.int x1), .val (.int x2)] [] := by first | (simp [entryFrame, mkF, argsToLocals, Value.category]; done) | rfl
def Q_rm_range (Z : State) (a1 : Addr) (n : Int32) (kC : ClassId) (fF : Nat → Int32) (w_MD5 : Addr) (w_SHA384 : Addr) (w_SHA256 : Addr) (w_SHA1 : Addr) (w_SHA224 : Addr) (w_SHA512 : Addr) (cs : Int32) (sf : Value) (h0 : Heap) (n0 : Nat) (v : Option Value) (h : Heap) (L : List Loc) : Prop := v = some .null ∧ Fr n0 L ∧ h = h0
set_option maxRecDepth 65536 in
set_option maxHeartbeats 40000000 in
theorem rm_range (l : Launch) (Z : State) (a0 : Array Value) (hw : ∀ d ∈ tables_1, d.before a0 Z = true) (ws : List Jvm.Cond) (a1 : Addr) (n : Int32) (kC : ClassId) (fF : Nat → Int32) (w_MD5 : Addr) (w_SHA384 : Addr) (w_SHA256 : Addr) (w_SHA1 : Addr) (w_SHA224 : Addr) (w_SHA512 : Addr) (cs : Int32) (sf : Value) (h0 : Heap) (n0 : Nat) (O0 : Old Z n0 h0) (WZ : OWorld Z Z.heap w_MD5 w_SHA384 w_SHA256 w_SHA1 w_SHA224 w_SHA512 cs sf) (hn : ¬ n < 0) (hn2 : ¬ (130 : Int32) < n) (V_a1 : ArfC Z h0 a1 kC (130 : Int32) fF) :
    MetFree l (⟨"java/lang/String", "rangeCheck", "([CII)Ljava/lang/Void;"⟩ : MethodName) (head1 (Jvm.Cond.code (⟨"java/lang/String", "rangeCheck", "([CII)Ljava/lang/Void;"⟩ : MethodName) jdk_42_method_5_code 3 (some (.object "java/lang/Void")) :: ws) ({ frames := 2, cells := 0, slots := 0, locals := 29 } : Room)) (fun a U => a = #[(.ref a1), (.int (0 : Int32)), (.int n)] ∧ Z.Warmed39 U.vm ∧ U.heap = h0) (fun _ _ _ _ _ => True) (fun _ U o U' => ∃ v L, o = .returned v ∧ Q_rm_range Z a1 n kC fF w_MD5 w_SHA384 w_SHA256 w_SHA1 w_SHA224 w_SHA512 cs sf h0 n0 v U'.heap L ∧ FrameEnd U o U' L ({ frames := 2, cells := 0, slots := 0, locals := 29 } : Room).cells ({ frames := 2, cells := 0, slots := 0, locals := 29 } : Room).slots) := by
  refine MetFree.of_bodySF (plainFor_of_name pn_2) hisR ?_
  intro p e s m args below meth c s₁ Bd hml0 hP hK
  obtain ⟨rfl, hZ, hh⟩ := hP
  have hx := Bd.exec
  have hby := Bd.bytes
  have D := fun {pc : Nat} {r : Except ClassFile.DecodeError (ClassFile.Instr × Nat)} (q : decode jdk_42_method_5_code pc = r) => hb (pc := pc) hby q
  have hml : c.maxLocals = 3 := hml0
  have hown : s.vm.findClass "java/lang/String" = some m.cls := findClass_of_methodNamed Bd.named
  have hnm := (name_of_methodNamed Bd.named Bd.method).1
  have X0 : Stand p l e ({ frames := 2, cells := 0, slots := 0, locals := 29 } : Room) s m #[(.ref a1), (.int (0 : Int32)), (.int n)] below meth c s₁ [] 0 0 := Stand.of_body Bd
  have e0 : s₁.heap = h0 := by rw [← hh, Bd.state]; rfl
  have N0 := Fr.nil n0
  have pre0 : ∀ t, Steps p.tables e below (s₁.setTop (mkF m 0 #[.val (.ref a1), .val (.int (0 : Int32)), .val (.int n)] [])) t → Steps p.tables e below (s₁.setTop (entryFrame m #[(.ref a1), (.int (0 : Int32)), (.int n)] 3)) t := fun t k => castTop (ef_rm_range m (a1) ((0 : Int32)) (n)) k
  have wd := fun {d : Jvm.Cond} (i : Nat) (h : tables_1[i]? = some d) => hw d (List.mem_of_getElem? h)
  obtain ⟨S_MD5, E_MD5, F_MD5_hexDigits, S_SHA384, E_SHA384, F_SHA384_hexDigits, S_SHA256, E_SHA256, F_SHA256_hexDigits, S_SHA1, E_SHA1, F_SHA1_hexDigits, S_SHA224, E_SHA224, F_SHA224_hexDigits, S_SHA512, E_SHA512, F_SHA512_hexDigits, S_cs, hcs, S_sf, hsf, hch⟩ := id WZ
  obtain ⟨cl1, Ar1, -, S1, Nn1, -, -⟩ := id V_a1
  obtain ⟨_, _, ⟨T2, L2, k2, n2⟩, -, X2, ⟨Lc2, hQ2, l2, y2, z2⟩, st2⟩ := Jvm.LawKit.callS X0 hx (y := (⟨"java/lang/String", "checkBoundsOffCount", "(III)I"⟩ : MethodName)) hown (mvT hZ (wd 14 rfl)) (mvT hZ (wd 15 rfl)) (mvT hZ (wd 7 rfl)) (mvT hZ (wd 16 rfl)) (by decide) (backOf (W := 0) (rm_cboc l Z a0 hw [] n w_MD5 w_SHA384 w_SHA256 w_SHA1 w_SHA224 w_SHA512 cs sf h0 n0 O0 WZ hn hn2) hZ (wd 16 rfl) (wd 7 rfl) (by decide) (by decide)) (g := (mkF m 4 #[.val (.ref a1), .val (.int (0 : Int32)), .val (.int n)] [(.int (130 : Int32)), (.int n), (.int (0 : Int32))])) rfl (by rw [hml]; rfl) (argsL := [(.int (0 : Int32)), (.int n), (.int (130 : Int32))]) (rest := []) (lenOf pd_1 rfl) rfl (by show 2 * 0 + _ ≤ _; exact Nat.le_of_eq rfl) (D d2_4) (fun _ _ => ⟨rfl, e0, (by decide : 0 + 0 ≤ _), (by decide : 0 + 0 ≤ _)⟩)
  dsimp only [Pt.U, Pt.locs, Pt.cells, Pt.slots] at X2 l2 y2 z2 st2 hQ2
  subst l2 y2 z2
  obtain ⟨rfl, N2q, e2⟩ := hQ2
  have N2 := Fr.app N0 N2q
  obtain ⟨fs, hr, hrun, hended, hW, hsame⟩ := X2.leave (v := some .null) (fun h => by rw [Bd.returns] at h; cases h)
  refine ⟨_, _, pre0 _ ?_, hrun, hended, _, _, rfl, ?_, ⟨_, rfl⟩, hW, hsame.mono (by decide) (by decide)⟩
  · refine s_iloadN X0 hx (D d2_0) rfl ?_
    refine s_iloadN X0 hx (D d2_1) rfl ?_
    refine s_aloadN X0 hx (D d2_2) rfl rfl ?_
    refine X0.arraylength hx (by rw [e0]; exact Ar1.1) (State.isArrayOf_alike hZ.alike Ar1.2.1) (g := (mkF m 3 #[.val (.ref a1), .val (.int (0 : Int32)), .val (.int n)] [(.ref a1), (.int n), (.int (0 : Int32))])) rfl rfl (D d2_3) _ ?_
    rw [len_of S1 Nn1]
    refine st2 _ ?_
    refine s_pop X2 hx (D d2_7) rfl ?_
    refine s_aconstNull X2 hx (D d2_8) ?_
    jvm_step X2.here [X2.here.top, hx, (D d2_9), X2.method', Bd.returns, Value.isRef, FieldType.isReference]
    first | (intro acts; rw [hr _ acts rfl rfl rfl]) | rw [hr _ _ rfl rfl rfl]
    exact Steps.refl _
  · show Q_rm_range Z a1 n kC fF w_MD5 w_SHA384 w_SHA256 w_SHA1 w_SHA224 w_SHA512 cs sf h0 n0 _ T2.heap _
    rw [e2]
    exact ⟨rfl, N2, rfl⟩
theorem d11_0 : decode jdk_52_method_21_code 0 = .ok (.iconst 0, 1) := by decide +kernel
theorem d11_1 : decode jdk_52_method_21_code 1 = .ok (.istore 5, 2) := by decide +kernel
theorem d11_3 : decode jdk_52_method_21_code 3 = .ok (.iload 5, 2) := by decide +kernel
theorem d11_5 : decode jdk_52_method_21_code 5 = .ok (.iload 4, 2) := by decide +kernel
theorem d11_7 : decode jdk_52_method_21_code 7 = .ok (.if_icmp .ge 37, 3) := by decide +kernel
theorem d11_10 : decode jdk_52_method_21_code 10 = .ok (.aload_n 0, 1) := by decide +kernel
theorem d11_11 : decode jdk_52_method_21_code 11 = .ok (.iload_n 1, 1) := by decide +kernel
theorem d11_12 : decode jdk_52_method_21_code 12 = .ok (.caload, 1) := by decide +kernel
theorem d11_13 : decode jdk_52_method_21_code 13 = .ok (.istore 6, 2) := by decide +kernel
theorem d11_15 : decode jdk_52_method_21_code 15 = .ok (.iload 6, 2) := by decide +kernel
theorem d11_17 : decode jdk_52_method_21_code 17 = .ok (.sipush 255, 3) := by decide +kernel
theorem d11_20 : decode jdk_52_method_21_code 20 = .ok (.if_icmp .le 6, 3) := by decide +kernel
theorem d11_26 : decode jdk_52_method_21_code 26 = .ok (.aload_n 2, 1) := by decide +kernel
theorem d11_27 : decode jdk_52_method_21_code 27 = .ok (.iload_n 3, 1) := by decide +kernel
theorem d11_28 : decode jdk_52_method_21_code 28 = .ok (.iload 6, 2) := by decide +kernel
theorem d11_30 : decode jdk_52_method_21_code 30 = .ok (.i2b, 1) := by decide +kernel
theorem d11_31 : decode jdk_52_method_21_code 31 = .ok (.bastore, 1) := by decide +kernel
theorem d11_32 : decode jdk_52_method_21_code 32 = .ok (.iinc 1 1, 3) := by decide +kernel
theorem d11_35 : decode jdk_52_method_21_code 35 = .ok (.iinc 3 1, 3) := by decide +kernel
theorem d11_38 : decode jdk_52_method_21_code 38 = .ok (.iinc 5 1, 3) := by decide +kernel
theorem d11_41 : decode jdk_52_method_21_code 41 = .ok (.goto (-38), 3) := by decide +kernel
theorem d11_44 : decode jdk_52_method_21_code 44 = .ok (.iload 4, 2) := by decide +kernel
theorem d11_46 : decode jdk_52_method_21_code 46 = .ok (.ireturn, 1) := by decide +kernel
theorem pn_3 : plainName "java/lang/StringUTF16" = true := by first | (simp [plainName, overriddenIn]; done) | decide +kernel
theorem own_natof {i : Nat} (hi : i < 2147483648) : (Int32.ofNat i).toNatClampNeg = i ∧ ¬ Int32.ofNat i < 0 := by
  have e := Int32.toInt_ofNat_of_lt (n := i) (by omega)
  refine ⟨by show (Int32.ofNat i).toInt.toNat = i; rw [e]; rfl, ?_⟩
  rw [Int32.lt_iff_toInt_lt, e]
  have h0 : (0 : Int32).toInt = 0 := by decide
  omega
theorem own_inc (i : Nat) : Int32.ofNat i + Int32.ofInt 1 = Int32.ofNat (i + 1) := by rw [Int32.ofNat_add]; rfl
theorem ef_rm_cmp (m : MethodId) (x0 : Addr) (x1 : Int32) (x2 : Addr) (x3 x4 : Int32) : entryFrame m #[.ref x0, .int x1, .ref x2, .int x3, .int x4] 7 = mkF m 0 #[.val (.ref x0), .val (.int x1), .val (.ref x2), .val (.int x3), .val (.int x4), .unset, .unset] [] := by first | (simp [entryFrame, mkF, argsToLocals, Value.category]; done) | rfl
/-- the bytes of the first n chars -/
def BF (F : Nat → Int32) (k : Nat) : Nat → Int32 := fun j => if j < k then BV (F j) else 0
def Q_rm_cmp (Z : State) (a1 b : Addr) (n : Int32) (kC kB : ClassId) (fF : Nat → Int32) (h0 : Heap) (n0 : Nat) (v : Option Value) (h : Heap) (L : List Loc) : Prop := v = some (.int n) ∧ Fr n0 L ∧ Keep h0 h [b] ∧ ArfB Z h b kB n (BF fF n.toNatClampNeg)
set_option maxRecDepth 65536 in
set_option maxHeartbeats 40000000 in
theorem rm_cmp (l : Launch) (Z : State) (a0 : Array Value) (hw : ∀ d ∈ tables_1, d.before a0 Z = true) (ws : List Jvm.Cond) (a1 b : Addr) (n : Int32) (kC kB : ClassId) (fF : Nat → Int32) (h0 : Heap) (n0 : Nat) (O0 : Old Z n0 h0) (V_a1 : ArfC Z h0 a1 kC (130 : Int32) fF) (V_b : ArfB Z h0 b kB n (fun _ => 0)) (g_b : n0 ≤ b) (hab : a1 ≠ b) (hF : ∀ i, ¬ fF i < 0 ∧ ¬ (255 : Int32) < fF i) (hn2 : ¬ (130 : Int32) < n) :
    MetFree l (⟨"java/lang/StringUTF16", "compress", "([CI[BII)I"⟩ : MethodName) (head1 (Jvm.Cond.code (⟨"java/lang/StringUTF16", "compress", "([CI[BII)I"⟩ : MethodName) jdk_52_method_21_code 7 (some .int) :: ws) ({ frames := 0, cells := 0, slots := 0, locals := 0 } : Room)) (fun a U => a = #[.ref a1, .int (0 : Int32), .ref b, .int (0 : Int32), .int n] ∧ Z.Warmed39 U.vm ∧ U.heap = h0) (fun _ _ _ _ _ => True) (fun _ U o U' => ∃ v L, o = .returned v ∧ Q_rm_cmp Z a1 b n kC kB fF h0 n0 v U'.heap L ∧ FrameEnd U o U' L ({ frames := 0, cells := 0, slots := 0, locals := 0 } : Room).cells ({ frames := 0, cells := 0, slots := 0, locals := 0 } : Room).slots) := by
  refine MetFree.of_bodySF (plainFor_of_name pn_3) hisR ?_
  intro p e s m args below meth c s₁ Bd hml0 hP hK
  obtain ⟨rfl, hZ, hh⟩ := hP
  have hx := Bd.exec
  have hby := Bd.bytes
  have D := fun {pc : Nat} {r : Except ClassFile.DecodeError (ClassFile.Instr × Nat)} (q : decode jdk_52_method_21_code pc = r) => hb (pc := pc) hby q
  have hml : c.maxLocals = 7 := hml0
  have X0 : Stand p l e ({ frames := 0, cells := 0, slots := 0, locals := 0 } : Room) s m #[.ref a1, .int (0 : Int32), .ref b, .int (0 : Int32), .int n] below meth c s₁ [] 0 0 := Stand.of_body Bd
  have e0 : s₁.heap = h0 := by rw [← hh, Bd.state]; rfl
  obtain ⟨clA, AA, qA, SA, NA, HA, -⟩ := id V_a1
  obtain ⟨clB, AB, qB, SB, NB, HB, -⟩ := id V_b
  have hnn := (back32 NB).1
  have hn31 := (back32 NB).2
  have hA130 : clA.slots.size = 130 := SA
  have hnle : n.toNatClampNeg ≤ 130 := by
    have h1 : (130 : Int32).toInt = 130 := by decide
    rw [Int32.lt_iff_toInt_lt, h1] at hn2
    show n.toInt.toNat ≤ 130
    omega
  have hst0 : Steps p.tables e below (s₁.setTop (entryFrame m #[.ref a1, .int (0 : Int32), .ref b, .int (0 : Int32), .int n] 7)) (s₁.setTop (mkF m 3 #[.val (.ref a1), .val (.int (Int32.ofNat 0)), .val (.ref b), .val (.int (Int32.ofNat 0)), .val (.int n), .val (.int (Int32.ofNat 0)), .unset] [])) := by
    refine castTop (ef_rm_cmp m a1 0 b 0 n) ?_
    refine s_iconst X0 hx (0 : Int32) (D d11_0) rfl ?_
    refine s_istore X0 hx (D d11_1) (l' := #[.val (.ref a1), .val (.int (0 : Int32)), .val (.ref b), .val (.int (0 : Int32)), .val (.int n), .val (.int (0 : Int32)), .unset]) rfl ?_
    exact Steps.refl _
  have loop : ∀ (r i : Nat), i + r = n.toNatClampNeg → ∀ (T : State) (L : List Loc) (hT : Heap) (sl : Slot), (sl = .unset ∨ ∃ a : Int32, sl = .val (.int a)) → Stand p l e ({ frames := 0, cells := 0, slots := 0, locals := 0 } : Room) s m #[.ref a1, .int (0 : Int32), .ref b, .int (0 : Int32), .int n] below meth c T L 0 0 → T.heap = hT → Fr n0 L → Keep h0 hT [b] → ArfB Z hT b kB n (BF fF i) →
      Steps p.tables e below (s₁.setTop (entryFrame m #[.ref a1, .int (0 : Int32), .ref b, .int (0 : Int32), .int n] 7)) (T.setTop (mkF m 3 #[.val (.ref a1), .val (.int (Int32.ofNat i)), .val (.ref b), .val (.int (Int32.ofNat i)), .val (.int n), .val (.int (Int32.ofNat i)), sl] [])) →
      ∃ (T' : State) (L' : List Loc) (hT' : Heap) (sl' : Slot), Stand p l e ({ frames := 0, cells := 0, slots := 0, locals := 0 } : Room) s m #[.ref a1, .int (0 : Int32), .ref b, .int (0 : Int32), .int n] below meth c T' L' 0 0 ∧ T'.heap = hT' ∧ Fr n0 L' ∧ Keep h0 hT' [b] ∧ ArfB Z hT' b kB n (BF fF n.toNatClampNeg) ∧
        Steps p.tables e below (s₁.setTop (entryFrame m #[.ref a1, .int (0 : Int32), .ref b, .int (0 : Int32), .int n] 7)) (T'.setTop (mkF m 44 #[.val (.ref a1), .val (.int n), .val (.ref b), .val (.int n), .val (.int n), .val (.int n), sl'] [])) := by
    intro r
    induction r with
    | zero =>
      intro i hi T L hT sl hsl X eT NF K V hst
      have hin : Int32.ofNat i = n := by rw [show i = n.toNatClampNeg by omega]; exact hnn
      refine ⟨T, L, hT, sl, X, eT, NF, K, by rw [show n.toNatClampNeg = i by omega]; exact V, hst.trans ?_⟩
      rw [hin]
      refine s_iload X hx (D d11_3) rfl ?_
      refine s_iload X hx (D d11_5) rfl ?_
      refine s_icmpYes X hx 44 (D d11_7) ((flt (x := n) (y := n) Int32.lt_irrefl).2.1) (of_decide_eq_true rfl) rfl ?_
      exact Steps.refl _
    | succ r ih =>
      intro i hi T L hT sl hsl X eT NF K V hst
      have hlt : Int32.ofNat i < n := by rw [← hnn]; exact (Int32.ofNat_lt_ofNat (by omega) hn31).mpr (by omega)
      obtain ⟨hnat, hnn0⟩ := own_natof (i := i) (by omega)
      have VA : ArfC Z hT a1 kC (130 : Int32) fF := V_a1.keep K (ninS hab nin0)
      obtain ⟨cA, A2, q2, S2, N2, H2, -⟩ := id VA
      have hinA : ¬ (Int32.ofNat i < 0 ∨ cA.slots.size ≤ (Int32.ofNat i).toNatClampNeg) := by
        rw [hnat, show cA.slots.size = 130 from S2]; intro q; rcases q with q | q
        · exact hnn0 q
        · omega
      have hatA : cA.slots[(Int32.ofNat i).toNatClampNeg]? = some (.int (fF i)) := by rw [hnat]; exact H2 i (by rw [show cA.slots.size = 130 from S2]; omega)
      obtain ⟨cB, A3, q3, S3, N3, H3, -⟩ := id V
      have hinB : ¬ (Int32.ofNat i < 0 ∨ cB.slots.size ≤ (Int32.ofNat i).toNatClampNeg) := by
        rw [hnat, S3]; intro q; rcases q with q | q
        · exact hnn0 q
        · omega
      obtain ⟨T1, h1, X1, e1, W1, st1⟩ := stB X hx hZ eT A3 (j := Int32.ofNat i) (x := (fF i).toInt8.toInt32) hinB (g := (mkF m 31 #[.val (.ref a1), .val (.int (Int32.ofNat i)), .val (.ref b), .val (.int (Int32.ofNat i)), .val (.int n), .val (.int (Int32.ofNat i)), .val (.int (fF i))] [(.int (fF i).toInt8.toInt32), (.int (Int32.ofNat i)), (.ref b)])) rfl rfl (D d11_31)
      rw [hnat] at X1 W1
      have V1 : ArfB Z h1 b kB n (BF fF (i + 1)) := by
        have q := ArfB.set A3 q3 S3 N3 H3 W1
        have e : (fun j => if j = i then nar .byte ((fF i).toInt8.toInt32) else BF fF i j) = BF fF (i + 1) := by
          funext j
          unfold BF
          by_cases u : j = i
          · subst u; rw [if_pos rfl, if_pos (by omega)]; rfl
          · rw [if_neg u]
            by_cases v : j < i
            · rw [if_pos v, if_pos (by omega)]
            · rw [if_neg v, if_neg (by omega)]
        rw [e] at q; exact q
      refine ih (i + 1) (by omega) T1 _ h1 (.val (.int (fF i))) (Or.inr ⟨_, rfl⟩) X1 e1 (Fr.snoc X1 NF g_b) (K.wr W1 (Or.inl (List.mem_singleton.mpr rfl))) V1 (hst.trans ?_)
      refine s_iload X hx (D d11_3) rfl ?_
      refine s_iload X hx (D d11_5) rfl ?_
      refine s_icmpNo X hx (D d11_7) ((tlt hlt).2.1) ?_
      refine s_aloadN X hx (D d11_10) rfl rfl ?_
      refine s_iloadN X hx (D d11_11) rfl ?_
      refine X.caload hx (j := Int32.ofNat i) (v := .int (fF i)) (by rw [eT]; exact A2.1) (State.isArrayOf_alike hZ.alike A2.2.1) A2.2.2 hinA hatA (g := (mkF m 12 #[.val (.ref a1), .val (.int (Int32.ofNat i)), .val (.ref b), .val (.int (Int32.ofNat i)), .val (.int n), .val (.int (Int32.ofNat i)), sl] [(.int (Int32.ofNat i)), (.ref a1)])) rfl rfl (D d11_12) _ ?_
      refine s_istore X hx (D d11_13) (l' := #[.val (.ref a1), .val (.int (Int32.ofNat i)), .val (.ref b), .val (.int (Int32.ofNat i)), .val (.int n), .val (.int (Int32.ofNat i)), .val (.int (fF i))]) (by rcases hsl with h | ⟨a, h⟩ <;> subst h <;> rfl) ?_
      refine s_iload X hx (D d11_15) rfl ?_
      refine s_sipush X hx (255 : Int32) (D d11_17) rfl ?_
      refine s_icmpYes X hx 26 (D d11_20) ((flt (hF i).2).2.2.2) (of_decide_eq_true rfl) rfl ?_
      refine s_aloadN X hx (D d11_26) rfl rfl ?_
      refine s_iloadN X hx (D d11_27) rfl ?_
      refine s_iload X hx (D d11_28) rfl ?_
      refine s_i2b X hx (D d11_30) rfl ?_
      refine st1 _ ?_
      refine s_iinc X1 hx (D d11_32) rfl (own_inc i) (l' := #[.val (.ref a1), .val (.int (Int32.ofNat (i + 1))), .val (.ref b), .val (.int (Int32.ofNat i)), .val (.int n), .val (.int (Int32.ofNat i)), .val (.int (fF i))]) rfl ?_
      refine s_iinc X1 hx (D d11_35) rfl (own_inc i) (l' := #[.val (.ref a1), .val (.int (Int32.ofNat (i + 1))), .val (.ref b), .val (.int (Int32.ofNat (i + 1))), .val (.int n), .val (.int (Int32.ofNat i)), .val (.int (fF i))]) rfl ?_
      refine s_iinc X1 hx (D d11_38) rfl (own_inc i) (l' := #[.val (.ref a1), .val (.int (Int32.ofNat (i + 1))), .val (.ref b), .val (.int (Int32.ofNat (i + 1))), .val (.int n), .val (.int (Int32.ofNat (i + 1))), .val (.int (fF i))]) rfl ?_
      refine s_goto X1 hx 3 (D d11_41) (of_decide_eq_true rfl) rfl ?_
      exact Steps.refl _
  have hB0 : ArfB Z h0 b kB n (BF fF 0) := by
    have e : (fun _ => (0 : Int32)) = BF fF 0 := by funext j; unfold BF; rw [if_neg (by omega)]
    rw [← e]; exact V_b
  obtain ⟨T9, L9, h9, sl9, X9, e9, N9, K9, V9, st9⟩ := loop n.toNatClampNeg 0 (by omega) s₁ [] h0 .unset (Or.inl rfl) X0 e0 (Fr.nil n0) (Keep.refl h0 [b]) hB0 hst0
  obtain ⟨fs, hr, hrun, hended, hW, hsame⟩ := X9.leave (v := some (.int n)) (fun h => by rw [Bd.returns] at h; cases h)
  refine ⟨_, _, st9.trans ?_, hrun, hended, _, _, rfl, ?_, ⟨_, rfl⟩, hW, hsame.mono (by decide) (by decide)⟩
  · refine s_iload X9 hx (D d11_44) rfl ?_
    exact retI X9 hx Bd.returns (D d11_46) hr
  · show Q_rm_cmp Z a1 b n kC kB fF h0 n0 _ T9.heap _
    rw [e9]
    exact ⟨rfl, N9, K9, V9⟩
theorem own_le130 {n : Int32} (h : ¬ (130 : Int32) < n) : n.toNatClampNeg ≤ 130 := by
  have h1 : (130 : Int32).toInt = 130 := by decide
  rw [Int32.lt_iff_toInt_lt, h1] at h
  show n.toInt.toNat ≤ 130
  omega
theorem own_bnil {Z : State} {h : Heap} {a : Addr} {k : ClassId} {n : Int32} {d : Value} {F : Nat → Int32} (hn : n = 0) (A : Arv Z h a k .byte (0 : Int32) [] d) : ArfB Z h a k n F := by
  subst hn
  obtain ⟨c, A, q1, q2, q3, -, -⟩ := A
  refine ⟨c, A, q1, q2, q3, fun i hi => ?_, trivial⟩
  rw [q2] at hi
  exact absurd hi (Nat.not_lt_zero i)
theorem own_nev {Z : State} {h : Heap} {t a b : Addr} {C n d : String} (F : Fld Z h t C n d .null) (G : Fld Z h a C n d (.ref b)) : a ≠ t := fun e => by
  subst e
  cases own_inj F G
theorem d10_0 : decode jdk_52_method_16_code 0 = .ok (.iload_n 2, 1) := by decide +kernel
theorem d10_1 : decode jdk_52_method_16_code 1 = .ok (.newarray .byte, 2) := by decide +kernel
theorem d10_3 : decode jdk_52_method_16_code 3 = .ok (.astore_n 3, 1) := by decide +kernel
theorem d10_4 : decode jdk_52_method_16_code 4 = .ok (.aload_n 0, 1) := by decide +kernel
theorem d10_5 : decode jdk_52_method_16_code 5 = .ok (.iload_n 1, 1) := by decide +kernel
theorem d10_6 : decode jdk_52_method_16_code 6 = .ok (.aload_n 3, 1) := by decide +kernel
theorem d10_7 : decode jdk_52_method_16_code 7 = .ok (.iconst 0, 1) := by decide +kernel
theorem d10_8 : decode jdk_52_method_16_code 8 = .ok (.iload_n 2, 1) := by decide +kernel
theorem d10_9 : decode jdk_52_method_16_code 9 = .ok (.invokestatic 115, 3) := by decide +kernel
theorem d10_12 : decode jdk_52_method_16_code 12 = .ok (.istore 4, 2) := by decide +kernel
theorem d10_14 : decode jdk_52_method_16_code 14 = .ok (.iload 4, 2) := by decide +kernel
theorem d10_16 : decode jdk_52_method_16_code 16 = .ok (.iload_n 2, 1) := by decide +kernel
theorem d10_17 : decode jdk_52_method_16_code 17 = .ok (.if_icmp .eq 40, 3) := by decide +kernel
theorem d10_57 : decode jdk_52_method_16_code 57 = .ok (.aload_n 3, 1) := by decide +kernel
theorem d10_58 : decode jdk_52_method_16_code 58 = .ok (.areturn, 1) := by decide +kernel
theorem pd_2 : parseMethodDescriptor "([CI[BII)I" = some ⟨[(.array .char), .int, (.array .byte), .int, .int], some .int⟩ := by decide +kernel
theorem ef_rm_compress (m : MethodId) (x0 : Addr) (x1 : Int32) (x2 : Int32) : entryFrame m #[(.ref x0), (.int x1), (.int x2)] 6 = mkF m 0 #[.val (.ref x0), .val (.int x1), .val (.int x2), .unset, .unset, .unset] [] := by first | (simp [entryFrame, mkF, argsToLocals, Value.category]; done) | rfl
def Q_rm_compress (Z : State) (a1 : Addr) (n : Int32) (kC : ClassId) (fF : Nat → Int32) (w_MD5 : Addr) (w_SHA384 : Addr) (w_SHA256 : Addr) (w_SHA1 : Addr) (w_SHA224 : Addr) (w_SHA512 : Addr) (cs : Int32) (sf : Value) (h0 : Heap) (n0 : Nat) (v : Option Value) (h : Heap) (L : List Loc) : Prop := ∃ (r : Addr) (kr : ClassId), v = some (.ref r) ∧ Fr n0 L ∧ Keep h0 h [] ∧ h0.size ≤ r ∧ ArfB Z h r kr n (BF fF n.toNatClampNeg)
set_option maxRecDepth 65536 in
set_option maxHeartbeats 40000000 in
theorem rm_compress (l : Launch) (Z : State) (a0 : Array Value) (hw : ∀ d ∈ tables_1, d.before a0 Z = true) (ws : List Jvm.Cond) (a1 : Addr) (n : Int32) (kC : ClassId) (fF : Nat → Int32) (w_MD5 : Addr) (w_SHA384 : Addr) (w_SHA256 : Addr) (w_SHA1 : Addr) (w_SHA224 : Addr) (w_SHA512 : Addr) (cs : Int32) (sf : Value) (h0 : Heap) (n0 : Nat) (O0 : Old Z n0 h0) (WZ : OWorld Z Z.heap w_MD5 w_SHA384 w_SHA256 w_SHA1 w_SHA224 w_SHA512 cs sf) (hF : ∀ i, ¬ fF i < 0 ∧ ¬ (255 : Int32) < fF i) (hn : ¬ n < 0) (hn2 : ¬ (130 : Int32) < n) (V_a1 : ArfC Z h0 a1 kC (130 : Int32) fF) :
    MetFree l (⟨"java/lang/StringUTF16", "compress", "([CII)[B"⟩ : MethodName) (head1 (Jvm.Cond.code (⟨"java/lang/StringUTF16", "compress", "([CII)[B"⟩ : MethodName) jdk_52_method_16_code 6 (some (.array .byte)) :: ws) ({ frames := 1, cells := 1, slots := 130, locals := 18 } : Room)) (fun a U => a = #[(.ref a1), (.int (0 : Int32)), (.int n)] ∧ Z.Warmed39 U.vm ∧ U.heap = h0) (fun _ _ _ _ _ => True) (fun _ U o U' => ∃ v L, o = .returned v ∧ Q_rm_compress Z a1 n kC fF w_MD5 w_SHA384 w_SHA256 w_SHA1 w_SHA224 w_SHA512 cs sf h0 n0 v U'.heap L ∧ FrameEnd U o U' L ({ frames := 1, cells := 1, slots := 130, locals := 18 } : Room).cells ({ frames := 1, cells := 1, slots := 130, locals := 18 } : Room).slots) := by
  refine MetFree.of_bodySF (plainFor_of_name pn_3) hisR ?_
  intro p e s m args below meth c s₁ Bd hml0 hP hK
  obtain ⟨rfl, hZ, hh⟩ := hP
  have hx := Bd.exec
  have hby := Bd.bytes
  have D := fun {pc : Nat} {r : Except ClassFile.DecodeError (ClassFile.Instr × Nat)} (q : decode jdk_52_method_16_code pc = r) => hb (pc := pc) hby q
  have hml : c.maxLocals = 6 := hml0
  have hown : s.vm.findClass "java/lang/StringUTF16" = some m.cls := findClass_of_methodNamed Bd.named
  have hnm := (name_of_methodNamed Bd.named Bd.method).1
  have X0 : Stand p l e ({ frames := 1, cells := 1, slots := 130, locals := 18 } : Room) s m #[(.ref a1), (.int (0 : Int32)), (.int n)] below meth c s₁ [] 0 0 := Stand.of_body Bd
  have e0 : s₁.heap = h0 := by rw [← hh, Bd.state]; rfl
  have N0 := Fr.nil n0
  have pre0 : ∀ t, Steps p.tables e below (s₁.setTop (mkF m 0 #[.val (.ref a1), .val (.int (0 : Int32)), .val (.int n), .unset, .unset, .unset] [])) t → Steps p.tables e below (s₁.setTop (entryFrame m #[(.ref a1), (.int (0 : Int32)), (.int n)] 6)) t := fun t k => castTop (ef_rm_compress m (a1) ((0 : Int32)) (n)) k
  have wd := fun {d : Jvm.Cond} (i : Nat) (h : tables_1[i]? = some d) => hw d (List.mem_of_getElem? h)
  obtain ⟨S_MD5, E_MD5, F_MD5_hexDigits, S_SHA384, E_SHA384, F_SHA384_hexDigits, S_SHA256, E_SHA256, F_SHA256_hexDigits, S_SHA1, E_SHA1, F_SHA1_hexDigits, S_SHA224, E_SHA224, F_SHA224_hexDigits, S_SHA512, E_SHA512, F_SHA512_hexDigits, S_cs, hcs, S_sf, hsf, hch⟩ := id WZ
  obtain ⟨T1, h1, fk1, X1, e1, E1, A1, st1⟩ := newP X0 hx hZ (wd 30 rfl) e0 (g := (mkF m 1 #[.val (.ref a1), .val (.int (0 : Int32)), .val (.int n), .unset, .unset, .unset] [(.int n)])) rfl (D d10_1) rfl hn (cap := 130) (own_le130 hn2) (by decide) (by decide) (by decide)
  obtain ⟨fa1, g1⟩ : ∃ z, z = h0.size := ⟨_, rfl⟩
  rw [← g1] at A1 st1
  have gn_fa1 : n0 ≤ fa1 := Nat.le_trans (own_oldsz O0) (Nat.le_of_eq g1.symm)
  have gh_fa1 : h0.size ≤ fa1 := Nat.le_trans (Keep.refl h0 []).1 (Nat.le_of_eq g1.symm)
  have Zn1 : n0 ≤ h1.size := Nat.le_trans (own_oldsz O0) E1.1
  have K1 : Keep h0 h1 [] := (Keep.refl h0 []).ext E1
  have O1 := O0.ext E1
  have V1 : Arv Z h1 fa1 fk1 .byte n [] (.int (0 : Int32)) := (Arv.new A1 hn).pad (pad_rep [] (.int (0 : Int32)) 0)
  have Vf2 : ArfB Z h1 fa1 fk1 n (fun _ => (0 : Int32)) := ArfB.of V1
  have f3 := (V_a1.ext E1)
  obtain ⟨_, _, ⟨T4, L4, k4, n4⟩, -, X4, ⟨Lc4, hQ4, l4, y4, z4⟩, st4⟩ := Jvm.LawKit.callS X1 hx (y := (⟨"java/lang/StringUTF16", "compress", "([CI[BII)I"⟩ : MethodName)) hown (mvT hZ (wd 61 rfl)) (mvT hZ (wd 62 rfl)) (mvT hZ (wd 59 rfl)) (mvT hZ (wd 63 rfl)) (by decide) (backOf (W := 0) (rm_cmp l Z a0 hw [] a1 fa1 n kC fk1 fF h1 n0 O1 f3 Vf2 gn_fa1 (Nat.ne_of_lt (Nat.lt_of_lt_of_le V_a1.lt (Nat.le_of_eq g1.symm))) hF hn2) hZ (wd 63 rfl) (wd 59 rfl) (by decide) (by decide)) (g := (mkF m 9 #[.val (.ref a1), .val (.int (0 : Int32)), .val (.int n), .val (.ref fa1), .unset, .unset] [(.int n), (.int (0 : Int32)), (.ref fa1), (.int (0 : Int32)), (.ref a1)])) rfl (by rw [hml]; rfl) (argsL := [(.ref a1), (.int (0 : Int32)), (.ref fa1), (.int (0 : Int32)), (.int n)]) (rest := []) (lenOf pd_2 rfl) rfl (by show 2 * 0 + _ ≤ _; exact Nat.le_of_eq rfl) (D d10_9) (fun _ _ => ⟨rfl, e1, (by decide : 1 + 0 ≤ _), (by decide : 130 + 0 ≤ _)⟩)
  dsimp only [Pt.U, Pt.locs, Pt.cells, Pt.slots] at X4 l4 y4 z4 st4 hQ4
  subst l4 y4 z4
  obtain ⟨rfl, N4q, K4, Q4_0⟩ := hQ4
  have O4 := O1.keep K4 (allS gn_fa1 all0)
  have KK4 : Keep h0 T4.heap [] := K1.trans K4 (allS (Or.inr gh_fa1) all0)
  have N4 := Fr.app N0 N4q
  obtain ⟨fs, hr, hrun, hended, hW, hsame⟩ := X4.leave (v := some (.ref fa1)) (fun h => by rw [Bd.returns] at h; cases h)
  refine ⟨_, _, pre0 _ ?_, hrun, hended, _, _, rfl, ?_, ⟨_, rfl⟩, hW, hsame.mono (by decide) (by decide)⟩
  · refine s_iloadN X0 hx (D d10_0) rfl ?_
    refine st1 _ ?_
    refine s_astoreN X1 hx (D d10_3) rfl (l' := #[.val (.ref a1), .val (.int (0 : Int32)), .val (.int n), .val (.ref fa1), .unset, .unset]) rfl ?_
    refine s_aloadN X1 hx (D d10_4) rfl rfl ?_
    refine s_iloadN X1 hx (D d10_5) rfl ?_
    refine s_aloadN X1 hx (D d10_6) rfl rfl ?_
    refine s_iconst X1 hx (0 : Int32) (D d10_7) rfl ?_
    refine s_iloadN X1 hx (D d10_8) rfl ?_
    refine st4 _ ?_
    refine s_istore X4 hx (D d10_12) (l' := #[.val (.ref a1), .val (.int (0 : Int32)), .val (.int n), .val (.ref fa1), .val (.int n), .unset]) rfl ?_
    refine s_iload X4 hx (D d10_14) rfl ?_
    refine s_iloadN X4 hx (D d10_16) rfl ?_
    refine s_icmpYes X4 hx 57 (D d10_17) (teq (rfl : n = n)).1 (of_decide_eq_true rfl) rfl ?_
    refine s_aloadN X4 hx (D d10_57) rfl rfl ?_
    jvm_step X4.here [X4.here.top, hx, (D d10_58), X4.method', Bd.returns, Value.isRef, FieldType.isReference]
    first | (intro acts; rw [hr _ acts rfl rfl rfl]) | rw [hr _ _ rfl rfl rfl]
    exact Steps.refl _
  · show Q_rm_compress Z a1 n kC fF w_MD5 w_SHA384 w_SHA256 w_SHA1 w_SHA224 w_SHA512 cs sf h0 n0 _ T4.heap _
    exact ⟨fa1, fk1, rfl, N4, KK4, gh_fa1, Q4_0⟩
theorem d12_0 : decode jdk_52_method_15_code 0 = .ok (.iload_n 1, 1) := by decide +kernel
theorem d12_1 : decode jdk_52_method_15_code 1 = .ok (.aload_n 0, 1) := by decide +kernel
theorem d12_2 : decode jdk_52_method_15_code 2 = .ok (.arraylength, 1) := by decide +kernel
theorem d12_3 : decode jdk_52_method_15_code 3 = .ok (.isub, 1) := by decide +kernel
theorem d12_4 : decode jdk_52_method_15_code 4 = .ok (.bipush 31, 2) := by decide +kernel
theorem d12_6 : decode jdk_52_method_15_code 6 = .ok (.iushr, 1) := by decide +kernel
theorem d12_7 : decode jdk_52_method_15_code 7 = .ok (.i2b, 1) := by decide +kernel
theorem d12_8 : decode jdk_52_method_15_code 8 = .ok (.ireturn, 1) := by decide +kernel
theorem ef_rm_cfal (m : MethodId) (x0 : Addr) (x1 : Int32) : entryFrame m #[(.ref x0), (.int x1)] 2 = mkF m 0 #[.val (.ref x0), .val (.int x1)] [] := by first | (simp [entryFrame, mkF, argsToLocals, Value.category]; done) | rfl
def Q_rm_cfal (Z : State) (b : Addr) (n : Int32) (kB : ClassId) (fF : Nat → Int32) (w_MD5 : Addr) (w_SHA384 : Addr) (w_SHA256 : Addr) (w_SHA1 : Addr) (w_SHA224 : Addr) (w_SHA512 : Addr) (cs : Int32) (sf : Value) (h0 : Heap) (n0 : Nat) (v : Option Value) (h : Heap) (L : List Loc) : Prop := v = some (.int (0 : Int32)) ∧ Fr n0 L ∧ h = h0
set_option maxRecDepth 65536 in
set_option maxHeartbeats 40000000 in
theorem rm_cfal (l : Launch) (Z : State) (a0 : Array Value) (hw : ∀ d ∈ tables_1, d.before a0 Z = true) (ws : List Jvm.Cond) (b : Addr) (n : Int32) (kB : ClassId) (fF : Nat → Int32) (w_MD5 : Addr) (w_SHA384 : Addr) (w_SHA256 : Addr) (w_SHA1 : Addr) (w_SHA224 : Addr) (w_SHA512 : Addr) (cs : Int32) (sf : Value) (h0 : Heap) (n0 : Nat) (O0 : Old Z n0 h0) (WZ : OWorld Z Z.heap w_MD5 w_SHA384 w_SHA256 w_SHA1 w_SHA224 w_SHA512 cs sf) (V_b : ArfB Z h0 b kB n fF) :
    MetFree l (⟨"java/lang/StringUTF16", "coderFromArrayLen", "([BI)B"⟩ : MethodName) (head1 (Jvm.Cond.code (⟨"java/lang/StringUTF16", "coderFromArrayLen", "([BI)B"⟩ : MethodName) jdk_52_method_15_code 2 (some .byte) :: ws) ({ frames := 0, cells := 0, slots := 0, locals := 0 } : Room)) (fun a U => a = #[(.ref b), (.int n)] ∧ Z.Warmed39 U.vm ∧ U.heap = h0) (fun _ _ _ _ _ => True) (fun _ U o U' => ∃ v L, o = .returned v ∧ Q_rm_cfal Z b n kB fF w_MD5 w_SHA384 w_SHA256 w_SHA1 w_SHA224 w_SHA512 cs sf h0 n0 v U'.heap L ∧ FrameEnd U o U' L ({ frames := 0, cells := 0, slots := 0, locals := 0 } : Room).cells ({ frames := 0, cells := 0, slots := 0, locals := 0 } : Room).slots) := by
  refine MetFree.of_bodySF (plainFor_of_name pn_3) hisR ?_
  intro p e s m args below meth c s₁ Bd hml0 hP hK
  obtain ⟨rfl, hZ, hh⟩ := hP
  have hx := Bd.exec
  have hby := Bd.bytes
  have D := fun {pc : Nat} {r : Except ClassFile.DecodeError (ClassFile.Instr × Nat)} (q : decode jdk_52_method_15_code pc = r) => hb (pc := pc) hby q
  have hml : c.maxLocals = 2 := hml0
  have hown : s.vm.findClass "java/lang/StringUTF16" = some m.cls := findClass_of_methodNamed Bd.named
  have hnm := (name_of_methodNamed Bd.named Bd.method).1
  have X0 : Stand p l e ({ frames := 0, cells := 0, slots := 0, locals := 0 } : Room) s m #[(.ref b), (.int n)] below meth c s₁ [] 0 0 := Stand.of_body Bd
  have e0 : s₁.heap = h0 := by rw [← hh, Bd.state]; rfl
  have N0 := Fr.nil n0
  have pre0 : ∀ t, Steps p.tables e below (s₁.setTop (mkF m 0 #[.val (.ref b), .val (.int n)] [])) t → Steps p.tables e below (s₁.setTop (entryFrame m #[(.ref b), (.int n)] 2)) t := fun t k => castTop (ef_rm_cfal m (b) (n)) k
  have wd := fun {d : Jvm.Cond} (i : Nat) (h : tables_1[i]? = some d) => hw d (List.mem_of_getElem? h)
  obtain ⟨S_MD5, E_MD5, F_MD5_hexDigits, S_SHA384, E_SHA384, F_SHA384_hexDigits, S_SHA256, E_SHA256, F_SHA256_hexDigits, S_SHA1, E_SHA1, F_SHA1_hexDigits, S_SHA224, E_SHA224, F_SHA224_hexDigits, S_SHA512, E_SHA512, F_SHA512_hexDigits, S_cs, hcs, S_sf, hsf, hch⟩ := id WZ
  obtain ⟨cl1, Ar1, -, S1, Nn1, -, -⟩ := id V_b
  obtain ⟨fs, hr, hrun, hended, hW, hsame⟩ := X0.leave (v := some (.int (nar .byte ((((n - n).toUInt32 >>> ((31 : Int32) &&& 31).toUInt32).toInt32).toInt8.toInt32)))) (fun h => by rw [Bd.returns] at h; cases h)
  refine ⟨_, _, pre0 _ ?_, hrun, hended, _, _, rfl, ?_, ⟨_, rfl⟩, hW, hsame.mono (by decide) (by decide)⟩
  · refine s_iloadN X0 hx (D d12_0) rfl ?_
    refine s_aloadN X0 hx (D d12_1) rfl rfl ?_
    refine X0.arraylength hx (by rw [e0]; exact Ar1.1) (State.isArrayOf_alike hZ.alike Ar1.2.1) (g := (mkF m 2 #[.val (.ref b), .val (.int n)] [(.ref b), (.int n)])) rfl rfl (D d12_2) _ ?_
    rw [len_of S1 Nn1]
    refine s_isub X0 hx (D d12_3) rfl ?_
    refine s_bipush X0 hx (31 : Int32) (D d12_4) rfl ?_
    refine s_iushr X0 hx (D d12_6) rfl ?_
    refine s_i2b X0 hx (D d12_7) rfl ?_
    exact retN X0 hx (t := .byte) Bd.returns (by simp) (D d12_8) hr
  · show Q_rm_cfal Z b n kB fF w_MD5 w_SHA384 w_SHA256 w_SHA1 w_SHA224 w_SHA512 cs sf h0 n0 _ s₁.heap _
    rw [e0]
    exact ⟨by rw [Int32.sub_self]; rfl, N0, rfl⟩
theorem d5_0 : decode jdk_42_method_149_code 0 = .ok (.aload_n 0, 1) := by decide +kernel
theorem d5_1 : decode jdk_42_method_149_code 1 = .ok (.invokespecial 1, 3) := by decide +kernel
theorem d5_4 : decode jdk_42_method_149_code 4 = .ok (.iload_n 3, 1) := by decide +kernel
theorem d5_5 : decode jdk_42_method_149_code 5 = .ok (.ifCond .ne 22, 3) := by decide +kernel
theorem d5_8 : decode jdk_42_method_149_code 8 = .ok (.aload_n 0, 1) := by decide +kernel
theorem d5_9 : decode jdk_42_method_149_code 9 = .ok (.ldc 7, 2) := by decide +kernel
theorem d5_11 : decode jdk_42_method_149_code 11 = .ok (.getfield 9, 3) := by decide +kernel
theorem d5_14 : decode jdk_42_method_149_code 14 = .ok (.putfield 9, 3) := by decide +kernel
theorem d5_17 : decode jdk_42_method_149_code 17 = .ok (.aload_n 0, 1) := by decide +kernel
theorem d5_18 : decode jdk_42_method_149_code 18 = .ok (.ldc 7, 2) := by decide +kernel
theorem d5_20 : decode jdk_42_method_149_code 20 = .ok (.getfield 15, 3) := by decide +kernel
theorem d5_23 : decode jdk_42_method_149_code 23 = .ok (.putfield 15, 3) := by decide +kernel
theorem d5_26 : decode jdk_42_method_149_code 26 = .ok (.return_, 1) := by decide +kernel
theorem d5_27 : decode jdk_42_method_149_code 27 = .ok (.getstatic 38, 3) := by decide +kernel
theorem d5_30 : decode jdk_42_method_149_code 30 = .ok (.ifCond .eq 28, 3) := by decide +kernel
theorem d5_33 : decode jdk_42_method_149_code 33 = .ok (.aload_n 1, 1) := by decide +kernel
theorem d5_34 : decode jdk_42_method_149_code 34 = .ok (.iload_n 2, 1) := by decide +kernel
theorem d5_35 : decode jdk_42_method_149_code 35 = .ok (.iload_n 3, 1) := by decide +kernel
theorem d5_36 : decode jdk_42_method_149_code 36 = .ok (.invokestatic 177, 3) := by decide +kernel
theorem d5_39 : decode jdk_42_method_149_code 39 = .ok (.astore 5, 2) := by decide +kernel
theorem d5_41 : decode jdk_42_method_149_code 41 = .ok (.aload_n 0, 1) := by decide +kernel
theorem d5_42 : decode jdk_42_method_149_code 42 = .ok (.aload 5, 2) := by decide +kernel
theorem d5_44 : decode jdk_42_method_149_code 44 = .ok (.iload_n 3, 1) := by decide +kernel
theorem d5_45 : decode jdk_42_method_149_code 45 = .ok (.invokestatic 47, 3) := by decide +kernel
theorem d5_48 : decode jdk_42_method_149_code 48 = .ok (.putfield 15, 3) := by decide +kernel
theorem d5_51 : decode jdk_42_method_149_code 51 = .ok (.aload_n 0, 1) := by decide +kernel
theorem d5_52 : decode jdk_42_method_149_code 52 = .ok (.aload 5, 2) := by decide +kernel
theorem d5_54 : decode jdk_42_method_149_code 54 = .ok (.putfield 9, 3) := by decide +kernel
theorem d5_57 : decode jdk_42_method_149_code 57 = .ok (.return_, 1) := by decide +kernel
theorem pd_3 : parseMethodDescriptor "([CII)[B" = some ⟨[(.array .char), .int, .int], some (.array .byte)⟩ := by decide +kernel
theorem pd_4 : parseMethodDescriptor "([BI)B" = some ⟨[(.array .byte), .int], some .byte⟩ := by decide +kernel
theorem ef_rm_ctor4 (m : MethodId) (x0 : Addr) (x1 : Addr) (x2 : Int32) (x3 : Int32) : entryFrame m #[(.ref x0), (.ref x1), (.int x2), (.int x3), .null] 6 = mkF m 0 #[.val (.ref x0), .val (.ref x1), .val (.int x2), .val (.int x3), .val .null, .unset] [] := by first | (simp [entryFrame, mkF, argsToLocals, Value.category]; done) | rfl
def Q_rm_ctor4 (Z : State) (sx : Addr) (a1 : Addr) (n : Int32) (kC : ClassId) (fF : Nat → Int32) (w_MD5 : Addr) (w_SHA384 : Addr) (w_SHA256 : Addr) (w_SHA1 : Addr) (w_SHA224 : Addr) (w_SHA512 : Addr) (cs : Int32) (sf : Value) (h0 : Heap) (n0 : Nat) (v : Option Value) (h : Heap) (L : List Loc) : Prop := ∃ (r : (Addr)) (kr : ClassId), v = none ∧ Fr n0 L ∧ Keep h0 h [sx] ∧ Exa Z h sx "java/lang/String" ∧ Fld Z h sx "java/lang/String" "coder" "B" (.int (0 : Int32)) ∧ Fld Z h sx "java/lang/String" "value" "[B" (.ref r) ∧ ArfB Z h r kr n (BF fF n.toNatClampNeg)
set_option maxRecDepth 65536 in
set_option maxHeartbeats 40000000 in
theorem rm_ctor4 (l : Launch) (Z : State) (a0 : Array Value) (hw : ∀ d ∈ tables_1, d.before a0 Z = true) (ws : List Jvm.Cond) (sx : Addr) (a1 : Addr) (n : Int32) (kC : ClassId) (fF : Nat → Int32) (w_MD5 : Addr) (w_SHA384 : Addr) (w_SHA256 : Addr) (w_SHA1 : Addr) (w_SHA224 : Addr) (w_SHA512 : Addr) (cs : Int32) (sf : Value) (h0 : Heap) (n0 : Nat) (O0 : Old Z n0 h0) (WZ : OWorld Z Z.heap w_MD5 w_SHA384 w_SHA256 w_SHA1 w_SHA224 w_SHA512 cs sf) (E_sx : Exa Z h0 sx "java/lang/String") (F_sx_coder : Fld Z h0 sx "java/lang/String" "coder" "B" (.int (0 : Int32))) (F_sx_value : Fld Z h0 sx "java/lang/String" "value" "[B" .null) (g_sx : n0 ≤ sx) (hF : ∀ i, ¬ fF i < 0 ∧ ¬ (255 : Int32) < fF i) (hcw : Jvm.Lit.compactW.before a0 Z = true) (hn : ¬ n < 0) (hn2 : ¬ (130 : Int32) < n) (V_a1 : ArfC Z h0 a1 kC (130 : Int32) fF) :
    MetFree l (⟨"java/lang/String", "<init>", "([CIILjava/lang/Void;)V"⟩ : MethodName) (head1 (Jvm.Cond.code (⟨"java/lang/String", "<init>", "([CIILjava/lang/Void;)V"⟩ : MethodName) jdk_42_method_149_code 6 none :: ws) ({ frames := 2, cells := 2, slots := 130, locals := 35 } : Room)) (fun a U => a = #[(.ref sx), (.ref a1), (.int (0 : Int32)), (.int n), .null] ∧ Z.WarmedH U.vm ∧ U.heap = h0) (fun _ _ _ _ _ => True) (fun _ U o U' => ∃ v L, o = .returned v ∧ Q_rm_ctor4 Z sx a1 n kC fF w_MD5 w_SHA384 w_SHA256 w_SHA1 w_SHA224 w_SHA512 cs sf h0 n0 v U'.heap L ∧ ReturnedEndW U o U' L ({ frames := 2, cells := 2, slots := 130, locals := 35 } : Room).cells ({ frames := 2, cells := 2, slots := 130, locals := 35 } : Room).slots) := by
  refine MetFree.of_bodySF (plainFor_of_name pn_2) hisR ?_
  intro p e s m args below meth c s₁ Bd hml0 hP hK
  obtain ⟨rfl, hZH, hh⟩ := hP
  have hZ := hZH.wide
  have hx := Bd.exec
  have hby := Bd.bytes
  have D := fun {pc : Nat} {r : Except ClassFile.DecodeError (ClassFile.Instr × Nat)} (q : decode jdk_42_method_149_code pc = r) => hb (pc := pc) hby q
  have hml : c.maxLocals = 6 := hml0
  have hown : s.vm.findClass "java/lang/String" = some m.cls := findClass_of_methodNamed Bd.named
  have hnm := (name_of_methodNamed Bd.named Bd.method).1
  have X0 : Stand p l e ({ frames := 2, cells := 2, slots := 130, locals := 35 } : Room) s m #[(.ref sx), (.ref a1), (.int (0 : Int32)), (.int n), .null] below meth c s₁ [] 0 0 := Stand.of_body Bd
  have e0 : s₁.heap = h0 := by rw [← hh, Bd.state]; rfl
  have N0 := Fr.nil n0
  have pre0 : ∀ t, Steps p.tables e below (s₁.setTop (mkF m 0 #[.val (.ref sx), .val (.ref a1), .val (.int (0 : Int32)), .val (.int n), .val .null, .unset] [])) t → Steps p.tables e below (s₁.setTop (entryFrame m #[(.ref sx), (.ref a1), (.int (0 : Int32)), (.int n), .null] 6)) t := fun t k => castTop (ef_rm_ctor4 m (sx) (a1) ((0 : Int32)) (n)) k
  have wd := fun {d : Jvm.Cond} (i : Nat) (h : tables_1[i]? = some d) => hw d (List.mem_of_getElem? h)
  obtain ⟨S_MD5, E_MD5, F_MD5_hexDigits, S_SHA384, E_SHA384, F_SHA384_hexDigits, S_SHA256, E_SHA256, F_SHA256_hexDigits, S_SHA1, E_SHA1, F_SHA1_hexDigits, S_SHA224, E_SHA224, F_SHA224_hexDigits, S_SHA512, E_SHA512, F_SHA512_hexDigits, S_cs, hcs, S_sf, hsf, hch⟩ := id WZ
  obtain ⟨T1, X1, e1, st1⟩ := initO X0 hx hZ hown (wd 26 rfl) (wd 27 rfl) (wd 28 rfl) e0 (g := (mkF m 1 #[.val (.ref sx), .val (.ref a1), .val (.int (0 : Int32)), .val (.int n), .val .null, .unset] [(.ref sx)])) rfl (by rw [hml]; rfl) rfl (D d5_1) (by decide) (W := 0) (by show 2 * 0 + _ ≤ _; exact Nat.le_of_eq rfl) (by decide)
  have cs2 : Steps p.tables e below (s₁.setTop (mkF m 0 #[.val (.ref sx), .val (.ref a1), .val (.int (0 : Int32)), .val (.int n), .val .null, .unset] [])) (T1.setTop (mkF m 5 #[.val (.ref sx), .val (.ref a1), .val (.int (0 : Int32)), .val (.int n), .val .null, .unset] [(.int n)])) := (by
    refine s_aloadN X0 hx (D d5_0) rfl rfl ?_
    refine st1 _ ?_
    refine s_iloadN X1 hx (D d5_4) rfl ?_
    exact Steps.refl _)
  by_cases hc3 : n = (0 : Int32)
  · have cs4 : Steps p.tables e below (s₁.setTop (mkF m 0 #[.val (.ref sx), .val (.ref a1), .val (.int (0 : Int32)), .val (.int n), .val .null, .unset] [])) (T1.setTop (mkF m 9 #[.val (.ref sx), .val (.ref a1), .val (.int (0 : Int32)), .val (.int n), .val .null, .unset] [(.ref sx)])) := cs2.trans (by
      refine s_ifNo X1 hx (D d5_5) ((if0 _ _).trans (teq hc3).2) ?_
      refine s_aloadN X1 hx (D d5_8) rfl rfl ?_
      exact Steps.refl _)
    obtain ⟨la5, T5, h5, k15, lb5, lk5, X5, e5, E5, hS5, hk5, hZ5, hown5, Es5, Fc5, Fv5, Vb5, -, -, -, Lt5, st5⟩ := ldcSVL (s := s) (vm0 := s.vm) X1 hx hZ hown (wd 29 rfl) (fun d hd => hw d ((by decide +kernel : ∀ d ∈ Bundle.stringAtoms, d ∈ tables_1) d hd)) e1 ((State.WarmedH.refl s).since 0) (Nat.zero_le _) (Fr.nil _) (fun b cl q => by rw [hh]; exact O0.2.2 b cl q) (Ts := []) ⟨#[], by simp [hZH.interned_eq], fun q hq => by simp at hq⟩ (by simp) hch hcw (vs := []) (z := (0 : Int32)) ⟨by intro c hc; simp at hc, rfl⟩ (by decide) rfl (g := (mkF m 9 #[.val (.ref sx), .val (.ref a1), .val (.int (0 : Int32)), .val (.int n), .val .null, .unset] [(.ref sx)])) rfl (D d5_9) (n := 0) (by decide) (by decide) (by decide) (by decide)
    have hZ := hZ5
    have hown := hown5
    have Zn5 : n0 ≤ h5.size := Nat.le_trans (own_oldsz O0) E5.1
    have K5 : Keep h0 h5 [sx] := (Keep.refl h0 [sx]).ext E5
    have O5 := O0.ext E5
    have f6 := (F_sx_value.ext E5)
    have nt5 := own_nev f6 Fv5
    have f7 := (E_sx.ext E5)
    have nb5 := Exa.neArv f7 Vb5 (wd 6 rfl)
    obtain ⟨T8, X8, e8, st8⟩ := getF X5 hx hZ hown (host := "") (Or.inl (wd 35 rfl)) Via.refl e5 Fv5 (g := (mkF m 11 #[.val (.ref sx), .val (.ref a1), .val (.int (0 : Int32)), .val (.int n), .val .null, .unset] [(.ref la5), (.ref sx)])) rfl rfl (D d5_11)
    obtain ⟨T9, h9, X9, e9, W9, st9⟩ := putF X8 hx hZ hown (host := "") (Or.inl (wd 35 rfl)) Via.refl e8 f6 f7 (Or.inr ⟨(wd 31 rfl), rfl, hnm⟩) (wd 6 rfl) (ty := (.array .byte)) (by decide) rfl rfl (g := (mkF m 14 #[.val (.ref sx), .val (.ref a1), .val (.int (0 : Int32)), .val (.int n), .val .null, .unset] [(.ref lb5), (.ref sx)])) rfl rfl (D d5_14)
    have Fw9 : Fld Z h9 sx "java/lang/String" "value" "[B" (.ref lb5) := Fld.same W9 f6
    have N9 := Fr.snoc X9 N0 g_sx
    have Zn9 : n0 ≤ h9.size := Nat.le_trans Zn5 (Keep.of_wr W9).1
    have K9 : Keep h0 h9 [sx] := K5.wr W9 (Or.inl (List.mem_of_getElem? (i := 0) rfl))
    have O9 := O5.wr W9 g_sx
    have f10 := (Fc5.other W9 (Or.inl nt5))
    obtain ⟨T11, X11, e11, st11⟩ := getF X9 hx hZ hown (host := "") (Or.inl (wd 36 rfl)) Via.refl e9 f10 (g := (mkF m 20 #[.val (.ref sx), .val (.ref a1), .val (.int (0 : Int32)), .val (.int n), .val .null, .unset] [(.ref la5), (.ref sx)])) rfl rfl (D d5_20)
    have f13 := ((F_sx_coder.ext E5).other W9 (Or.inr (slot_ne (Or.inr (wd 32 rfl)) (Or.inr (wd 31 rfl)) (by decide) (t := .byte) (t' := (.array .byte)) (by decide) (by decide))))
    have f14 := (f7.wr W9)
    obtain ⟨T12, h12, X12, e12, W12, st12⟩ := putFN X11 hx hZ hown (wd 36 rfl) Via.refl e11 f13 f14 (Or.inr ⟨(wd 32 rfl), rfl, hnm⟩) (wd 6 rfl) (ty := .byte) (v' := (.int (0 : Int32))) (by decide) rfl rfl (g := (mkF m 23 #[.val (.ref sx), .val (.ref a1), .val (.int (0 : Int32)), .val (.int n), .val .null, .unset] [(.int (0 : Int32)), (.ref sx)])) rfl rfl (D d5_23)
    have Fw12 : Fld Z h12 sx "java/lang/String" "coder" "B" (.int (0 : Int32)) := Fld.same W12 f13
    have N12 := Fr.snoc X12 N9 g_sx
    have Zn12 : n0 ≤ h12.size := Nat.le_trans Zn9 (Keep.of_wr W12).1
    have K12 : Keep h0 h12 [sx] := K9.wr W12 (Or.inl (List.mem_of_getElem? (i := 0) rfl))
    have O12 := O9.wr W12 g_sx
    have f16 := ((Vb5.other W9 (Ne.symm nb5)).other W12 (Ne.symm nb5))
    have Vz15 : ArfB Z h12 lb5 lk5 n (BF fF n.toNatClampNeg) := own_bnil hc3 f16
    have f17 := (f14.wr W12)
    have f18 := (Fw9.other W12 (Or.inr (slot_ne (Or.inr (wd 31 rfl)) (Or.inr (wd 32 rfl)) (by decide) (t := (.array .byte)) (t' := .byte) (by decide) (by decide))))
    obtain ⟨fs, hr, hrun, hended, hRW⟩ := X12.leaveW hS5 (by rw [e12]; exact (Nat.le_trans (Nat.le_trans hk5 (Keep.of_wr W9).1) (Keep.of_wr W12).1)) (v := none) (fun _ => rfl)
    refine ⟨_, _, pre0 _ ?_, hrun, hended, _, _, rfl, ?_, hRW.1, hRW.2.1, hRW.2.2.1, hRW.2.2.2.mono (by decide) (by decide)⟩
    · refine cs4.trans ?_
      refine st5 _ ?_
      refine st8 _ ?_
      refine st9 _ ?_
      refine s_aloadN X9 hx (D d5_17) rfl rfl ?_
      refine ldcAgain (s := s) (vm0 := T5.vm) X9 hx hZ hown (wd 29 rfl) Lt5 (g := (mkF m 18 #[.val (.ref sx), .val (.ref a1), .val (.int (0 : Int32)), .val (.int n), .val .null, .unset] [(.ref sx)])) rfl (D d5_18) _ ?_
      refine st11 _ ?_
      refine st12 _ ?_
      exact X12.returnOut hx Bd.returns (D d5_26) hr
    · show Q_rm_ctor4 Z sx a1 n kC fF w_MD5 w_SHA384 w_SHA256 w_SHA1 w_SHA224 w_SHA512 cs sf h0 n0 _ T12.heap _
      rw [e12]
      exact ⟨lb5, lk5, rfl, N12, K12, f17, Fw12, f18, Vz15⟩
  · obtain ⟨T19, X19, e19, st19⟩ := getS2 X1 hx hZ hown (host := "") (Or.inl (wd 52 rfl)) Via.refl e1 (S_cs.ext O0.2) (g := (mkF m 27 #[.val (.ref sx), .val (.ref a1), .val (.int (0 : Int32)), .val (.int n), .val .null, .unset] [])) rfl (D d5_27)
    obtain ⟨_, _, ⟨T20, L20, k20, n20⟩, -, X20, ⟨Lc20, hQ20, l20, y20, z20⟩, st20⟩ := Jvm.LawKit.callS X19 hx (y := (⟨"java/lang/StringUTF16", "compress", "([CII)[B"⟩ : MethodName)) hown (mvT hZ (wd 57 rfl)) (mvT hZ (wd 58 rfl)) (mvT hZ (wd 59 rfl)) (mvT hZ (wd 60 rfl)) (by decide) (backOf (W := 0) (rm_compress l Z a0 hw [] a1 n kC fF w_MD5 w_SHA384 w_SHA256 w_SHA1 w_SHA224 w_SHA512 cs sf h0 n0 O0 WZ hF hn hn2 V_a1) hZ (wd 60 rfl) (wd 59 rfl) (by decide) (by decide)) (g := (mkF m 36 #[.val (.ref sx), .val (.ref a1), .val (.int (0 : Int32)), .val (.int n), .val .null, .unset] [(.int n), (.int (0 : Int32)), (.ref a1)])) rfl (by rw [hml]; rfl) (argsL := [(.ref a1), (.int (0 : Int32)), (.int n)]) (rest := []) (lenOf pd_3 rfl) rfl (by show 2 * 0 + _ ≤ _; exact Nat.le_of_eq rfl) (D d5_36) (fun _ _ => ⟨rfl, e19, (by decide : 0 + 1 ≤ _), (by decide : 0 + 130 ≤ _)⟩)
    dsimp only [Pt.U, Pt.locs, Pt.cells, Pt.slots] at X20 l20 y20 z20 st20 hQ20
    subst l20 y20 z20
    obtain ⟨r_20, kr_20, rfl, N20q, K20, gq_r_20, Q20_0⟩ := hQ20
    have gn_r_20 : n0 ≤ r_20 := Nat.le_trans (own_oldsz O0) gq_r_20
    have gh_r_20 : h0.size ≤ r_20 := Nat.le_trans (Keep.refl h0 [sx]).1 gq_r_20
    have O20 := O0.keep K20 all0
    have KK20 : Keep h0 T20.heap [sx] := (Keep.refl h0 [sx]).trans K20 all0
    have N20 := Fr.app N0 N20q
    obtain ⟨_, _, ⟨T21, L21, k21, n21⟩, -, X21, ⟨Lc21, hQ21, l21, y21, z21⟩, st21⟩ := Jvm.LawKit.callS X20 hx (y := (⟨"java/lang/StringUTF16", "coderFromArrayLen", "([BI)B"⟩ : MethodName)) hown (mvT hZ (wd 64 rfl)) (mvT hZ (wd 65 rfl)) (mvT hZ (wd 59 rfl)) (mvT hZ (wd 66 rfl)) (by decide) (backOf (W := 1) (rm_cfal l Z a0 hw [] r_20 n kr_20 (BF fF n.toNatClampNeg) w_MD5 w_SHA384 w_SHA256 w_SHA1 w_SHA224 w_SHA512 cs sf T20.heap n0 O20 WZ Q20_0) hZ (wd 66 rfl) (wd 59 rfl) (by decide) (by decide)) (g := (mkF m 45 #[.val (.ref sx), .val (.ref a1), .val (.int (0 : Int32)), .val (.int n), .val .null, .val (.ref r_20)] [(.int n), (.ref r_20), (.ref sx)])) rfl (by rw [hml]; rfl) (argsL := [(.ref r_20), (.int n)]) (rest := [(.ref sx)]) (lenOf pd_4 rfl) rfl (by show 2 * 0 + _ ≤ _; exact Nat.le_of_eq rfl) (D d5_45) (fun _ _ => ⟨rfl, rfl, (by decide : 1 + 0 ≤ _), (by decide : 130 + 0 ≤ _)⟩)
    dsimp only [Pt.U, Pt.locs, Pt.cells, Pt.slots] at X21 l21 y21 z21 st21 hQ21
    subst l21 y21 z21
    obtain ⟨rfl, N21q, e21⟩ := hQ21
    have N21 := Fr.app N20 N21q
    have f23 := (F_sx_coder.keep K20 nin0)
    have f24 := (E_sx.keep K20)
    obtain ⟨T22, h22, X22, e22, W22, st22⟩ := putFN X21 hx hZ hown (wd 36 rfl) Via.refl e21 f23 f24 (Or.inr ⟨(wd 32 rfl), rfl, hnm⟩) (wd 6 rfl) (ty := .byte) (v' := (.int (0 : Int32))) (by decide) rfl rfl (g := (mkF m 48 #[.val (.ref sx), .val (.ref a1), .val (.int (0 : Int32)), .val (.int n), .val .null, .val (.ref r_20)] [(.int (0 : Int32)), (.ref sx)])) rfl rfl (D d5_48)
    have Fw22 : Fld Z h22 sx "java/lang/String" "coder" "B" (.int (0 : Int32)) := Fld.same W22 f23
    have N22 := Fr.snoc X22 N21 g_sx
    have Zn22 : n0 ≤ h22.size := Nat.le_trans (own_oldsz O20) (Keep.of_wr W22).1
    have K22 : Keep h0 h22 [sx] := KK20.wr W22 (Or.inl (List.mem_of_getElem? (i := 0) rfl))
    have O22 := O20.wr W22 g_sx
    have f26 := ((F_sx_value.keep K20 nin0).other W22 (Or.inr (slot_ne (Or.inr (wd 31 rfl)) (Or.inr (wd 32 rfl)) (by decide) (t := (.array .byte)) (t' := .byte) (by decide) (by decide))))
    have f27 := (f24.wr W22)
    obtain ⟨T25, h25, X25, e25, W25, st25⟩ := putF X22 hx hZ hown (host := "") (Or.inl (wd 35 rfl)) Via.refl e22 f26 f27 (Or.inr ⟨(wd 31 rfl), rfl, hnm⟩) (wd 6 rfl) (ty := (.array .byte)) (by decide) rfl rfl (g := (mkF m 54 #[.val (.ref sx), .val (.ref a1), .val (.int (0 : Int32)), .val (.int n), .val .null, .val (.ref r_20)] [(.ref r_20), (.ref sx)])) rfl rfl (D d5_54)
    have Fw25 : Fld Z h25 sx "java/lang/String" "value" "[B" (.ref r_20) := Fld.same W25 f26
    have N25 := Fr.snoc X25 N22 g_sx
    have Zn25 : n0 ≤ h25.size := Nat.le_trans Zn22 (Keep.of_wr W25).1
    have K25 : Keep h0 h25 [sx] := K22.wr W25 (Or.inl (List.mem_of_getElem? (i := 0) rfl))
    have O25 := O22.wr W25 g_sx
    have f28 := (f27.wr W25)
    have f29 := (Fw22.other W25 (Or.inr (slot_ne (Or.inr (wd 32 rfl)) (Or.inr (wd 31 rfl)) (by decide) (t := .byte) (t' := (.array .byte)) (by decide) (by decide))))
    have f30 := ((Q20_0.other W22 (Ne.symm (Nat.ne_of_lt (Nat.lt_of_lt_of_le E_sx.lt gq_r_20)))).other W25 (Ne.symm (Nat.ne_of_lt (Nat.lt_of_lt_of_le E_sx.lt gq_r_20))))
    obtain ⟨fs, hr, hrun, hended, hW, hsame⟩ := X25.leave (v := none) (fun _ => rfl)
    refine ⟨_, _, pre0 _ ?_, hrun, hended, _, _, rfl, ?_, ReturnedEndW.of_narrow ⟨_, rfl⟩ hW (hsame.mono (by decide) (by decide))⟩
    · refine cs2.trans ?_
      refine s_ifYes X1 hx 27 (D d5_5) ((if0 _ _).trans (feq hc3).2) (of_decide_eq_true rfl) rfl ?_
      refine st19 _ ?_
      refine s_ifNo X19 hx (D d5_30) ((if0 _ _).trans (feq hcs).1) ?_
      refine s_aloadN X19 hx (D d5_33) rfl rfl ?_
      refine s_iloadN X19 hx (D d5_34) rfl ?_
      refine s_iloadN X19 hx (D d5_35) rfl ?_
      refine st20 _ ?_
      refine s_astore X20 hx (D d5_39) rfl (l' := #[.val (.ref sx), .val (.ref a1), .val (.int (0 : Int32)), .val (.int n), .val .null, .val (.ref r_20)]) rfl ?_
      refine s_aloadN X20 hx (D d5_41) rfl rfl ?_
      refine s_aload X20 hx (D d5_42) rfl rfl ?_
      refine s_iloadN X20 hx (D d5_44) rfl ?_
      refine st21 _ ?_
      refine st22 _ ?_
      refine s_aloadN X22 hx (D d5_51) rfl rfl ?_
      refine s_aload X22 hx (D d5_52) rfl rfl ?_
      refine st25 _ ?_
      exact X25.returnOut hx Bd.returns (D d5_57) hr
    · show Q_rm_ctor4 Z sx a1 n kC fF w_MD5 w_SHA384 w_SHA256 w_SHA1 w_SHA224 w_SHA512 cs sf h0 n0 _ T25.heap _
      rw [e25]
      exact ⟨r_20, kr_20, rfl, N25, K25, f28, f29, Fw25, f30⟩
theorem d1_0 : decode jdk_42_method_4_code 0 = .ok (.aload_n 0, 1) := by decide +kernel
theorem d1_1 : decode jdk_42_method_4_code 1 = .ok (.aload_n 1, 1) := by decide +kernel
theorem d1_2 : decode jdk_42_method_4_code 2 = .ok (.iload_n 2, 1) := by decide +kernel
theorem d1_3 : decode jdk_42_method_4_code 3 = .ok (.iload_n 3, 1) := by decide +kernel
theorem d1_4 : decode jdk_42_method_4_code 4 = .ok (.aload_n 1, 1) := by decide +kernel
theorem d1_5 : decode jdk_42_method_4_code 5 = .ok (.iload_n 2, 1) := by decide +kernel
theorem d1_6 : decode jdk_42_method_4_code 6 = .ok (.iload_n 3, 1) := by decide +kernel
theorem d1_7 : decode jdk_42_method_4_code 7 = .ok (.invokestatic 30, 3) := by decide +kernel
theorem d1_10 : decode jdk_42_method_4_code 10 = .ok (.invokespecial 27, 3) := by decide +kernel
theorem d1_13 : decode jdk_42_method_4_code 13 = .ok (.return_, 1) := by decide +kernel
theorem pd_5 : parseMethodDescriptor "([CII)Ljava/lang/Void;" = some ⟨[(.array .char), .int, .int], some (.object "java/lang/Void")⟩ := by decide +kernel
theorem pd_6 : parseMethodDescriptor "([CIILjava/lang/Void;)V" = some ⟨[(.array .char), .int, .int, (.object "java/lang/Void")], none⟩ := by decide +kernel
theorem ef_rm_ctor3 (m : MethodId) (x0 : Addr) (x1 : Addr) (x2 : Int32) (x3 : Int32) : entryFrame m #[(.ref x0), (.ref x1), (.int x2), (.int x3)] 4 = mkF m 0 #[.val (.ref x0), .val (.ref x1), .val (.int x2), .val (.int x3)] [] := by first | (simp [entryFrame, mkF, argsToLocals, Value.category]; done) | rfl
def Q_rm_ctor3 (Z : State) (sx : Addr) (a1 : Addr) (n : Int32) (kC : ClassId) (fF : Nat → Int32) (w_MD5 : Addr) (w_SHA384 : Addr) (w_SHA256 : Addr) (w_SHA1 : Addr) (w_SHA224 : Addr) (w_SHA512 : Addr) (cs : Int32) (sf : Value) (h0 : Heap) (n0 : Nat) (v : Option Value) (h : Heap) (L : List Loc) : Prop := ∃ (r : (Addr)) (kr : ClassId), v = none ∧ Fr n0 L ∧ Keep h0 h [sx] ∧ Exa Z h sx "java/lang/String" ∧ Fld Z h sx "java/lang/String" "coder" "B" (.int (0 : Int32)) ∧ Fld Z h sx "java/lang/String" "value" "[B" (.ref r) ∧ ArfB Z h r kr n (BF fF n.toNatClampNeg)
set_option maxRecDepth 65536 in
set_option maxHeartbeats 40000000 in
theorem rm_ctor3 (l : Launch) (Z : State) (a0 : Array Value) (hw : ∀ d ∈ tables_1, d.before a0 Z = true) (ws : List Jvm.Cond) (sx : Addr) (a1 : Addr) (n : Int32) (kC : ClassId) (fF : Nat → Int32) (w_MD5 : Addr) (w_SHA384 : Addr) (w_SHA256 : Addr) (w_SHA1 : Addr) (w_SHA224 : Addr) (w_SHA512 : Addr) (cs : Int32) (sf : Value) (h0 : Heap) (n0 : Nat) (O0 : Old Z n0 h0) (WZ : OWorld Z Z.heap w_MD5 w_SHA384 w_SHA256 w_SHA1 w_SHA224 w_SHA512 cs sf) (E_sx : Exa Z h0 sx "java/lang/String") (F_sx_coder : Fld Z h0 sx "java/lang/String" "coder" "B" (.int (0 : Int32))) (F_sx_value : Fld Z h0 sx "java/lang/String" "value" "[B" .null) (g_sx : n0 ≤ sx) (hF : ∀ i, ¬ fF i < 0 ∧ ¬ (255 : Int32) < fF i) (hcw : Jvm.Lit.compactW.before a0 Z = true) (hn : ¬ n < 0) (hn2 : ¬ (130 : Int32) < n) (V_a1 : ArfC Z h0 a1 kC (130 : Int32) fF) :
    MetFree l (⟨"java/lang/String", "<init>", "([CII)V"⟩ : MethodName) (head1 (Jvm.Cond.code (⟨"java/lang/String", "<init>", "([CII)V"⟩ : MethodName) jdk_42_method_4_code 4 none :: ws) ({ frames := 3, cells := 2, slots := 130, locals := 52 } : Room)) (fun a U => a = #[(.ref sx), (.ref a1), (.int (0 : Int32)), (.int n)] ∧ Z.WarmedH U.vm ∧ U.heap = h0) (fun _ _ _ _ _ => True) (fun _ U o U' => ∃ v L, o = .returned v ∧ Q_rm_ctor3 Z sx a1 n kC fF w_MD5 w_SHA384 w_SHA256 w_SHA1 w_SHA224 w_SHA512 cs sf h0 n0 v U'.heap L ∧ ReturnedEndW U o U' L ({ frames := 3, cells := 2, slots := 130, locals := 52 } : Room).cells ({ frames := 3, cells := 2, slots := 130, locals := 52 } : Room).slots) := by
  refine MetFree.of_bodySF (plainFor_of_name pn_2) hisR ?_
  intro p e s m args below meth c s₁ Bd hml0 hP hK
  obtain ⟨rfl, hZH, hh⟩ := hP
  have hZ := hZH.wide
  have hx := Bd.exec
  have hby := Bd.bytes
  have D := fun {pc : Nat} {r : Except ClassFile.DecodeError (ClassFile.Instr × Nat)} (q : decode jdk_42_method_4_code pc = r) => hb (pc := pc) hby q
  have hml : c.maxLocals = 4 := hml0
  have hown : s.vm.findClass "java/lang/String" = some m.cls := findClass_of_methodNamed Bd.named
  have hnm := (name_of_methodNamed Bd.named Bd.method).1
  have X0 : Stand p l e ({ frames := 3, cells := 2, slots := 130, locals := 52 } : Room) s m #[(.ref sx), (.ref a1), (.int (0 : Int32)), (.int n)] below meth c s₁ [] 0 0 := Stand.of_body Bd
  have e0 : s₁.heap = h0 := by rw [← hh, Bd.state]; rfl
  have N0 := Fr.nil n0
  have pre0 : ∀ t, Steps p.tables e below (s₁.setTop (mkF m 0 #[.val (.ref sx), .val (.ref a1), .val (.int (0 : Int32)), .val (.int n)] [])) t → Steps p.tables e below (s₁.setTop (entryFrame m #[(.ref sx), (.ref a1), (.int (0 : Int32)), (.int n)] 4)) t := fun t k => castTop (ef_rm_ctor3 m (sx) (a1) ((0 : Int32)) (n)) k
  have wd := fun {d : Jvm.Cond} (i : Nat) (h : tables_1[i]? = some d) => hw d (List.mem_of_getElem? h)
  obtain ⟨S_MD5, E_MD5, F_MD5_hexDigits, S_SHA384, E_SHA384, F_SHA384_hexDigits, S_SHA256, E_SHA256, F_SHA256_hexDigits, S_SHA1, E_SHA1, F_SHA1_hexDigits, S_SHA224, E_SHA224, F_SHA224_hexDigits, S_SHA512, E_SHA512, F_SHA512_hexDigits, S_cs, hcs, S_sf, hsf, hch⟩ := id WZ
  obtain ⟨_, _, ⟨T1, L1, k1, n1⟩, -, X1, ⟨Lc1, hQ1, l1, y1, z1⟩, st1⟩ := Jvm.LawKit.callS X0 hx (y := (⟨"java/lang/String", "rangeCheck", "([CII)Ljava/lang/Void;"⟩ : MethodName)) hown (mvT hZ (wd 11 rfl)) (mvT hZ (wd 12 rfl)) (mvT hZ (wd 7 rfl)) (mvT hZ (wd 13 rfl)) (by decide) (backOf (W := 4) (rm_range l Z a0 hw [] a1 n kC fF w_MD5 w_SHA384 w_SHA256 w_SHA1 w_SHA224 w_SHA512 cs sf h0 n0 O0 WZ hn hn2 V_a1) hZ (wd 13 rfl) (wd 7 rfl) (by decide) (by decide)) (g := (mkF m 7 #[.val (.ref sx), .val (.ref a1), .val (.int (0 : Int32)), .val (.int n)] [(.int n), (.int (0 : Int32)), (.ref a1), (.int n), (.int (0 : Int32)), (.ref a1), (.ref sx)])) rfl (by rw [hml]; rfl) (argsL := [(.ref a1), (.int (0 : Int32)), (.int n)]) (rest := [(.int n), (.int (0 : Int32)), (.ref a1), (.ref sx)]) (lenOf pd_5 rfl) rfl (by show 2 * 0 + _ ≤ _; exact Nat.le_of_eq rfl) (D d1_7) (fun _ _ => ⟨rfl, e0, (by decide : 0 + 0 ≤ _), (by decide : 0 + 0 ≤ _)⟩)
  dsimp only [Pt.U, Pt.locs, Pt.cells, Pt.slots] at X1 l1 y1 z1 st1 hQ1
  subst l1 y1 z1
  obtain ⟨rfl, N1q, e1⟩ := hQ1
  have N1 := Fr.app N0 N1q
  have cs3 : Steps p.tables e below (s₁.setTop (mkF m 0 #[.val (.ref sx), .val (.ref a1), .val (.int (0 : Int32)), .val (.int n)] [])) (T1.setTop (mkF m 10 #[.val (.ref sx), .val (.ref a1), .val (.int (0 : Int32)), .val (.int n)] [.null, (.int n), (.int (0 : Int32)), (.ref a1), (.ref sx)])) := (by
    refine s_aloadN X0 hx (D d1_0) rfl rfl ?_
    refine s_aloadN X0 hx (D d1_1) rfl rfl ?_
    refine s_iloadN X0 hx (D d1_2) rfl ?_
    refine s_iloadN X0 hx (D d1_3) rfl ?_
    refine s_aloadN X0 hx (D d1_4) rfl rfl ?_
    refine s_iloadN X0 hx (D d1_5) rfl ?_
    refine s_iloadN X0 hx (D d1_6) rfl ?_
    refine st1 _ ?_
    exact Steps.refl _)
  obtain ⟨_, _, ⟨T2, L2, k2, n2⟩, -, X2, hS2, hg2, ⟨Lc2, hQ2, l2, y2, z2⟩, st2⟩ := X1.specialBackS hx (y := (⟨"java/lang/String", "<init>", "([CIILjava/lang/Void;)V"⟩ : MethodName)) rfl hown (mvT hZ (wd 22 rfl)) (mvT hZ (wd 23 rfl)) (mvT hZ (wd 25 rfl)) (by decide) (own_backSH (W := 0) (rm_ctor4 l Z a0 hw [] sx a1 n kC fF w_MD5 w_SHA384 w_SHA256 w_SHA1 w_SHA224 w_SHA512 cs sf h0 n0 O0 WZ E_sx F_sx_coder F_sx_value g_sx hF hcw hn hn2 V_a1) hZH (wd 25 rfl) (wd 7 rfl) (by decide) (by decide)) (g := (mkF m 10 #[.val (.ref sx), .val (.ref a1), .val (.int (0 : Int32)), .val (.int n)] [.null, (.int n), (.int (0 : Int32)), (.ref a1), (.ref sx)])) rfl (by rw [hml]; rfl) (Steps.refl _) (a := sx) (argsL := [(.ref a1), (.int (0 : Int32)), (.int n), .null]) (rest := []) (lenOf pd_6 rfl) rfl (by show 2 * 0 + _ ≤ _; exact Nat.le_of_eq rfl) (D d1_10) (fun _ _ => ⟨rfl, e1, (by decide : 0 + 2 ≤ _), (by decide : 0 + 130 ≤ _)⟩)
  dsimp only [Pt.U, Pt.locs, Pt.cells, Pt.slots] at X2 l2 y2 z2 st2 hQ2 hS2 hg2
  subst l2 y2 z2
  have hZ := State.Warmed39.trans hZ hS2.1
  have hown : (s.setVm T2.vm).vm.findClass "java/lang/String" = some m.cls := by rw [show (s.setVm T2.vm).vm = T2.vm from rfl, hS2.1.alike.findClass]; exact hown
  obtain ⟨r_2, kr_2, rfl, N2q, K2, Q2_0, Q2_1, Q2_2, Q2_3⟩ := hQ2
  have O2 := O0.keep K2 (allS g_sx all0)
  have KK2 : Keep h0 T2.heap [sx] := (Keep.refl h0 [sx]).trans K2 (allS (own_mem 0 rfl) all0)
  have N2 := Fr.app N1 N2q
  obtain ⟨fs, hr, hrun, hended, hRW⟩ := X2.leaveW hS2 (Nat.le_refl _) (v := none) (fun _ => rfl)
  refine ⟨_, _, pre0 _ ?_, hrun, hended, _, _, rfl, ?_, hRW.1, hRW.2.1, hRW.2.2.1, hRW.2.2.2.mono (by decide) (by decide)⟩
  · refine cs3.trans ?_
    refine st2.trans ?_
    exact X2.returnOut hx Bd.returns (D d1_13) hr
  · show Q_rm_ctor3 Z sx a1 n kC fF w_MD5 w_SHA384 w_SHA256 w_SHA1 w_SHA224 w_SHA512 cs sf h0 n0 _ T2.heap _
    exact ⟨r_2, kr_2, rfl, N2, KK2, Q2_0, Q2_1, Q2_2, Q2_3⟩
theorem own_narc (x : Int32) : nar .char (CH x) = CH x := by
  apply Int32.toInt_inj.mp
  unfold CH
  have e2 := c_i2c (x &&& (255 : Int32))
  have e3 := c_i2c ((x &&& (255 : Int32)).toUInt32.toUInt16.toUInt32.toInt32)
  have e4 := c_i2c (((x &&& (255 : Int32)).toUInt32.toUInt16.toUInt32.toInt32).toUInt32.toUInt16.toUInt32.toInt32)
  show ((((x &&& (255 : Int32)).toUInt32.toUInt16.toUInt32.toInt32).toUInt32.toUInt16.toUInt32.toInt32).toUInt32.toUInt16.toUInt32.toInt32).toInt = (((x &&& (255 : Int32)).toUInt32.toUInt16.toUInt32.toInt32).toUInt32.toUInt16.toUInt32.toInt32).toInt
  omega
theorem own_sh0 (n : Int32) : n >>> ((0 : Int32) &&& 31) = n := by
  apply Int32.toBitVec_inj.mp
  simp
theorem d9_0 : decode jdk_42_method_152_code 0 = .ok (.getstatic 38, 3) := by decide +kernel
theorem d9_3 : decode jdk_42_method_152_code 3 = .ok (.ifCond .eq 10, 3) := by decide +kernel
theorem d9_6 : decode jdk_42_method_152_code 6 = .ok (.aload_n 0, 1) := by decide +kernel
theorem d9_7 : decode jdk_42_method_152_code 7 = .ok (.getfield 15, 3) := by decide +kernel
theorem d9_10 : decode jdk_42_method_152_code 10 = .ok (.goto 4, 3) := by decide +kernel
theorem d9_14 : decode jdk_42_method_152_code 14 = .ok (.ireturn, 1) := by decide +kernel
theorem ef_rm_coder (m : MethodId) (x0 : Addr) : entryFrame m #[(.ref x0)] 1 = mkF m 0 #[.val (.ref x0)] [] := by first | (simp [entryFrame, mkF, argsToLocals, Value.category]; done) | rfl
def Q_rm_coder (Z : State) (a1 : Addr) (w_MD5 : Addr) (w_SHA384 : Addr) (w_SHA256 : Addr) (w_SHA1 : Addr) (w_SHA224 : Addr) (w_SHA512 : Addr) (cs : Int32) (sf : Value) (h0 : Heap) (n0 : Nat) (v : Option Value) (h : Heap) (L : List Loc) : Prop := v = some (.int (0 : Int32)) ∧ Fr n0 L ∧ h = h0
set_option maxRecDepth 65536 in
set_option maxHeartbeats 40000000 in
theorem rm_coder (l : Launch) (Z : State) (a0 : Array Value) (hw : ∀ d ∈ tables_1, d.before a0 Z = true) (ws : List Jvm.Cond) (a1 : Addr) (w_MD5 : Addr) (w_SHA384 : Addr) (w_SHA256 : Addr) (w_SHA1 : Addr) (w_SHA224 : Addr) (w_SHA512 : Addr) (cs : Int32) (sf : Value) (h0 : Heap) (n0 : Nat) (O0 : Old Z n0 h0) (WZ : OWorld Z Z.heap w_MD5 w_SHA384 w_SHA256 w_SHA1 w_SHA224 w_SHA512 cs sf) (E_a1 : Exa Z h0 a1 "java/lang/String") (F_a1_coder : Fld Z h0 a1 "java/lang/String" "coder" "B" (.int (0 : Int32))) :
    MetFree l (⟨"java/lang/String", "coder", "()B"⟩ : MethodName) (head1 (Jvm.Cond.code (⟨"java/lang/String", "coder", "()B"⟩ : MethodName) jdk_42_method_152_code 1 (some .byte) :: ws) ({ frames := 0, cells := 0, slots := 0, locals := 0 } : Room)) (fun a U => a = #[(.ref a1)] ∧ Z.Warmed39 U.vm ∧ U.heap = h0) (fun _ _ _ _ _ => True) (fun _ U o U' => ∃ v L, o = .returned v ∧ Q_rm_coder Z a1 w_MD5 w_SHA384 w_SHA256 w_SHA1 w_SHA224 w_SHA512 cs sf h0 n0 v U'.heap L ∧ FrameEnd U o U' L ({ frames := 0, cells := 0, slots := 0, locals := 0 } : Room).cells ({ frames := 0, cells := 0, slots := 0, locals := 0 } : Room).slots) := by
  refine MetFree.of_bodySF (plainFor_of_name pn_2) hisR ?_
  intro p e s m args below meth c s₁ Bd hml0 hP hK
  obtain ⟨rfl, hZ, hh⟩ := hP
  have hx := Bd.exec
  have hby := Bd.bytes
  have D := fun {pc : Nat} {r : Except ClassFile.DecodeError (ClassFile.Instr × Nat)} (q : decode jdk_42_method_152_code pc = r) => hb (pc := pc) hby q
  have hml : c.maxLocals = 1 := hml0
  have hown : s.vm.findClass "java/lang/String" = some m.cls := findClass_of_methodNamed Bd.named
  have hnm := (name_of_methodNamed Bd.named Bd.method).1
  have X0 : Stand p l e ({ frames := 0, cells := 0, slots := 0, locals := 0 } : Room) s m #[(.ref a1)] below meth c s₁ [] 0 0 := Stand.of_body Bd
  have e0 : s₁.heap = h0 := by rw [← hh, Bd.state]; rfl
  have N0 := Fr.nil n0
  have pre0 : ∀ t, Steps p.tables e below (s₁.setTop (mkF m 0 #[.val (.ref a1)] [])) t → Steps p.tables e below (s₁.setTop (entryFrame m #[(.ref a1)] 1)) t := fun t k => castTop (ef_rm_coder m (a1)) k
  have wd := fun {d : Jvm.Cond} (i : Nat) (h : tables_1[i]? = some d) => hw d (List.mem_of_getElem? h)
  obtain ⟨S_MD5, E_MD5, F_MD5_hexDigits, S_SHA384, E_SHA384, F_SHA384_hexDigits, S_SHA256, E_SHA256, F_SHA256_hexDigits, S_SHA1, E_SHA1, F_SHA1_hexDigits, S_SHA224, E_SHA224, F_SHA224_hexDigits, S_SHA512, E_SHA512, F_SHA512_hexDigits, S_cs, hcs, S_sf, hsf, hch⟩ := id WZ
  obtain ⟨T1, X1, e1, st1⟩ := getS2 X0 hx hZ hown (host := "") (Or.inl (wd 52 rfl)) Via.refl e0 (S_cs.ext O0.2) (g := (mkF m 0 #[.val (.ref a1)] [])) rfl (D d9_0)
  obtain ⟨T2, X2, e2, st2⟩ := getF X1 hx hZ hown (host := "") (Or.inl (wd 36 rfl)) Via.refl e1 F_a1_coder (g := (mkF m 7 #[.val (.ref a1)] [(.ref a1)])) rfl rfl (D d9_7)
  obtain ⟨fs, hr, hrun, hended, hW, hsame⟩ := X2.leave (v := some (.int (0 : Int32))) (fun h => by rw [Bd.returns] at h; cases h)
  refine ⟨_, _, pre0 _ ?_, hrun, hended, _, _, rfl, ?_, ⟨_, rfl⟩, hW, hsame.mono (by decide) (by decide)⟩
  · refine st1 _ ?_
    refine s_ifNo X1 hx (D d9_3) ((if0 _ _).trans (feq hcs).1) ?_
    refine s_aloadN X1 hx (D d9_6) rfl rfl ?_
    refine st2 _ ?_
    refine s_goto X2 hx 14 (D d9_10) (of_decide_eq_true rfl) rfl ?_
    exact retN X2 hx (t := .byte) Bd.returns (by simp) (D d9_14) hr
  · show Q_rm_coder Z a1 w_MD5 w_SHA384 w_SHA256 w_SHA1 w_SHA224 w_SHA512 cs sf h0 n0 _ T2.heap _
    rw [e2]
    exact ⟨rfl, N0, rfl⟩
theorem d8_0 : decode jdk_42_method_54_code 0 = .ok (.aload_n 0, 1) := by decide +kernel
theorem d8_1 : decode jdk_42_method_54_code 1 = .ok (.getfield 9, 3) := by decide +kernel
theorem d8_4 : decode jdk_42_method_54_code 4 = .ok (.arraylength, 1) := by decide +kernel
theorem d8_5 : decode jdk_42_method_54_code 5 = .ok (.aload_n 0, 1) := by decide +kernel
theorem d8_6 : decode jdk_42_method_54_code 6 = .ok (.invokevirtual 335, 3) := by decide +kernel
theorem d8_9 : decode jdk_42_method_54_code 9 = .ok (.ishr, 1) := by decide +kernel
theorem d8_10 : decode jdk_42_method_54_code 10 = .ok (.ireturn, 1) := by decide +kernel
theorem pd_7 : parseMethodDescriptor "()B" = some ⟨[], some .byte⟩ := by decide +kernel
theorem ef_rm_length (m : MethodId) (x0 : Addr) : entryFrame m #[(.ref x0)] 1 = mkF m 0 #[.val (.ref x0)] [] := by first | (simp [entryFrame, mkF, argsToLocals, Value.category]; done) | rfl
def Q_rm_length (Z : State) (a1 : Addr) (b : Addr) (kB : ClassId) (n : Int32) (fF : Nat → Int32) (w_MD5 : Addr) (w_SHA384 : Addr) (w_SHA256 : Addr) (w_SHA1 : Addr) (w_SHA224 : Addr) (w_SHA512 : Addr) (cs : Int32) (sf : Value) (h0 : Heap) (n0 : Nat) (v : Option Value) (h : Heap) (L : List Loc) : Prop := v = some (.int n) ∧ Fr n0 L ∧ h = h0
set_option maxRecDepth 65536 in
set_option maxHeartbeats 40000000 in
theorem rm_length (l : Launch) (Z : State) (a0 : Array Value) (hw : ∀ d ∈ tables_1, d.before a0 Z = true) (ws : List Jvm.Cond) (a1 : Addr) (b : Addr) (kB : ClassId) (n : Int32) (fF : Nat → Int32) (w_MD5 : Addr) (w_SHA384 : Addr) (w_SHA256 : Addr) (w_SHA1 : Addr) (w_SHA224 : Addr) (w_SHA512 : Addr) (cs : Int32) (sf : Value) (h0 : Heap) (n0 : Nat) (O0 : Old Z n0 h0) (WZ : OWorld Z Z.heap w_MD5 w_SHA384 w_SHA256 w_SHA1 w_SHA224 w_SHA512 cs sf) (E_a1 : Exa Z h0 a1 "java/lang/String") (F_a1_coder : Fld Z h0 a1 "java/lang/String" "coder" "B" (.int (0 : Int32))) (F_a1_value : Fld Z h0 a1 "java/lang/String" "value" "[B" (.ref b)) (V_b : ArfB Z h0 b kB n fF) :
    MetFree l (⟨"java/lang/String", "length", "()I"⟩ : MethodName) (head1 (Jvm.Cond.code (⟨"java/lang/String", "length", "()I"⟩ : MethodName) jdk_42_method_54_code 1 (some .int) :: ws) ({ frames := 1, cells := 0, slots := 0, locals := 13 } : Room)) (fun a U => a = #[(.ref a1)] ∧ Z.Warmed39 U.vm ∧ U.heap = h0) (fun _ _ _ _ _ => True) (fun _ U o U' => ∃ v L, o = .returned v ∧ Q_rm_length Z a1 b kB n fF w_MD5 w_SHA384 w_SHA256 w_SHA1 w_SHA224 w_SHA512 cs sf h0 n0 v U'.heap L ∧ FrameEnd U o U' L ({ frames := 1, cells := 0, slots := 0, locals := 13 } : Room).cells ({ frames := 1, cells := 0, slots := 0, locals := 13 } : Room).slots) := by
  refine MetFree.of_bodySF (plainFor_of_name pn_2) hisR ?_
  intro p e s m args below meth c s₁ Bd hml0 hP hK
  obtain ⟨rfl, hZ, hh⟩ := hP
  have hx := Bd.exec
  have hby := Bd.bytes
  have D := fun {pc : Nat} {r : Except ClassFile.DecodeError (ClassFile.Instr × Nat)} (q : decode jdk_42_method_54_code pc = r) => hb (pc := pc) hby q
  have hml : c.maxLocals = 1 := hml0
  have hown : s.vm.findClass "java/lang/String" = some m.cls := findClass_of_methodNamed Bd.named
  have hnm := (name_of_methodNamed Bd.named Bd.method).1
  have X0 : Stand p l e ({ frames := 1, cells := 0, slots := 0, locals := 13 } : Room) s m #[(.ref a1)] below meth c s₁ [] 0 0 := Stand.of_body Bd
  have e0 : s₁.heap = h0 := by rw [← hh, Bd.state]; rfl
  have N0 := Fr.nil n0
  have pre0 : ∀ t, Steps p.tables e below (s₁.setTop (mkF m 0 #[.val (.ref a1)] [])) t → Steps p.tables e below (s₁.setTop (entryFrame m #[(.ref a1)] 1)) t := fun t k => castTop (ef_rm_length m (a1)) k
  have wd := fun {d : Jvm.Cond} (i : Nat) (h : tables_1[i]? = some d) => hw d (List.mem_of_getElem? h)
  obtain ⟨S_MD5, E_MD5, F_MD5_hexDigits, S_SHA384, E_SHA384, F_SHA384_hexDigits, S_SHA256, E_SHA256, F_SHA256_hexDigits, S_SHA1, E_SHA1, F_SHA1_hexDigits, S_SHA224, E_SHA224, F_SHA224_hexDigits, S_SHA512, E_SHA512, F_SHA512_hexDigits, S_cs, hcs, S_sf, hsf, hch⟩ := id WZ
  obtain ⟨T1, X1, e1, st1⟩ := getF X0 hx hZ hown (host := "") (Or.inl (wd 35 rfl)) Via.refl e0 F_a1_value (g := (mkF m 1 #[.val (.ref a1)] [(.ref a1)])) rfl rfl (D d8_1)
  obtain ⟨cl2, Ar2, -, S2, Nn2, -, -⟩ := id V_b
  obtain ⟨cq3, kq3, q3a, q3b, q3c⟩ := isOf hZ e1 E_a1
  obtain ⟨_, _, ⟨T3, L3, k3, n3⟩, -, X3, ⟨Lc3, hQ3, l3, y3, z3⟩, st3⟩ := X1.virtualBack hx (y := (⟨"java/lang/String", "coder", "()B"⟩ : MethodName)) (z := (⟨"java/lang/String", "coder", "()B"⟩ : MethodName)) hown (mvT hZ (wd 47 rfl)) (mvT hZ (wd 48 rfl)) (notFace_of_selects (args := #[]) (mvT hZ (wd 50 rfl))) (mvT hZ (wd 50 rfl)) (mvT hZ (wd 49 rfl)) (by decide) (backOf (W := 1) (rm_coder l Z a0 hw [] a1 w_MD5 w_SHA384 w_SHA256 w_SHA1 w_SHA224 w_SHA512 cs sf h0 n0 O0 WZ E_a1 F_a1_coder) hZ (wd 51 rfl) (wd 7 rfl) (by decide) (by decide)) q3a q3c (g := (mkF m 6 #[.val (.ref a1)] [(.ref a1), (.int n)])) rfl (by rw [hml]; rfl) (Steps.refl _) (argsL := []) (rest := [(.int n)]) (lenOf pd_7 rfl) rfl (by show 2 * 0 + _ ≤ _; exact Nat.le_of_eq rfl) (D d8_6) (fun _ _ => ⟨rfl, e1, (by decide : 0 + 0 ≤ _), (by decide : 0 + 0 ≤ _)⟩)
  dsimp only [Pt.U, Pt.locs, Pt.cells, Pt.slots] at X3 l3 y3 z3 st3 hQ3
  subst l3 y3 z3
  obtain ⟨rfl, N3q, e3⟩ := hQ3
  have N3 := Fr.app N0 N3q
  obtain ⟨fs, hr, hrun, hended, hW, hsame⟩ := X3.leave (v := some (.int (n >>> ((0 : Int32) &&& 31)))) (fun h => by rw [Bd.returns] at h; cases h)
  refine ⟨_, _, pre0 _ ?_, hrun, hended, _, _, rfl, ?_, ⟨_, rfl⟩, hW, hsame.mono (by decide) (by decide)⟩
  · refine s_aloadN X0 hx (D d8_0) rfl rfl ?_
    refine st1 _ ?_
    refine X1.arraylength hx (by rw [e1]; exact Ar2.1) (State.isArrayOf_alike hZ.alike Ar2.2.1) (g := (mkF m 4 #[.val (.ref a1)] [(.ref b)])) rfl rfl (D d8_4) _ ?_
    rw [len_of S2 Nn2]
    refine s_aloadN X1 hx (D d8_5) rfl rfl ?_
    refine st3.trans ?_
    refine s_ishr X3 hx (D d8_9) rfl ?_
    exact retI X3 hx Bd.returns (D d8_10) hr
  · show Q_rm_length Z a1 b kB n fF w_MD5 w_SHA384 w_SHA256 w_SHA1 w_SHA224 w_SHA512 cs sf h0 n0 _ T3.heap _
    rw [e3]
    exact ⟨by rw [own_sh0], N3, rfl⟩
theorem d15_0 : decode jdk_42_method_154_code 0 = .ok (.getstatic 38, 3) := by decide +kernel
theorem d15_3 : decode jdk_42_method_154_code 3 = .ok (.ifCond .eq 14, 3) := by decide +kernel
theorem d15_6 : decode jdk_42_method_154_code 6 = .ok (.aload_n 0, 1) := by decide +kernel
theorem d15_7 : decode jdk_42_method_154_code 7 = .ok (.getfield 15, 3) := by decide +kernel
theorem d15_10 : decode jdk_42_method_154_code 10 = .ok (.ifCond .ne 7, 3) := by decide +kernel
theorem d15_13 : decode jdk_42_method_154_code 13 = .ok (.iconst 1, 1) := by decide +kernel
theorem d15_14 : decode jdk_42_method_154_code 14 = .ok (.goto 4, 3) := by decide +kernel
theorem d15_18 : decode jdk_42_method_154_code 18 = .ok (.ireturn, 1) := by decide +kernel
theorem ef_rm_isl (m : MethodId) (x0 : Addr) : entryFrame m #[(.ref x0)] 1 = mkF m 0 #[.val (.ref x0)] [] := by first | (simp [entryFrame, mkF, argsToLocals, Value.category]; done) | rfl
def Q_rm_isl (Z : State) (a1 : Addr) (w_MD5 : Addr) (w_SHA384 : Addr) (w_SHA256 : Addr) (w_SHA1 : Addr) (w_SHA224 : Addr) (w_SHA512 : Addr) (cs : Int32) (sf : Value) (h0 : Heap) (n0 : Nat) (v : Option Value) (h : Heap) (L : List Loc) : Prop := v = some (.int (1 : Int32)) ∧ Fr n0 L ∧ h = h0
set_option maxRecDepth 65536 in
set_option maxHeartbeats 40000000 in
theorem rm_isl (l : Launch) (Z : State) (a0 : Array Value) (hw : ∀ d ∈ tables_1, d.before a0 Z = true) (ws : List Jvm.Cond) (a1 : Addr) (w_MD5 : Addr) (w_SHA384 : Addr) (w_SHA256 : Addr) (w_SHA1 : Addr) (w_SHA224 : Addr) (w_SHA512 : Addr) (cs : Int32) (sf : Value) (h0 : Heap) (n0 : Nat) (O0 : Old Z n0 h0) (WZ : OWorld Z Z.heap w_MD5 w_SHA384 w_SHA256 w_SHA1 w_SHA224 w_SHA512 cs sf) (E_a1 : Exa Z h0 a1 "java/lang/String") (F_a1_coder : Fld Z h0 a1 "java/lang/String" "coder" "B" (.int (0 : Int32))) :
    MetFree l (⟨"java/lang/String", "isLatin1", "()Z"⟩ : MethodName) (head1 (Jvm.Cond.code (⟨"java/lang/String", "isLatin1", "()Z"⟩ : MethodName) jdk_42_method_154_code 1 (some .boolean) :: ws) ({ frames := 0, cells := 0, slots := 0, locals := 0 } : Room)) (fun a U => a = #[(.ref a1)] ∧ Z.Warmed39 U.vm ∧ U.heap = h0) (fun _ _ _ _ _ => True) (fun _ U o U' => ∃ v L, o = .returned v ∧ Q_rm_isl Z a1 w_MD5 w_SHA384 w_SHA256 w_SHA1 w_SHA224 w_SHA512 cs sf h0 n0 v U'.heap L ∧ FrameEnd U o U' L ({ frames := 0, cells := 0, slots := 0, locals := 0 } : Room).cells ({ frames := 0, cells := 0, slots := 0, locals := 0 } : Room).slots) := by
  refine MetFree.of_bodySF (plainFor_of_name pn_2) hisR ?_
  intro p e s m args below meth c s₁ Bd hml0 hP hK
  obtain ⟨rfl, hZ, hh⟩ := hP
  have hx := Bd.exec
  have hby := Bd.bytes
  have D := fun {pc : Nat} {r : Except ClassFile.DecodeError (ClassFile.Instr × Nat)} (q : decode jdk_42_method_154_code pc = r) => hb (pc := pc) hby q
  have hml : c.maxLocals = 1 := hml0
  have hown : s.vm.findClass "java/lang/String" = some m.cls := findClass_of_methodNamed Bd.named
  have hnm := (name_of_methodNamed Bd.named Bd.method).1
  have X0 : Stand p l e ({ frames := 0, cells := 0, slots := 0, locals := 0 } : Room) s m #[(.ref a1)] below meth c s₁ [] 0 0 := Stand.of_body Bd
  have e0 : s₁.heap = h0 := by rw [← hh, Bd.state]; rfl
  have N0 := Fr.nil n0
  have pre0 : ∀ t, Steps p.tables e below (s₁.setTop (mkF m 0 #[.val (.ref a1)] [])) t → Steps p.tables e below (s₁.setTop (entryFrame m #[(.ref a1)] 1)) t := fun t k => castTop (ef_rm_isl m (a1)) k
  have wd := fun {d : Jvm.Cond} (i : Nat) (h : tables_1[i]? = some d) => hw d (List.mem_of_getElem? h)
  obtain ⟨S_MD5, E_MD5, F_MD5_hexDigits, S_SHA384, E_SHA384, F_SHA384_hexDigits, S_SHA256, E_SHA256, F_SHA256_hexDigits, S_SHA1, E_SHA1, F_SHA1_hexDigits, S_SHA224, E_SHA224, F_SHA224_hexDigits, S_SHA512, E_SHA512, F_SHA512_hexDigits, S_cs, hcs, S_sf, hsf, hch⟩ := id WZ
  obtain ⟨T1, X1, e1, st1⟩ := getS2 X0 hx hZ hown (host := "") (Or.inl (wd 52 rfl)) Via.refl e0 (S_cs.ext O0.2) (g := (mkF m 0 #[.val (.ref a1)] [])) rfl (D d15_0)
  obtain ⟨T2, X2, e2, st2⟩ := getF X1 hx hZ hown (host := "") (Or.inl (wd 36 rfl)) Via.refl e1 F_a1_coder (g := (mkF m 7 #[.val (.ref a1)] [(.ref a1)])) rfl rfl (D d15_7)
  obtain ⟨fs, hr, hrun, hended, hW, hsame⟩ := X2.leave (v := some (.int (1 : Int32))) (fun h => by rw [Bd.returns] at h; cases h)
  refine ⟨_, _, pre0 _ ?_, hrun, hended, _, _, rfl, ?_, ⟨_, rfl⟩, hW, hsame.mono (by decide) (by decide)⟩
  · refine st1 _ ?_
    refine s_ifNo X1 hx (D d15_3) ((if0 _ _).trans (feq hcs).1) ?_
    refine s_aloadN X1 hx (D d15_6) rfl rfl ?_
    refine st2 _ ?_
    refine s_ifNo X2 hx (D d15_10) ((if0 _ _).trans (teq (by decide : (0 : Int32) = (0 : Int32))).2) ?_
    refine s_iconst X2 hx (1 : Int32) (D d15_13) rfl ?_
    refine s_goto X2 hx 18 (D d15_14) (of_decide_eq_true rfl) rfl ?_
    exact retN X2 hx (t := .boolean) Bd.returns (by simp) (D d15_18) hr
  · show Q_rm_isl Z a1 w_MD5 w_SHA384 w_SHA256 w_SHA1 w_SHA224 w_SHA512 cs sf h0 n0 _ T2.heap _
    rw [e2]
    exact ⟨rfl, N0, rfl⟩
theorem d18_0 : decode jdk_41_method_11_code 0 = .ok (.iload_n 0, 1) := by decide +kernel
theorem d18_1 : decode jdk_41_method_11_code 1 = .ok (.ifCond .lt 8, 3) := by decide +kernel
theorem d18_4 : decode jdk_41_method_11_code 4 = .ok (.iload_n 0, 1) := by decide +kernel
theorem d18_5 : decode jdk_41_method_11_code 5 = .ok (.iload_n 1, 1) := by decide +kernel
theorem d18_6 : decode jdk_41_method_11_code 6 = .ok (.if_icmp .lt 10, 3) := by decide +kernel
theorem d18_16 : decode jdk_41_method_11_code 16 = .ok (.iload_n 0, 1) := by decide +kernel
theorem d18_17 : decode jdk_41_method_11_code 17 = .ok (.ireturn, 1) := by decide +kernel
theorem ef_rm_ci3 (m : MethodId) (x0 : Int32) (x1 : Int32) (x2 : Value) (hx2 : x2.isRef = true) : entryFrame m #[(.int x0), (.int x1), x2] 3 = mkF m 0 #[.val (.int x0), .val (.int x1), .val x2] [] := by cases x2 <;> first | (simp [Value.isRef] at hx2; done) | first | (simp [entryFrame, mkF, argsToLocals, Value.category]; done) | rfl
def Q_rm_ci3 (Z : State) (i : Int32) (n : Int32) (sf : Value) (h0 : Heap) (n0 : Nat) (v : Option Value) (h : Heap) (L : List Loc) : Prop := v = some (.int i) ∧ Fr n0 L ∧ h = h0
set_option maxRecDepth 65536 in
set_option maxHeartbeats 40000000 in
theorem rm_ci3 (l : Launch) (Z : State) (a0 : Array Value) (hw : ∀ d ∈ tables_1, d.before a0 Z = true) (ws : List Jvm.Cond) (i : Int32) (n : Int32) (sf : Value) (h0 : Heap) (n0 : Nat) (O0 : Old Z n0 h0) (hi : ¬ i < 0) (hin : i < n) (hsf4 : sf.isRef = true) :
    MetFree l (⟨"jdk/internal/util/Preconditions", "checkIndex", "(IILjava/util/function/BiFunction;)I"⟩ : MethodName) (head1 (Jvm.Cond.code (⟨"jdk/internal/util/Preconditions", "checkIndex", "(IILjava/util/function/BiFunction;)I"⟩ : MethodName) jdk_41_method_11_code 3 (some .int) :: ws) ({ frames := 0, cells := 0, slots := 0, locals := 0 } : Room)) (fun a U => a = #[(.int i), (.int n), sf] ∧ Z.Warmed39 U.vm ∧ U.heap = h0) (fun _ _ _ _ _ => True) (fun _ U o U' => ∃ v L, o = .returned v ∧ Q_rm_ci3 Z i n sf h0 n0 v U'.heap L ∧ FrameEnd U o U' L ({ frames := 0, cells := 0, slots := 0, locals := 0 } : Room).cells ({ frames := 0, cells := 0, slots := 0, locals := 0 } : Room).slots) := by
  refine MetFree.of_bodySF (plainFor_of_name pn_1) hisR ?_
  intro p e s m args below meth c s₁ Bd hml0 hP hK
  obtain ⟨rfl, hZ, hh⟩ := hP
  have hx := Bd.exec
  have hby := Bd.bytes
  have D := fun {pc : Nat} {r : Except ClassFile.DecodeError (ClassFile.Instr × Nat)} (q : decode jdk_41_method_11_code pc = r) => hb (pc := pc) hby q
  have hml : c.maxLocals = 3 := hml0
  have hown : s.vm.findClass "jdk/internal/util/Preconditions" = some m.cls := findClass_of_methodNamed Bd.named
  have hnm := (name_of_methodNamed Bd.named Bd.method).1
  have X0 : Stand p l e ({ frames := 0, cells := 0, slots := 0, locals := 0 } : Room) s m #[(.int i), (.int n), sf] below meth c s₁ [] 0 0 := Stand.of_body Bd
  have e0 : s₁.heap = h0 := by rw [← hh, Bd.state]; rfl
  have N0 := Fr.nil n0
  have pre0 : ∀ t, Steps p.tables e below (s₁.setTop (mkF m 0 #[.val (.int i), .val (.int n), .val sf] [])) t → Steps p.tables e below (s₁.setTop (entryFrame m #[(.int i), (.int n), sf] 3)) t := fun t k => castTop (ef_rm_ci3 m (i) (n) (sf) hsf4) k
  have wd := fun {d : Jvm.Cond} (i : Nat) (h : tables_1[i]? = some d) => hw d (List.mem_of_getElem? h)
  obtain ⟨fs, hr, hrun, hended, hW, hsame⟩ := X0.leave (v := some (.int i)) (fun h => by rw [Bd.returns] at h; cases h)
  refine ⟨_, _, pre0 _ ?_, hrun, hended, _, _, rfl, ?_, ⟨_, rfl⟩, hW, hsame.mono (by decide) (by decide)⟩
  · refine s_iloadN X0 hx (D d18_0) rfl ?_
    refine s_ifNo X0 hx (D d18_1) ((if0 _ _).trans (flt (hi : ¬ (i < (0 : Int32)))).1) ?_
    refine s_iloadN X0 hx (D d18_4) rfl ?_
    refine s_iloadN X0 hx (D d18_5) rfl ?_
    refine s_icmpYes X0 hx 16 (D d18_6) (tlt (hin : i < n)).1 (of_decide_eq_true rfl) rfl ?_
    refine s_iloadN X0 hx (D d18_16) rfl ?_
    exact retI X0 hx Bd.returns (D d18_17) hr
  · show Q_rm_ci3 Z i n sf h0 n0 _ s₁.heap _
    rw [e0]
    exact ⟨rfl, N0, rfl⟩
theorem d17_0 : decode jdk_42_method_155_code 0 = .ok (.iload_n 0, 1) := by decide +kernel
theorem d17_1 : decode jdk_42_method_155_code 1 = .ok (.iload_n 1, 1) := by decide +kernel
theorem d17_2 : decode jdk_42_method_155_code 2 = .ok (.getstatic 1053, 3) := by decide +kernel
theorem d17_5 : decode jdk_42_method_155_code 5 = .ok (.invokestatic 1059, 3) := by decide +kernel
theorem d17_8 : decode jdk_42_method_155_code 8 = .ok (.pop, 1) := by decide +kernel
theorem d17_9 : decode jdk_42_method_155_code 9 = .ok (.return_, 1) := by decide +kernel
theorem pd_8 : parseMethodDescriptor "(IILjava/util/function/BiFunction;)I" = some ⟨[.int, .int, (.object "java/util/function/BiFunction")], some .int⟩ := by decide +kernel
theorem ef_rm_ci2 (m : MethodId) (x0 : Int32) (x1 : Int32) : entryFrame m #[(.int x0), (.int x1)] 2 = mkF m 0 #[.val (.int x0), .val (.int x1)] [] := by first | (simp [entryFrame, mkF, argsToLocals, Value.category]; done) | rfl
def Q_rm_ci2 (Z : State) (i : Int32) (n : Int32) (w_MD5 : Addr) (w_SHA384 : Addr) (w_SHA256 : Addr) (w_SHA1 : Addr) (w_SHA224 : Addr) (w_SHA512 : Addr) (cs : Int32) (sf : Value) (h0 : Heap) (n0 : Nat) (v : Option Value) (h : Heap) (L : List Loc) : Prop := v = none ∧ Fr n0 L ∧ h = h0
set_option maxRecDepth 65536 in
set_option maxHeartbeats 40000000 in
theorem rm_ci2 (l : Launch) (Z : State) (a0 : Array Value) (hw : ∀ d ∈ tables_1, d.before a0 Z = true) (ws : List Jvm.Cond) (i : Int32) (n : Int32) (w_MD5 : Addr) (w_SHA384 : Addr) (w_SHA256 : Addr) (w_SHA1 : Addr) (w_SHA224 : Addr) (w_SHA512 : Addr) (cs : Int32) (sf : Value) (h0 : Heap) (n0 : Nat) (O0 : Old Z n0 h0) (WZ : OWorld Z Z.heap w_MD5 w_SHA384 w_SHA256 w_SHA1 w_SHA224 w_SHA512 cs sf) (hi : ¬ i < 0) (hin : i < n) :
    MetFree l (⟨"java/lang/String", "checkIndex", "(II)V"⟩ : MethodName) (head1 (Jvm.Cond.code (⟨"java/lang/String", "checkIndex", "(II)V"⟩ : MethodName) jdk_42_method_155_code 2 none :: ws) ({ frames := 1, cells := 0, slots := 0, locals := 14 } : Room)) (fun a U => a = #[(.int i), (.int n)] ∧ Z.Warmed39 U.vm ∧ U.heap = h0) (fun _ _ _ _ _ => True) (fun _ U o U' => ∃ v L, o = .returned v ∧ Q_rm_ci2 Z i n w_MD5 w_SHA384 w_SHA256 w_SHA1 w_SHA224 w_SHA512 cs sf h0 n0 v U'.heap L ∧ FrameEnd U o U' L ({ frames := 1, cells := 0, slots := 0, locals := 14 } : Room).cells ({ frames := 1, cells := 0, slots := 0, locals := 14 } : Room).slots) := by
  refine MetFree.of_bodySF (plainFor_of_name pn_2) hisR ?_
  intro p e s m args below meth c s₁ Bd hml0 hP hK
  obtain ⟨rfl, hZ, hh⟩ := hP
  have hx := Bd.exec
  have hby := Bd.bytes
  have D := fun {pc : Nat} {r : Except ClassFile.DecodeError (ClassFile.Instr × Nat)} (q : decode jdk_42_method_155_code pc = r) => hb (pc := pc) hby q
  have hml : c.maxLocals = 2 := hml0
  have hown : s.vm.findClass "java/lang/String" = some m.cls := findClass_of_methodNamed Bd.named
  have hnm := (name_of_methodNamed Bd.named Bd.method).1
  have X0 : Stand p l e ({ frames := 1, cells := 0, slots := 0, locals := 14 } : Room) s m #[(.int i), (.int n)] below meth c s₁ [] 0 0 := Stand.of_body Bd
  have e0 : s₁.heap = h0 := by rw [← hh, Bd.state]; rfl
  have N0 := Fr.nil n0
  have pre0 : ∀ t, Steps p.tables e below (s₁.setTop (mkF m 0 #[.val (.int i), .val (.int n)] [])) t → Steps p.tables e below (s₁.setTop (entryFrame m #[(.int i), (.int n)] 2)) t := fun t k => castTop (ef_rm_ci2 m (i) (n)) k
  have wd := fun {d : Jvm.Cond} (i : Nat) (h : tables_1[i]? = some d) => hw d (List.mem_of_getElem? h)
  obtain ⟨S_MD5, E_MD5, F_MD5_hexDigits, S_SHA384, E_SHA384, F_SHA384_hexDigits, S_SHA256, E_SHA256, F_SHA256_hexDigits, S_SHA1, E_SHA1, F_SHA1_hexDigits, S_SHA224, E_SHA224, F_SHA224_hexDigits, S_SHA512, E_SHA512, F_SHA512_hexDigits, S_cs, hcs, S_sf, hsf, hch⟩ := id WZ
  obtain ⟨T1, X1, e1, st1⟩ := getS2 X0 hx hZ hown (host := "") (Or.inl (wd 17 rfl)) Via.refl e0 (S_sf.ext O0.2) (g := (mkF m 2 #[.val (.int i), .val (.int n)] [(.int n), (.int i)])) rfl (D d17_2)
  obtain ⟨_, _, ⟨T2, L2, k2, n2⟩, -, X2, ⟨Lc2, hQ2, l2, y2, z2⟩, st2⟩ := Jvm.LawKit.callS X1 hx (y := (⟨"jdk/internal/util/Preconditions", "checkIndex", "(IILjava/util/function/BiFunction;)I"⟩ : MethodName)) hown (mvT hZ (wd 92 rfl)) (mvT hZ (wd 93 rfl)) (mvT hZ (wd 18 rfl)) (mvT hZ (wd 94 rfl)) (by decide) (backOf (W := 0) (rm_ci3 l Z a0 hw [] i n sf h0 n0 O0 hi hin hsf) hZ (wd 94 rfl) (wd 18 rfl) (by decide) (by decide)) (g := (mkF m 5 #[.val (.int i), .val (.int n)] [sf, (.int n), (.int i)])) rfl (by rw [hml]; rfl) (argsL := [(.int i), (.int n), sf]) (rest := []) (lenOf pd_8 rfl) rfl (by show 2 * 0 + _ ≤ _; exact Nat.le_of_eq rfl) (D d17_5) (fun _ _ => ⟨rfl, e1, (by decide : 0 + 0 ≤ _), (by decide : 0 + 0 ≤ _)⟩)
  dsimp only [Pt.U, Pt.locs, Pt.cells, Pt.slots] at X2 l2 y2 z2 st2 hQ2
  subst l2 y2 z2
  obtain ⟨rfl, N2q, e2⟩ := hQ2
  have N2 := Fr.app N0 N2q
  obtain ⟨fs, hr, hrun, hended, hW, hsame⟩ := X2.leave (v := none) (fun _ => rfl)
  refine ⟨_, _, pre0 _ ?_, hrun, hended, _, _, rfl, ?_, ⟨_, rfl⟩, hW, hsame.mono (by decide) (by decide)⟩
  · refine s_iloadN X0 hx (D d17_0) rfl ?_
    refine s_iloadN X0 hx (D d17_1) rfl ?_
    refine st1 _ ?_
    refine st2 _ ?_
    refine s_pop X2 hx (D d17_8) rfl ?_
    exact X2.returnOut hx Bd.returns (D d17_9) hr
  · show Q_rm_ci2 Z i n w_MD5 w_SHA384 w_SHA256 w_SHA1 w_SHA224 w_SHA512 cs sf h0 n0 _ T2.heap _
    rw [e2]
    exact ⟨rfl, N2, rfl⟩
theorem d16_0 : decode jdk_43_method_2_code 0 = .ok (.iload_n 1, 1) := by decide +kernel
theorem d16_1 : decode jdk_43_method_2_code 1 = .ok (.aload_n 0, 1) := by decide +kernel
theorem d16_2 : decode jdk_43_method_2_code 2 = .ok (.arraylength, 1) := by decide +kernel
theorem d16_3 : decode jdk_43_method_2_code 3 = .ok (.invokestatic 9, 3) := by decide +kernel
theorem d16_6 : decode jdk_43_method_2_code 6 = .ok (.aload_n 0, 1) := by decide +kernel
theorem d16_7 : decode jdk_43_method_2_code 7 = .ok (.iload_n 1, 1) := by decide +kernel
theorem d16_8 : decode jdk_43_method_2_code 8 = .ok (.baload, 1) := by decide +kernel
theorem d16_9 : decode jdk_43_method_2_code 9 = .ok (.sipush 255, 3) := by decide +kernel
theorem d16_12 : decode jdk_43_method_2_code 12 = .ok (.iand, 1) := by decide +kernel
theorem d16_13 : decode jdk_43_method_2_code 13 = .ok (.i2c, 1) := by decide +kernel
theorem d16_14 : decode jdk_43_method_2_code 14 = .ok (.ireturn, 1) := by decide +kernel
theorem pd_9 : parseMethodDescriptor "(II)V" = some ⟨[.int, .int], none⟩ := by decide +kernel
theorem pn_4 : plainName "java/lang/StringLatin1" = true := by first | (simp [plainName, overriddenIn]; done) | decide +kernel
theorem ef_rm_lca (m : MethodId) (x0 : Addr) (x1 : Int32) : entryFrame m #[(.ref x0), (.int x1)] 2 = mkF m 0 #[.val (.ref x0), .val (.int x1)] [] := by first | (simp [entryFrame, mkF, argsToLocals, Value.category]; done) | rfl
def Q_rm_lca (Z : State) (b : Addr) (i : Int32) (kB : ClassId) (n : Int32) (fF : Nat → Int32) (w_MD5 : Addr) (w_SHA384 : Addr) (w_SHA256 : Addr) (w_SHA1 : Addr) (w_SHA224 : Addr) (w_SHA512 : Addr) (cs : Int32) (sf : Value) (h0 : Heap) (n0 : Nat) (v : Option Value) (h : Heap) (L : List Loc) : Prop := v = some (.int (CH (fF i.toNatClampNeg))) ∧ Fr n0 L ∧ h = h0
set_option maxRecDepth 65536 in
set_option maxHeartbeats 40000000 in
theorem rm_lca (l : Launch) (Z : State) (a0 : Array Value) (hw : ∀ d ∈ tables_1, d.before a0 Z = true) (ws : List Jvm.Cond) (b : Addr) (i : Int32) (kB : ClassId) (n : Int32) (fF : Nat → Int32) (w_MD5 : Addr) (w_SHA384 : Addr) (w_SHA256 : Addr) (w_SHA1 : Addr) (w_SHA224 : Addr) (w_SHA512 : Addr) (cs : Int32) (sf : Value) (h0 : Heap) (n0 : Nat) (O0 : Old Z n0 h0) (WZ : OWorld Z Z.heap w_MD5 w_SHA384 w_SHA256 w_SHA1 w_SHA224 w_SHA512 cs sf) (hi : ¬ i < 0) (hin : i < n) (V_b : ArfB Z h0 b kB n fF) :
    MetFree l (⟨"java/lang/StringLatin1", "charAt", "([BI)C"⟩ : MethodName) (head1 (Jvm.Cond.code (⟨"java/lang/StringLatin1", "charAt", "([BI)C"⟩ : MethodName) jdk_43_method_2_code 2 (some .char) :: ws) ({ frames := 2, cells := 0, slots := 0, locals := 27 } : Room)) (fun a U => a = #[(.ref b), (.int i)] ∧ Z.Warmed39 U.vm ∧ U.heap = h0) (fun _ _ _ _ _ => True) (fun _ U o U' => ∃ v L, o = .returned v ∧ Q_rm_lca Z b i kB n fF w_MD5 w_SHA384 w_SHA256 w_SHA1 w_SHA224 w_SHA512 cs sf h0 n0 v U'.heap L ∧ FrameEnd U o U' L ({ frames := 2, cells := 0, slots := 0, locals := 27 } : Room).cells ({ frames := 2, cells := 0, slots := 0, locals := 27 } : Room).slots) := by
  refine MetFree.of_bodySF (plainFor_of_name pn_4) hisR ?_
  intro p e s m args below meth c s₁ Bd hml0 hP hK
  obtain ⟨rfl, hZ, hh⟩ := hP
  have hx := Bd.exec
  have hby := Bd.bytes
  have D := fun {pc : Nat} {r : Except ClassFile.DecodeError (ClassFile.Instr × Nat)} (q : decode jdk_43_method_2_code pc = r) => hb (pc := pc) hby q
  have hml : c.maxLocals = 2 := hml0
  have hown : s.vm.findClass "java/lang/StringLatin1" = some m.cls := findClass_of_methodNamed Bd.named
  have hnm := (name_of_methodNamed Bd.named Bd.method).1
  have X0 : Stand p l e ({ frames := 2, cells := 0, slots := 0, locals := 27 } : Room) s m #[(.ref b), (.int i)] below meth c s₁ [] 0 0 := Stand.of_body Bd
  have e0 : s₁.heap = h0 := by rw [← hh, Bd.state]; rfl
  have N0 := Fr.nil n0
  have pre0 : ∀ t, Steps p.tables e below (s₁.setTop (mkF m 0 #[.val (.ref b), .val (.int i)] [])) t → Steps p.tables e below (s₁.setTop (entryFrame m #[(.ref b), (.int i)] 2)) t := fun t k => castTop (ef_rm_lca m (b) (i)) k
  have wd := fun {d : Jvm.Cond} (i : Nat) (h : tables_1[i]? = some d) => hw d (List.mem_of_getElem? h)
  obtain ⟨S_MD5, E_MD5, F_MD5_hexDigits, S_SHA384, E_SHA384, F_SHA384_hexDigits, S_SHA256, E_SHA256, F_SHA256_hexDigits, S_SHA1, E_SHA1, F_SHA1_hexDigits, S_SHA224, E_SHA224, F_SHA224_hexDigits, S_SHA512, E_SHA512, F_SHA512_hexDigits, S_cs, hcs, S_sf, hsf, hch⟩ := id WZ
  obtain ⟨cl1, Ar1, -, S1, Nn1, -, -⟩ := id V_b
  obtain ⟨_, _, ⟨T2, L2, k2, n2⟩, -, X2, ⟨Lc2, hQ2, l2, y2, z2⟩, st2⟩ := Jvm.LawKit.callS X0 hx (y := (⟨"java/lang/String", "checkIndex", "(II)V"⟩ : MethodName)) hown (mvT hZ (wd 89 rfl)) (mvT hZ (wd 90 rfl)) (mvT hZ (wd 7 rfl)) (mvT hZ (wd 91 rfl)) (by decide) (backOf (W := 0) (rm_ci2 l Z a0 hw [] i n w_MD5 w_SHA384 w_SHA256 w_SHA1 w_SHA224 w_SHA512 cs sf h0 n0 O0 WZ hi hin) hZ (wd 91 rfl) (wd 7 rfl) (by decide) (by decide)) (g := (mkF m 3 #[.val (.ref b), .val (.int i)] [(.int n), (.int i)])) rfl (by rw [hml]; rfl) (argsL := [(.int i), (.int n)]) (rest := []) (lenOf pd_9 rfl) rfl (by show 2 * 0 + _ ≤ _; exact Nat.le_of_eq rfl) (D d16_3) (fun _ _ => ⟨rfl, e0, (by decide : 0 + 0 ≤ _), (by decide : 0 + 0 ≤ _)⟩)
  dsimp only [Pt.U, Pt.locs, Pt.cells, Pt.slots] at X2 l2 y2 z2 st2 hQ2
  subst l2 y2 z2
  obtain ⟨rfl, N2q, e2⟩ := hQ2
  have N2 := Fr.app N0 N2q
  obtain ⟨cl3, Ar3, q3, S3, Nn3, H3, G3⟩ := id V_b
  have hin3 : ¬ (i < 0 ∨ cl3.slots.size ≤ (i).toNatClampNeg) := inb_of S3 ⟨hi, hin⟩
  obtain ⟨y3, hy3⟩ : ∃ y, y = fF (i).toNatClampNeg := ⟨_, rfl⟩
  have hat3 := ArfB.get H3 hin3 hy3
  obtain ⟨fs, hr, hrun, hended, hW, hsame⟩ := X2.leave (v := some (.int (nar .char ((y3 &&& (255 : Int32)).toUInt32.toUInt16.toUInt32.toInt32)))) (fun h => by rw [Bd.returns] at h; cases h)
  refine ⟨_, _, pre0 _ ?_, hrun, hended, _, _, rfl, ?_, ⟨_, rfl⟩, hW, hsame.mono (by decide) (by decide)⟩
  · refine s_iloadN X0 hx (D d16_0) rfl ?_
    refine s_aloadN X0 hx (D d16_1) rfl rfl ?_
    refine X0.arraylength hx (by rw [e0]; exact Ar1.1) (State.isArrayOf_alike hZ.alike Ar1.2.1) (g := (mkF m 2 #[.val (.ref b), .val (.int i)] [(.ref b), (.int i)])) rfl rfl (D d16_2) _ ?_
    rw [len_of S1 Nn1]
    refine st2 _ ?_
    refine s_aloadN X2 hx (D d16_6) rfl rfl ?_
    refine s_iloadN X2 hx (D d16_7) rfl ?_
    refine X2.baloadBytes hx (j := i) (v := (.int y3)) (by rw [e2]; exact (Ar3).1) (State.isArrayOf_alike hZ.alike (Ar3).2.1) (Ar3).2.2 hin3 hat3 (g := (mkF m 8 #[.val (.ref b), .val (.int i)] [(.int i), (.ref b)])) rfl rfl (D d16_8) _ ?_
    refine s_sipush X2 hx (255 : Int32) (D d16_9) rfl ?_
    refine s_iand X2 hx (D d16_12) rfl ?_
    refine s_i2c X2 hx (D d16_13) rfl ?_
    exact retN X2 hx (t := .char) Bd.returns (by simp) (D d16_14) hr
  · show Q_rm_lca Z b i kB n fF w_MD5 w_SHA384 w_SHA256 w_SHA1 w_SHA224 w_SHA512 cs sf h0 n0 _ T2.heap _
    rw [e2]
    exact ⟨by rw [hy3]; rfl, N2, rfl⟩
theorem d14_0 : decode jdk_42_method_56_code 0 = .ok (.aload_n 0, 1) := by decide +kernel
theorem d14_1 : decode jdk_42_method_56_code 1 = .ok (.invokevirtual 492, 3) := by decide +kernel
theorem d14_4 : decode jdk_42_method_56_code 4 = .ok (.ifCond .eq 12, 3) := by decide +kernel
theorem d14_7 : decode jdk_42_method_56_code 7 = .ok (.aload_n 0, 1) := by decide +kernel
theorem d14_8 : decode jdk_42_method_56_code 8 = .ok (.getfield 9, 3) := by decide +kernel
theorem d14_11 : decode jdk_42_method_56_code 11 = .ok (.iload_n 1, 1) := by decide +kernel
theorem d14_12 : decode jdk_42_method_56_code 12 = .ok (.invokestatic 495, 3) := by decide +kernel
theorem d14_15 : decode jdk_42_method_56_code 15 = .ok (.ireturn, 1) := by decide +kernel
theorem pd_10 : parseMethodDescriptor "()Z" = some ⟨[], some .boolean⟩ := by decide +kernel
theorem pd_11 : parseMethodDescriptor "([BI)C" = some ⟨[(.array .byte), .int], some .char⟩ := by decide +kernel
theorem ef_rm_charAt (m : MethodId) (x0 : Addr) (x1 : Int32) : entryFrame m #[(.ref x0), (.int x1)] 2 = mkF m 0 #[.val (.ref x0), .val (.int x1)] [] := by first | (simp [entryFrame, mkF, argsToLocals, Value.category]; done) | rfl
def Q_rm_charAt (Z : State) (a1 : Addr) (i : Int32) (b : Addr) (kB : ClassId) (n : Int32) (fF : Nat → Int32) (w_MD5 : Addr) (w_SHA384 : Addr) (w_SHA256 : Addr) (w_SHA1 : Addr) (w_SHA224 : Addr) (w_SHA512 : Addr) (cs : Int32) (sf : Value) (h0 : Heap) (n0 : Nat) (v : Option Value) (h : Heap) (L : List Loc) : Prop := v = some (.int (CH (fF i.toNatClampNeg))) ∧ Fr n0 L ∧ h = h0
set_option maxRecDepth 65536 in
set_option maxHeartbeats 40000000 in
theorem rm_charAt (l : Launch) (Z : State) (a0 : Array Value) (hw : ∀ d ∈ tables_1, d.before a0 Z = true) (ws : List Jvm.Cond) (a1 : Addr) (i : Int32) (b : Addr) (kB : ClassId) (n : Int32) (fF : Nat → Int32) (w_MD5 : Addr) (w_SHA384 : Addr) (w_SHA256 : Addr) (w_SHA1 : Addr) (w_SHA224 : Addr) (w_SHA512 : Addr) (cs : Int32) (sf : Value) (h0 : Heap) (n0 : Nat) (O0 : Old Z n0 h0) (WZ : OWorld Z Z.heap w_MD5 w_SHA384 w_SHA256 w_SHA1 w_SHA224 w_SHA512 cs sf) (E_a1 : Exa Z h0 a1 "java/lang/String") (F_a1_coder : Fld Z h0 a1 "java/lang/String" "coder" "B" (.int (0 : Int32))) (F_a1_value : Fld Z h0 a1 "java/lang/String" "value" "[B" (.ref b)) (hi : ¬ i < 0) (hin : i < n) (V_b : ArfB Z h0 b kB n fF) :
    MetFree l (⟨"java/lang/String", "charAt", "(I)C"⟩ : MethodName) (head1 (Jvm.Cond.code (⟨"java/lang/String", "charAt", "(I)C"⟩ : MethodName) jdk_42_method_56_code 2 (some .char) :: ws) ({ frames := 3, cells := 0, slots := 0, locals := 40 } : Room)) (fun a U => a = #[(.ref a1), (.int i)] ∧ Z.Warmed39 U.vm ∧ U.heap = h0) (fun _ _ _ _ _ => True) (fun _ U o U' => ∃ v L, o = .returned v ∧ Q_rm_charAt Z a1 i b kB n fF w_MD5 w_SHA384 w_SHA256 w_SHA1 w_SHA224 w_SHA512 cs sf h0 n0 v U'.heap L ∧ FrameEnd U o U' L ({ frames := 3, cells := 0, slots := 0, locals := 40 } : Room).cells ({ frames := 3, cells := 0, slots := 0, locals := 40 } : Room).slots) := by
  refine MetFree.of_bodySF (plainFor_of_name pn_2) hisR ?_
  intro p e s m args below meth c s₁ Bd hml0 hP hK
  obtain ⟨rfl, hZ, hh⟩ := hP
  have hx := Bd.exec
  have hby := Bd.bytes
  have D := fun {pc : Nat} {r : Except ClassFile.DecodeError (ClassFile.Instr × Nat)} (q : decode jdk_42_method_56_code pc = r) => hb (pc := pc) hby q
  have hml : c.maxLocals = 2 := hml0
  have hown : s.vm.findClass "java/lang/String" = some m.cls := findClass_of_methodNamed Bd.named
  have hnm := (name_of_methodNamed Bd.named Bd.method).1
  have X0 : Stand p l e ({ frames := 3, cells := 0, slots := 0, locals := 40 } : Room) s m #[(.ref a1), (.int i)] below meth c s₁ [] 0 0 := Stand.of_body Bd
  have e0 : s₁.heap = h0 := by rw [← hh, Bd.state]; rfl
  have N0 := Fr.nil n0
  have pre0 : ∀ t, Steps p.tables e below (s₁.setTop (mkF m 0 #[.val (.ref a1), .val (.int i)] [])) t → Steps p.tables e below (s₁.setTop (entryFrame m #[(.ref a1), (.int i)] 2)) t := fun t k => castTop (ef_rm_charAt m (a1) (i)) k
  have wd := fun {d : Jvm.Cond} (i : Nat) (h : tables_1[i]? = some d) => hw d (List.mem_of_getElem? h)
  obtain ⟨S_MD5, E_MD5, F_MD5_hexDigits, S_SHA384, E_SHA384, F_SHA384_hexDigits, S_SHA256, E_SHA256, F_SHA256_hexDigits, S_SHA1, E_SHA1, F_SHA1_hexDigits, S_SHA224, E_SHA224, F_SHA224_hexDigits, S_SHA512, E_SHA512, F_SHA512_hexDigits, S_cs, hcs, S_sf, hsf, hch⟩ := id WZ
  obtain ⟨cq1, kq1, q1a, q1b, q1c⟩ := isOf hZ e0 E_a1
  obtain ⟨_, _, ⟨T1, L1, k1, n1⟩, -, X1, ⟨Lc1, hQ1, l1, y1, z1⟩, st1⟩ := X0.virtualBack hx (y := (⟨"java/lang/String", "isLatin1", "()Z"⟩ : MethodName)) (z := (⟨"java/lang/String", "isLatin1", "()Z"⟩ : MethodName)) hown (mvT hZ (wd 80 rfl)) (mvT hZ (wd 81 rfl)) (notFace_of_selects (args := #[]) (mvT hZ (wd 83 rfl))) (mvT hZ (wd 83 rfl)) (mvT hZ (wd 82 rfl)) (by decide) (backOf (W := 0) (rm_isl l Z a0 hw [] a1 w_MD5 w_SHA384 w_SHA256 w_SHA1 w_SHA224 w_SHA512 cs sf h0 n0 O0 WZ E_a1 F_a1_coder) hZ (wd 84 rfl) (wd 7 rfl) (by decide) (by decide)) q1a q1c (g := (mkF m 1 #[.val (.ref a1), .val (.int i)] [(.ref a1)])) rfl (by rw [hml]; rfl) (Steps.refl _) (argsL := []) (rest := []) (lenOf pd_10 rfl) rfl (by show 2 * 0 + _ ≤ _; exact Nat.le_of_eq rfl) (D d14_1) (fun _ _ => ⟨rfl, e0, (by decide : 0 + 0 ≤ _), (by decide : 0 + 0 ≤ _)⟩)
  dsimp only [Pt.U, Pt.locs, Pt.cells, Pt.slots] at X1 l1 y1 z1 st1 hQ1
  subst l1 y1 z1
  obtain ⟨rfl, N1q, e1⟩ := hQ1
  have N1 := Fr.app N0 N1q
  obtain ⟨T2, X2, e2, st2⟩ := getF X1 hx hZ hown (host := "") (Or.inl (wd 35 rfl)) Via.refl e1 F_a1_value (g := (mkF m 8 #[.val (.ref a1), .val (.int i)] [(.ref a1)])) rfl rfl (D d14_8)
  obtain ⟨_, _, ⟨T3, L3, k3, n3⟩, -, X3, ⟨Lc3, hQ3, l3, y3, z3⟩, st3⟩ := Jvm.LawKit.callS X2 hx (y := (⟨"java/lang/StringLatin1", "charAt", "([BI)C"⟩ : MethodName)) hown (mvT hZ (wd 85 rfl)) (mvT hZ (wd 86 rfl)) (mvT hZ (wd 87 rfl)) (mvT hZ (wd 88 rfl)) (by decide) (backOf (W := 0) (rm_lca l Z a0 hw [] b i kB n fF w_MD5 w_SHA384 w_SHA256 w_SHA1 w_SHA224 w_SHA512 cs sf h0 n0 O0 WZ hi hin V_b) hZ (wd 88 rfl) (wd 87 rfl) (by decide) (by decide)) (g := (mkF m 12 #[.val (.ref a1), .val (.int i)] [(.int i), (.ref b)])) rfl (by rw [hml]; rfl) (argsL := [(.ref b), (.int i)]) (rest := []) (lenOf pd_11 rfl) rfl (by show 2 * 0 + _ ≤ _; exact Nat.le_of_eq rfl) (D d14_12) (fun _ _ => ⟨rfl, e2, (by decide : 0 + 0 ≤ _), (by decide : 0 + 0 ≤ _)⟩)
  dsimp only [Pt.U, Pt.locs, Pt.cells, Pt.slots] at X3 l3 y3 z3 st3 hQ3
  subst l3 y3 z3
  obtain ⟨rfl, N3q, e3⟩ := hQ3
  have N3 := Fr.app N1 N3q
  obtain ⟨fs, hr, hrun, hended, hW, hsame⟩ := X3.leave (v := some (.int (nar .char (CH (fF i.toNatClampNeg))))) (fun h => by rw [Bd.returns] at h; cases h)
  refine ⟨_, _, pre0 _ ?_, hrun, hended, _, _, rfl, ?_, ⟨_, rfl⟩, hW, hsame.mono (by decide) (by decide)⟩
  · refine s_aloadN X0 hx (D d14_0) rfl rfl ?_
    refine st1.trans ?_
    refine s_ifNo X1 hx (D d14_4) ((if0 _ _).trans (feq (by decide : ¬ ((1 : Int32) = (0 : Int32)))).1) ?_
    refine s_aloadN X1 hx (D d14_7) rfl rfl ?_
    refine st2 _ ?_
    refine s_iloadN X2 hx (D d14_11) rfl ?_
    refine st3 _ ?_
    exact retN X3 hx (t := .char) Bd.returns (by simp) (D d14_15) hr
  · show Q_rm_charAt Z a1 i b kB n fF w_MD5 w_SHA384 w_SHA256 w_SHA1 w_SHA224 w_SHA512 cs sf h0 n0 _ T3.heap _
    rw [e3]
    exact ⟨by rw [own_narc], N3, rfl⟩
theorem own_nxt {F : Nat → Int32} {i : Nat} (h : ∀ j, j < i → HXb (CH (F j)) = true) (hq : HXb (CH (F i)) = true) : ∀ j, j < i + 1 → HXb (CH (F j)) = true := fun j hj => by
  by_cases u : j = i
  · rw [u]; exact hq
  · exact h j (by omega)
theorem d7_0 : decode prog_50_method_5_code 0 = .ok (.aload_n 1, 1) := by decide +kernel
theorem d7_1 : decode prog_50_method_5_code 1 = .ok (.invokevirtual 66, 3) := by decide +kernel
theorem d7_4 : decode prog_50_method_5_code 4 = .ok (.aload_n 0, 1) := by decide +kernel
theorem d7_5 : decode prog_50_method_5_code 5 = .ok (.getfield 45, 3) := by decide +kernel
theorem d7_8 : decode prog_50_method_5_code 8 = .ok (.if_icmp .eq 5, 3) := by decide +kernel
theorem d7_11 : decode prog_50_method_5_code 11 = .ok (.iconst 0, 1) := by decide +kernel
theorem d7_12 : decode prog_50_method_5_code 12 = .ok (.ireturn, 1) := by decide +kernel
theorem d7_13 : decode prog_50_method_5_code 13 = .ok (.iconst 0, 1) := by decide +kernel
theorem d7_14 : decode prog_50_method_5_code 14 = .ok (.istore_n 2, 1) := by decide +kernel
theorem d7_15 : decode prog_50_method_5_code 15 = .ok (.iload_n 2, 1) := by decide +kernel
theorem d7_16 : decode prog_50_method_5_code 16 = .ok (.aload_n 1, 1) := by decide +kernel
theorem d7_17 : decode prog_50_method_5_code 17 = .ok (.invokevirtual 66, 3) := by decide +kernel
theorem d7_20 : decode prog_50_method_5_code 20 = .ok (.if_icmp .ge 41, 3) := by decide +kernel
theorem d7_23 : decode prog_50_method_5_code 23 = .ok (.aload_n 1, 1) := by decide +kernel
theorem d7_24 : decode prog_50_method_5_code 24 = .ok (.iload_n 2, 1) := by decide +kernel
theorem d7_25 : decode prog_50_method_5_code 25 = .ok (.invokevirtual 72, 3) := by decide +kernel
theorem d7_28 : decode prog_50_method_5_code 28 = .ok (.istore_n 3, 1) := by decide +kernel
theorem d7_29 : decode prog_50_method_5_code 29 = .ok (.iload_n 3, 1) := by decide +kernel
theorem d7_30 : decode prog_50_method_5_code 30 = .ok (.bipush 48, 2) := by decide +kernel
theorem d7_32 : decode prog_50_method_5_code 32 = .ok (.if_icmp .lt 9, 3) := by decide +kernel
theorem d7_35 : decode prog_50_method_5_code 35 = .ok (.iload_n 3, 1) := by decide +kernel
theorem d7_36 : decode prog_50_method_5_code 36 = .ok (.bipush 57, 2) := by decide +kernel
theorem d7_38 : decode prog_50_method_5_code 38 = .ok (.if_icmp .le 17, 3) := by decide +kernel
theorem d7_41 : decode prog_50_method_5_code 41 = .ok (.iload_n 3, 1) := by decide +kernel
theorem d7_42 : decode prog_50_method_5_code 42 = .ok (.bipush 97, 2) := by decide +kernel
theorem d7_44 : decode prog_50_method_5_code 44 = .ok (.if_icmp .lt 9, 3) := by decide +kernel
theorem d7_47 : decode prog_50_method_5_code 47 = .ok (.iload_n 3, 1) := by decide +kernel
theorem d7_48 : decode prog_50_method_5_code 48 = .ok (.bipush 102, 2) := by decide +kernel
theorem d7_50 : decode prog_50_method_5_code 50 = .ok (.if_icmp .le 5, 3) := by decide +kernel
theorem d7_53 : decode prog_50_method_5_code 53 = .ok (.iconst 0, 1) := by decide +kernel
theorem d7_54 : decode prog_50_method_5_code 54 = .ok (.ireturn, 1) := by decide +kernel
theorem d7_55 : decode prog_50_method_5_code 55 = .ok (.iinc 2 1, 3) := by decide +kernel
theorem d7_58 : decode prog_50_method_5_code 58 = .ok (.goto (-43), 3) := by decide +kernel
theorem d7_61 : decode prog_50_method_5_code 61 = .ok (.iconst 1, 1) := by decide +kernel
theorem d7_62 : decode prog_50_method_5_code 62 = .ok (.ireturn, 1) := by decide +kernel
theorem pd_12 : parseMethodDescriptor "()I" = some ⟨[], some .int⟩ := by decide +kernel
theorem pd_13 : parseMethodDescriptor "(I)C" = some ⟨[.int], some .char⟩ := by decide +kernel
theorem pn_5 : plainName "com/example/packstone/packstone/model/ChecksumAlgorithm" = true := by first | (simp [plainName, overriddenIn]; done) | decide +kernel
theorem ef_rm_isck (m : MethodId) (x0 : Addr) (x1 : Addr) : entryFrame m #[(.ref x0), (.ref x1)] 4 = mkF m 0 #[.val (.ref x0), .val (.ref x1), .unset, .unset] [] := by first | (simp [entryFrame, mkF, argsToLocals, Value.category]; done) | rfl
def Q_rm_isck (Z : State) (a1 : Addr) (a2 : Addr) (d : Int32) (b : Addr) (kB : ClassId) (n : Int32) (fF : Nat → Int32) (w_MD5 : Addr) (w_SHA384 : Addr) (w_SHA256 : Addr) (w_SHA1 : Addr) (w_SHA224 : Addr) (w_SHA512 : Addr) (cs : Int32) (sf : Value) (h0 : Heap) (n0 : Nat) (v : Option Value) (h : Heap) (L : List Loc) : Prop := ∃ (r_ : Int32), v = some (.int r_) ∧ Fr n0 L ∧ Keep h0 h [] ∧ ((r_ = 1 ∧ n = d ∧ ∀ j, j < n.toNatClampNeg → HXb (CH (fF j)) = true) ∨ (r_ = 0 ∧ ¬ (n = d ∧ ∀ j, j < n.toNatClampNeg → HXb (CH (fF j)) = true)))
set_option maxRecDepth 65536 in
set_option maxHeartbeats 40000000 in
theorem rm_isck (l : Launch) (Z : State) (a0 : Array Value) (hw : ∀ d ∈ tables_1, d.before a0 Z = true) (ws : List Jvm.Cond) (a1 : Addr) (a2 : Addr) (d : Int32) (b : Addr) (kB : ClassId) (n : Int32) (fF : Nat → Int32) (w_MD5 : Addr) (w_SHA384 : Addr) (w_SHA256 : Addr) (w_SHA1 : Addr) (w_SHA224 : Addr) (w_SHA512 : Addr) (cs : Int32) (sf : Value) (h0 : Heap) (n0 : Nat) (O0 : Old Z n0 h0) (WZ : OWorld Z Z.heap w_MD5 w_SHA384 w_SHA256 w_SHA1 w_SHA224 w_SHA512 cs sf) (E_a1 : Exa Z h0 a1 "com/example/packstone/packstone/model/ChecksumAlgorithm") (F_a1_hexDigits : Fld Z h0 a1 "com/example/packstone/packstone/model/ChecksumAlgorithm" "hexDigits" "I" (.int d)) (E_a2 : Exa Z h0 a2 "java/lang/String") (F_a2_coder : Fld Z h0 a2 "java/lang/String" "coder" "B" (.int (0 : Int32))) (F_a2_value : Fld Z h0 a2 "java/lang/String" "value" "[B" (.ref b)) (V_b : ArfB Z h0 b kB n fF) :
    MetFree l (⟨"com/example/packstone/packstone/model/ChecksumAlgorithm", "isChecksum", "(Ljava/lang/String;)Z"⟩ : MethodName) (head1 (Jvm.Cond.code (⟨"com/example/packstone/packstone/model/ChecksumAlgorithm", "isChecksum", "(Ljava/lang/String;)Z"⟩ : MethodName) prog_50_method_5_code 4 (some .boolean) :: ws) ({ frames := 4, cells := 0, slots := 0, locals := 53 } : Room)) (fun a U => a = #[(.ref a1), (.ref a2)] ∧ Z.Warmed39 U.vm ∧ U.heap = h0) (fun _ _ _ _ _ => True) (fun _ U o U' => ∃ v L, o = .returned v ∧ Q_rm_isck Z a1 a2 d b kB n fF w_MD5 w_SHA384 w_SHA256 w_SHA1 w_SHA224 w_SHA512 cs sf h0 n0 v U'.heap L ∧ FrameEnd U o U' L ({ frames := 4, cells := 0, slots := 0, locals := 53 } : Room).cells ({ frames := 4, cells := 0, slots := 0, locals := 53 } : Room).slots) := by
  refine MetFree.of_bodySF (plainFor_of_name pn_5) hisR ?_
  intro p e s m args below meth c s₁ Bd hml0 hP hK
  obtain ⟨rfl, hZ, hh⟩ := hP
  have hx := Bd.exec
  have hby := Bd.bytes
  have D := fun {pc : Nat} {r : Except ClassFile.DecodeError (ClassFile.Instr × Nat)} (q : decode prog_50_method_5_code pc = r) => hb (pc := pc) hby q
  have hml : c.maxLocals = 4 := hml0
  have hown : s.vm.findClass "com/example/packstone/packstone/model/ChecksumAlgorithm" = some m.cls := findClass_of_methodNamed Bd.named
  have hnm := (name_of_methodNamed Bd.named Bd.method).1
  have X0 : Stand p l e ({ frames := 4, cells := 0, slots := 0, locals := 53 } : Room) s m #[(.ref a1), (.ref a2)] below meth c s₁ [] 0 0 := Stand.of_body Bd
  have e0 : s₁.heap = h0 := by rw [← hh, Bd.state]; rfl
  have N0 := Fr.nil n0
  have pre0 : ∀ t, Steps p.tables e below (s₁.setTop (mkF m 0 #[.val (.ref a1), .val (.ref a2), .unset, .unset] [])) t → Steps p.tables e below (s₁.setTop (entryFrame m #[(.ref a1), (.ref a2)] 4)) t := fun t k => castTop (ef_rm_isck m (a1) (a2)) k
  have wd := fun {d : Jvm.Cond} (i : Nat) (h : tables_1[i]? = some d) => hw d (List.mem_of_getElem? h)
  obtain ⟨S_MD5, E_MD5, F_MD5_hexDigits, S_SHA384, E_SHA384, F_SHA384_hexDigits, S_SHA256, E_SHA256, F_SHA256_hexDigits, S_SHA1, E_SHA1, F_SHA1_hexDigits, S_SHA224, E_SHA224, F_SHA224_hexDigits, S_SHA512, E_SHA512, F_SHA512_hexDigits, S_cs, hcs, S_sf, hsf, hch⟩ := id WZ
  obtain ⟨cq1, kq1, q1a, q1b, q1c⟩ := isOf hZ e0 E_a2
  obtain ⟨_, _, ⟨T1, L1, k1, n1⟩, -, X1, ⟨Lc1, hQ1, l1, y1, z1⟩, st1⟩ := X0.virtualBack hx (y := (⟨"java/lang/String", "length", "()I"⟩ : MethodName)) (z := (⟨"java/lang/String", "length", "()I"⟩ : MethodName)) hown (mvT hZ (wd 42 rfl)) (mvT hZ (wd 43 rfl)) (notFace_of_selects (args := #[]) (mvT hZ (wd 45 rfl))) (mvT hZ (wd 45 rfl)) (mvT hZ (wd 44 rfl)) (by decide) (backOf (W := 0) (rm_length l Z a0 hw [] a2 b kB n fF w_MD5 w_SHA384 w_SHA256 w_SHA1 w_SHA224 w_SHA512 cs sf h0 n0 O0 WZ E_a2 F_a2_coder F_a2_value V_b) hZ (wd 46 rfl) (wd 7 rfl) (by decide) (by decide)) q1a q1c (g := (mkF m 1 #[.val (.ref a1), .val (.ref a2), .unset, .unset] [(.ref a2)])) rfl (by rw [hml]; rfl) (Steps.refl _) (argsL := []) (rest := []) (lenOf pd_12 rfl) rfl (by show 2 * 0 + _ ≤ _; exact Nat.le_of_eq rfl) (D d7_1) (fun _ _ => ⟨rfl, e0, (by decide : 0 + 0 ≤ _), (by decide : 0 + 0 ≤ _)⟩)
  dsimp only [Pt.U, Pt.locs, Pt.cells, Pt.slots] at X1 l1 y1 z1 st1 hQ1
  subst l1 y1 z1
  obtain ⟨rfl, N1q, e1⟩ := hQ1
  have N1 := Fr.app N0 N1q
  obtain ⟨T2, X2, e2, st2⟩ := getF X1 hx hZ hown (host := "") (Or.inl (wd 53 rfl)) Via.refl e1 F_a1_hexDigits (g := (mkF m 5 #[.val (.ref a1), .val (.ref a2), .unset, .unset] [(.ref a1), (.int n)])) rfl rfl (D d7_5)
  have cs3 : Steps p.tables e below (s₁.setTop (mkF m 0 #[.val (.ref a1), .val (.ref a2), .unset, .unset] [])) (T2.setTop (mkF m 8 #[.val (.ref a1), .val (.ref a2), .unset, .unset] [(.int d), (.int n)])) := (by
    refine s_aloadN X0 hx (D d7_0) rfl rfl ?_
    refine st1.trans ?_
    refine s_aloadN X1 hx (D d7_4) rfl rfl ?_
    refine st2 _ ?_
    exact Steps.refl _)
  by_cases hc4 : n = d
  · have cs5 : Steps p.tables e below (s₁.setTop (mkF m 0 #[.val (.ref a1), .val (.ref a2), .unset, .unset] [])) (T2.setTop (mkF m 15 #[.val (.ref a1), .val (.ref a2), .val (.int (0 : Int32)), .unset] [])) := cs3.trans (by
      refine s_icmpYes X2 hx 13 (D d7_8) (teq hc4).1 (of_decide_eq_true rfl) rfl ?_
      refine s_iconst X2 hx (0 : Int32) (D d7_13) rfl ?_
      refine s_istoreN X2 hx (D d7_14) (l' := #[.val (.ref a1), .val (.ref a2), .val (.int (0 : Int32)), .unset]) rfl ?_
      exact Steps.refl _)
    obtain ⟨clz, Arz, -, Sz, Nz, -, -⟩ := id V_b
    have hnn := (back32 Nz).1
    have hn31 := (back32 Nz).2
    have lp : ∀ (r i : Nat), i + r = n.toNatClampNeg → ∀ (T : State) (L : List Loc) (sl : Slot), (sl = .unset ∨ ∃ a : Int32, sl = .val (.int a)) → Stand p l e ({ frames := 4, cells := 0, slots := 0, locals := 53 } : Room) s m #[(.ref a1), (.ref a2)] below meth c T L 0 0 → T.heap = h0 → Fr n0 L → (∀ j, j < i → HXb (CH (fF j)) = true) → Steps p.tables e below (s₁.setTop (mkF m 0 #[.val (.ref a1), .val (.ref a2), .unset, .unset] [])) (T.setTop (mkF m 15 #[.val (.ref a1), .val (.ref a2), .val (.int (Int32.ofNat i)), sl] [])) → ∃ (T' : State) (L' : List Loc), Stand p l e ({ frames := 4, cells := 0, slots := 0, locals := 53 } : Room) s m #[(.ref a1), (.ref a2)] below meth c T' L' 0 0 ∧ T'.heap = h0 ∧ Fr n0 L' ∧ ((∃ s2 s3 : Slot, Steps p.tables e below (s₁.setTop (mkF m 0 #[.val (.ref a1), .val (.ref a2), .unset, .unset] [])) (T'.setTop (mkF m 61 #[.val (.ref a1), .val (.ref a2), s2, s3] [])) ∧ ∀ j, j < n.toNatClampNeg → HXb (CH (fF j)) = true) ∨ (∃ s2 s3 : Slot, Steps p.tables e below (s₁.setTop (mkF m 0 #[.val (.ref a1), .val (.ref a2), .unset, .unset] [])) (T'.setTop (mkF m 53 #[.val (.ref a1), .val (.ref a2), s2, s3] [])) ∧ ∃ j, j < n.toNatClampNeg ∧ HXb (CH (fF j)) = false)) := by
      intro r
      induction r with
      | zero =>
        intro i hi T L sl hsl X eT NF hI cs0
        obtain ⟨hnat, hi0⟩ := own_natof (i := i) (by omega)
        have hlt : ¬ Int32.ofNat i < n := by rw [show Int32.ofNat i = n by rw [show i = n.toNatClampNeg by omega]; exact hnn]; exact Int32.lt_irrefl
        obtain ⟨cq6, kq6, q6a, q6b, q6c⟩ := isOf hZ eT E_a2
        obtain ⟨_, _, ⟨T6, L6, k6, n6⟩, -, X6, ⟨Lc6, hQ6, l6, y6, z6⟩, st6⟩ := X.virtualBack hx (y := (⟨"java/lang/String", "length", "()I"⟩ : MethodName)) (z := (⟨"java/lang/String", "length", "()I"⟩ : MethodName)) hown (mvT hZ (wd 42 rfl)) (mvT hZ (wd 43 rfl)) (notFace_of_selects (args := #[]) (mvT hZ (wd 45 rfl))) (mvT hZ (wd 45 rfl)) (mvT hZ (wd 44 rfl)) (by decide) (backOf (W := 1) (rm_length l Z a0 hw [] a2 b kB n fF w_MD5 w_SHA384 w_SHA256 w_SHA1 w_SHA224 w_SHA512 cs sf h0 n0 O0 WZ E_a2 F_a2_coder F_a2_value V_b) hZ (wd 46 rfl) (wd 7 rfl) (by decide) (by decide)) q6a q6c (g := (mkF m 17 #[.val (.ref a1), .val (.ref a2), .val (.int (Int32.ofNat i)), sl] [(.ref a2), (.int (Int32.ofNat i))])) rfl (by rw [hml]; rfl) (Steps.refl _) (argsL := []) (rest := [(.int (Int32.ofNat i))]) (lenOf pd_12 rfl) rfl (by show 2 * 0 + _ ≤ _; exact Nat.le_of_eq rfl) (D d7_17) (fun _ _ => ⟨rfl, eT, (by decide : 0 + 0 ≤ _), (by decide : 0 + 0 ≤ _)⟩)
        dsimp only [Pt.U, Pt.locs, Pt.cells, Pt.slots] at X6 l6 y6 z6 st6 hQ6
        subst l6 y6 z6
        obtain ⟨rfl, N6q, e6⟩ := hQ6
        have N6 := Fr.app NF N6q
        have cs7 : Steps p.tables e below (s₁.setTop (mkF m 0 #[.val (.ref a1), .val (.ref a2), .unset, .unset] [])) (T6.setTop (mkF m 61 #[.val (.ref a1), .val (.ref a2), .val (.int (Int32.ofNat i)), sl] [])) := cs0.trans (by
          refine s_iloadN X hx (D d7_15) rfl ?_
          refine s_aloadN X hx (D d7_16) rfl rfl ?_
          refine st6.trans ?_
          refine s_icmpYes X6 hx 61 (D d7_20) (flt hlt).2.1 (of_decide_eq_true rfl) rfl ?_
          exact Steps.refl _)
        exact ⟨T6, _, X6, e6, N6, Or.inl ⟨_, _, cs7, fun j hj => hI j (by omega)⟩⟩
      | succ r ih =>
        intro i hi T L sl hsl X eT NF hI cs0
        obtain ⟨hnat, hi0⟩ := own_natof (i := i) (by omega)
        have hlt : Int32.ofNat i < n := by rw [← hnn]; exact (Int32.ofNat_lt_ofNat (by omega) hn31).mpr (by omega)
        obtain ⟨cq8, kq8, q8a, q8b, q8c⟩ := isOf hZ eT E_a2
        obtain ⟨_, _, ⟨T8, L8, k8, n8⟩, -, X8, ⟨Lc8, hQ8, l8, y8, z8⟩, st8⟩ := X.virtualBack hx (y := (⟨"java/lang/String", "length", "()I"⟩ : MethodName)) (z := (⟨"java/lang/String", "length", "()I"⟩ : MethodName)) hown (mvT hZ (wd 42 rfl)) (mvT hZ (wd 43 rfl)) (notFace_of_selects (args := #[]) (mvT hZ (wd 45 rfl))) (mvT hZ (wd 45 rfl)) (mvT hZ (wd 44 rfl)) (by decide) (backOf (W := 1) (rm_length l Z a0 hw [] a2 b kB n fF w_MD5 w_SHA384 w_SHA256 w_SHA1 w_SHA224 w_SHA512 cs sf h0 n0 O0 WZ E_a2 F_a2_coder F_a2_value V_b) hZ (wd 46 rfl) (wd 7 rfl) (by decide) (by decide)) q8a q8c (g := (mkF m 17 #[.val (.ref a1), .val (.ref a2), .val (.int (Int32.ofNat i)), sl] [(.ref a2), (.int (Int32.ofNat i))])) rfl (by rw [hml]; rfl) (Steps.refl _) (argsL := []) (rest := [(.int (Int32.ofNat i))]) (lenOf pd_12 rfl) rfl (by show 2 * 0 + _ ≤ _; exact Nat.le_of_eq rfl) (D d7_17) (fun _ _ => ⟨rfl, eT, (by decide : 0 + 0 ≤ _), (by decide : 0 + 0 ≤ _)⟩)
        dsimp only [Pt.U, Pt.locs, Pt.cells, Pt.slots] at X8 l8 y8 z8 st8 hQ8
        subst l8 y8 z8
        obtain ⟨rfl, N8q, e8⟩ := hQ8
        have N8 := Fr.app NF N8q
        obtain ⟨cq9, kq9, q9a, q9b, q9c⟩ := isOf hZ e8 E_a2
        obtain ⟨_, _, ⟨T9, L9, k9, n9⟩, -, X9, ⟨Lc9, hQ9, l9, y9, z9⟩, st9⟩ := X8.virtualBack hx (y := (⟨"java/lang/String", "charAt", "(I)C"⟩ : MethodName)) (z := (⟨"java/lang/String", "charAt", "(I)C"⟩ : MethodName)) hown (mvT hZ (wd 75 rfl)) (mvT hZ (wd 76 rfl)) (notFace_of_selects (args := #[]) (mvT hZ (wd 78 rfl))) (mvT hZ (wd 78 rfl)) (mvT hZ (wd 77 rfl)) (by decide) (backOf (W := 0) (rm_charAt l Z a0 hw [] a2 (Int32.ofNat i) b kB n fF w_MD5 w_SHA384 w_SHA256 w_SHA1 w_SHA224 w_SHA512 cs sf h0 n0 O0 WZ E_a2 F_a2_coder F_a2_value hi0 hlt V_b) hZ (wd 79 rfl) (wd 7 rfl) (by decide) (by decide)) q9a q9c (g := (mkF m 25 #[.val (.ref a1), .val (.ref a2), .val (.int (Int32.ofNat i)), sl] [(.int (Int32.ofNat i)), (.ref a2)])) rfl (by rw [hml]; rfl) (Steps.refl _) (argsL := [(.int (Int32.ofNat i))]) (rest := []) (lenOf pd_13 rfl) rfl (by show 2 * 0 + _ ≤ _; exact Nat.le_of_eq rfl) (D d7_25) (fun _ _ => ⟨rfl, e8, (by decide : 0 + 0 ≤ _), (by decide : 0 + 0 ≤ _)⟩)
        dsimp only [Pt.U, Pt.locs, Pt.cells, Pt.slots] at X9 l9 y9 z9 st9 hQ9
        subst l9 y9 z9
        obtain ⟨rfl, N9q, e9⟩ := hQ9
        have N9 := Fr.app N8 N9q
        have cs10 : Steps p.tables e below (s₁.setTop (mkF m 0 #[.val (.ref a1), .val (.ref a2), .unset, .unset] [])) (T9.setTop (mkF m 32 #[.val (.ref a1), .val (.ref a2), .val (.int (Int32.ofNat i)), .val (.int (CH (fF (Int32.ofNat i).toNatClampNeg)))] [(.int (48 : Int32)), (.int (CH (fF (Int32.ofNat i).toNatClampNeg)))])) := cs0.trans (by
          refine s_iloadN X hx (D d7_15) rfl ?_
          refine s_aloadN X hx (D d7_16) rfl rfl ?_
          refine st8.trans ?_
          refine s_icmpNo X8 hx (D d7_20) (tlt hlt).2.1 ?_
          refine s_aloadN X8 hx (D d7_23) rfl rfl ?_
          refine s_iloadN X8 hx (D d7_24) rfl ?_
          refine st9.trans ?_
          refine s_istoreN X9 hx (D d7_28) (l' := #[.val (.ref a1), .val (.ref a2), .val (.int (Int32.ofNat i)), .val (.int (CH (fF (Int32.ofNat i).toNatClampNeg)))]) (by rcases hsl with h | ⟨a, h⟩ <;> subst h <;> rfl) ?_
          refine s_iloadN X9 hx (D d7_29) rfl ?_
          refine s_bipush X9 hx (48 : Int32) (D d7_30) rfl ?_
          exact Steps.refl _)
        by_cases hc11 : (CH (fF (Int32.ofNat i).toNatClampNeg)) < (48 : Int32)
        · have cs12 : Steps p.tables e below (s₁.setTop (mkF m 0 #[.val (.ref a1), .val (.ref a2), .unset, .unset] [])) (T9.setTop (mkF m 44 #[.val (.ref a1), .val (.ref a2), .val (.int (Int32.ofNat i)), .val (.int (CH (fF (Int32.ofNat i).toNatClampNeg)))] [(.int (97 : Int32)), (.int (CH (fF (Int32.ofNat i).toNatClampNeg)))])) := cs10.trans (by
            refine s_icmpYes X9 hx 41 (D d7_32) (tlt hc11).1 (of_decide_eq_true rfl) rfl ?_
            refine s_iloadN X9 hx (D d7_41) rfl ?_
            refine s_bipush X9 hx (97 : Int32) (D d7_42) rfl ?_
            exact Steps.refl _)
          by_cases hc13 : (CH (fF (Int32.ofNat i).toNatClampNeg)) < (97 : Int32)
          · have cs14 : Steps p.tables e below (s₁.setTop (mkF m 0 #[.val (.ref a1), .val (.ref a2), .unset, .unset] [])) (T9.setTop (mkF m 53 #[.val (.ref a1), .val (.ref a2), .val (.int (Int32.ofNat i)), .val (.int (CH (fF (Int32.ofNat i).toNatClampNeg)))] [])) := cs12.trans (by
              refine s_icmpYes X9 hx 53 (D d7_44) (tlt hc13).1 (of_decide_eq_true rfl) rfl ?_
              exact Steps.refl _)
            have hq : HXb (CH (fF (Int32.ofNat i).toNatClampNeg)) = false := by simp [HXb, hc11, hc13]
            rw [hnat] at hq
            exact ⟨T9, _, X9, e9, N9, Or.inr ⟨_, _, cs14, i, by omega, hq⟩⟩
          · have cs15 : Steps p.tables e below (s₁.setTop (mkF m 0 #[.val (.ref a1), .val (.ref a2), .unset, .unset] [])) (T9.setTop (mkF m 50 #[.val (.ref a1), .val (.ref a2), .val (.int (Int32.ofNat i)), .val (.int (CH (fF (Int32.ofNat i).toNatClampNeg)))] [(.int (102 : Int32)), (.int (CH (fF (Int32.ofNat i).toNatClampNeg)))])) := cs12.trans (by
              refine s_icmpNo X9 hx (D d7_44) (flt hc13).1 ?_
              refine s_iloadN X9 hx (D d7_47) rfl ?_
              refine s_bipush X9 hx (102 : Int32) (D d7_48) rfl ?_
              exact Steps.refl _)
            by_cases hc16 : (102 : Int32) < (CH (fF (Int32.ofNat i).toNatClampNeg))
            · have cs17 : Steps p.tables e below (s₁.setTop (mkF m 0 #[.val (.ref a1), .val (.ref a2), .unset, .unset] [])) (T9.setTop (mkF m 53 #[.val (.ref a1), .val (.ref a2), .val (.int (Int32.ofNat i)), .val (.int (CH (fF (Int32.ofNat i).toNatClampNeg)))] [])) := cs15.trans (by
                refine s_icmpNo X9 hx (D d7_50) (tlt hc16).2.2.2 ?_
                exact Steps.refl _)
              have hq : HXb (CH (fF (Int32.ofNat i).toNatClampNeg)) = false := by simp [HXb, hc11, hc13, hc16]
              rw [hnat] at hq
              exact ⟨T9, _, X9, e9, N9, Or.inr ⟨_, _, cs17, i, by omega, hq⟩⟩
            · have cs18 : Steps p.tables e below (s₁.setTop (mkF m 0 #[.val (.ref a1), .val (.ref a2), .unset, .unset] [])) (T9.setTop (mkF m 15 #[.val (.ref a1), .val (.ref a2), .val (.int (Int32.ofNat (i + 1))), .val (.int (CH (fF (Int32.ofNat i).toNatClampNeg)))] [])) := cs15.trans (by
                refine s_icmpYes X9 hx 55 (D d7_50) (flt hc16).2.2.2 (of_decide_eq_true rfl) rfl ?_
                refine s_iinc X9 hx (D d7_55) rfl (own_inc i) (l' := #[.val (.ref a1), .val (.ref a2), .val (.int (Int32.ofNat (i + 1))), .val (.int (CH (fF (Int32.ofNat i).toNatClampNeg)))]) rfl ?_
                refine s_goto X9 hx 15 (D d7_58) (of_decide_eq_true rfl) rfl ?_
                exact Steps.refl _)
              have hq : HXb (CH (fF (Int32.ofNat i).toNatClampNeg)) = true := by simp [HXb, hc11, hc13, hc16]
              rw [hnat] at hq
              exact ih (i + 1) (by omega) T9 _ _ (Or.inr ⟨_, rfl⟩) X9 e9 N9 (own_nxt hI hq) cs18
        · have cs19 : Steps p.tables e below (s₁.setTop (mkF m 0 #[.val (.ref a1), .val (.ref a2), .unset, .unset] [])) (T9.setTop (mkF m 38 #[.val (.ref a1), .val (.ref a2), .val (.int (Int32.ofNat i)), .val (.int (CH (fF (Int32.ofNat i).toNatClampNeg)))] [(.int (57 : Int32)), (.int (CH (fF (Int32.ofNat i).toNatClampNeg)))])) := cs10.trans (by
            refine s_icmpNo X9 hx (D d7_32) (flt hc11).1 ?_
            refine s_iloadN X9 hx (D d7_35) rfl ?_
            refine s_bipush X9 hx (57 : Int32) (D d7_36) rfl ?_
            exact Steps.refl _)
          by_cases hc20 : (57 : Int32) < (CH (fF (Int32.ofNat i).toNatClampNeg))
          · have cs21 : Steps p.tables e below (s₁.setTop (mkF m 0 #[.val (.ref a1), .val (.ref a2), .unset, .unset] [])) (T9.setTop (mkF m 44 #[.val (.ref a1), .val (.ref a2), .val (.int (Int32.ofNat i)), .val (.int (CH (fF (Int32.ofNat i).toNatClampNeg)))] [(.int (97 : Int32)), (.int (CH (fF (Int32.ofNat i).toNatClampNeg)))])) := cs19.trans (by
              refine s_icmpNo X9 hx (D d7_38) (tlt hc20).2.2.2 ?_
              refine s_iloadN X9 hx (D d7_41) rfl ?_
              refine s_bipush X9 hx (97 : Int32) (D d7_42) rfl ?_
              exact Steps.refl _)
            by_cases hc22 : (CH (fF (Int32.ofNat i).toNatClampNeg)) < (97 : Int32)
            · have cs23 : Steps p.tables e below (s₁.setTop (mkF m 0 #[.val (.ref a1), .val (.ref a2), .unset, .unset] [])) (T9.setTop (mkF m 53 #[.val (.ref a1), .val (.ref a2), .val (.int (Int32.ofNat i)), .val (.int (CH (fF (Int32.ofNat i).toNatClampNeg)))] [])) := cs21.trans (by
                refine s_icmpYes X9 hx 53 (D d7_44) (tlt hc22).1 (of_decide_eq_true rfl) rfl ?_
                exact Steps.refl _)
              have hq : HXb (CH (fF (Int32.ofNat i).toNatClampNeg)) = false := by simp [HXb, hc11, hc20, hc22]
              rw [hnat] at hq
              exact ⟨T9, _, X9, e9, N9, Or.inr ⟨_, _, cs23, i, by omega, hq⟩⟩
            · have cs24 : Steps p.tables e below (s₁.setTop (mkF m 0 #[.val (.ref a1), .val (.ref a2), .unset, .unset] [])) (T9.setTop (mkF m 50 #[.val (.ref a1), .val (.ref a2), .val (.int (Int32.ofNat i)), .val (.int (CH (fF (Int32.ofNat i).toNatClampNeg)))] [(.int (102 : Int32)), (.int (CH (fF (Int32.ofNat i).toNatClampNeg)))])) := cs21.trans (by
                refine s_icmpNo X9 hx (D d7_44) (flt hc22).1 ?_
                refine s_iloadN X9 hx (D d7_47) rfl ?_
                refine s_bipush X9 hx (102 : Int32) (D d7_48) rfl ?_
                exact Steps.refl _)
              by_cases hc25 : (102 : Int32) < (CH (fF (Int32.ofNat i).toNatClampNeg))
              · have cs26 : Steps p.tables e below (s₁.setTop (mkF m 0 #[.val (.ref a1), .val (.ref a2), .unset, .unset] [])) (T9.setTop (mkF m 53 #[.val (.ref a1), .val (.ref a2), .val (.int (Int32.ofNat i)), .val (.int (CH (fF (Int32.ofNat i).toNatClampNeg)))] [])) := cs24.trans (by
                  refine s_icmpNo X9 hx (D d7_50) (tlt hc25).2.2.2 ?_
                  exact Steps.refl _)
                have hq : HXb (CH (fF (Int32.ofNat i).toNatClampNeg)) = false := by simp [HXb, hc11, hc20, hc22, hc25]
                rw [hnat] at hq
                exact ⟨T9, _, X9, e9, N9, Or.inr ⟨_, _, cs26, i, by omega, hq⟩⟩
              · have cs27 : Steps p.tables e below (s₁.setTop (mkF m 0 #[.val (.ref a1), .val (.ref a2), .unset, .unset] [])) (T9.setTop (mkF m 15 #[.val (.ref a1), .val (.ref a2), .val (.int (Int32.ofNat (i + 1))), .val (.int (CH (fF (Int32.ofNat i).toNatClampNeg)))] [])) := cs24.trans (by
                  refine s_icmpYes X9 hx 55 (D d7_50) (flt hc25).2.2.2 (of_decide_eq_true rfl) rfl ?_
                  refine s_iinc X9 hx (D d7_55) rfl (own_inc i) (l' := #[.val (.ref a1), .val (.ref a2), .val (.int (Int32.ofNat (i + 1))), .val (.int (CH (fF (Int32.ofNat i).toNatClampNeg)))]) rfl ?_
                  refine s_goto X9 hx 15 (D d7_58) (of_decide_eq_true rfl) rfl ?_
                  exact Steps.refl _)
                have hq : HXb (CH (fF (Int32.ofNat i).toNatClampNeg)) = true := by simp [HXb, hc11, hc20, hc22, hc25]
                rw [hnat] at hq
                exact ih (i + 1) (by omega) T9 _ _ (Or.inr ⟨_, rfl⟩) X9 e9 N9 (own_nxt hI hq) cs27
          · have cs28 : Steps p.tables e below (s₁.setTop (mkF m 0 #[.val (.ref a1), .val (.ref a2), .unset, .unset] [])) (T9.setTop (mkF m 15 #[.val (.ref a1), .val (.ref a2), .val (.int (Int32.ofNat (i + 1))), .val (.int (CH (fF (Int32.ofNat i).toNatClampNeg)))] [])) := cs19.trans (by
              refine s_icmpYes X9 hx 55 (D d7_38) (flt hc20).2.2.2 (of_decide_eq_true rfl) rfl ?_
              refine s_iinc X9 hx (D d7_55) rfl (own_inc i) (l' := #[.val (.ref a1), .val (.ref a2), .val (.int (Int32.ofNat (i + 1))), .val (.int (CH (fF (Int32.ofNat i).toNatClampNeg)))]) rfl ?_
              refine s_goto X9 hx 15 (D d7_58) (of_decide_eq_true rfl) rfl ?_
              exact Steps.refl _)
            have hq : HXb (CH (fF (Int32.ofNat i).toNatClampNeg)) = true := by simp [HXb, hc11, hc20]
            rw [hnat] at hq
            exact ih (i + 1) (by omega) T9 _ _ (Or.inr ⟨_, rfl⟩) X9 e9 N9 (own_nxt hI hq) cs28
    obtain ⟨T29, L29, X29, e29, N29, hres⟩ := lp n.toNatClampNeg 0 (by omega) T2 _ _ (Or.inl rfl) X2 e2 N1 (fun j hj => absurd hj (Nat.not_lt_zero j)) cs5
    rcases hres with ⟨s2, s3, cs29, hall⟩ | ⟨s2, s3, cs29, hbad⟩
    · obtain ⟨fs, hr, hrun, hended, hW, hsame⟩ := X29.leave (v := some (.int (1 : Int32))) (fun h => by rw [Bd.returns] at h; cases h)
      refine ⟨_, _, pre0 _ ?_, hrun, hended, _, _, rfl, ?_, ⟨_, rfl⟩, hW, hsame.mono (by decide) (by decide)⟩
      · refine cs29.trans ?_
        refine s_iconst X29 hx (1 : Int32) (D d7_61) rfl ?_
        exact retN X29 hx (t := .boolean) Bd.returns (by simp) (D d7_62) hr
      · show Q_rm_isck Z a1 a2 d b kB n fF w_MD5 w_SHA384 w_SHA256 w_SHA1 w_SHA224 w_SHA512 cs sf h0 n0 _ T29.heap _
        rw [e29]
        exact ⟨(1 : Int32), rfl, N29, (Keep.refl h0 []), (Or.inl ⟨rfl, hc4, hall⟩)⟩
    · obtain ⟨fs, hr, hrun, hended, hW, hsame⟩ := X29.leave (v := some (.int (0 : Int32))) (fun h => by rw [Bd.returns] at h; cases h)
      refine ⟨_, _, pre0 _ ?_, hrun, hended, _, _, rfl, ?_, ⟨_, rfl⟩, hW, hsame.mono (by decide) (by decide)⟩
      · refine cs29.trans ?_
        refine s_iconst X29 hx (0 : Int32) (D d7_53) rfl ?_
        exact retN X29 hx (t := .boolean) Bd.returns (by simp) (D d7_54) hr
      · show Q_rm_isck Z a1 a2 d b kB n fF w_MD5 w_SHA384 w_SHA256 w_SHA1 w_SHA224 w_SHA512 cs sf h0 n0 _ T29.heap _
        rw [e29]
        exact ⟨(0 : Int32), rfl, N29, (Keep.refl h0 []), (Or.inr ⟨rfl, fun q => by obtain ⟨j, hj, hb⟩ := hbad; rw [q.2 j hj] at hb; cases hb⟩)⟩
  · obtain ⟨fs, hr, hrun, hended, hW, hsame⟩ := X2.leave (v := some (.int (0 : Int32))) (fun h => by rw [Bd.returns] at h; cases h)
    refine ⟨_, _, pre0 _ ?_, hrun, hended, _, _, rfl, ?_, ⟨_, rfl⟩, hW, hsame.mono (by decide) (by decide)⟩
    · refine cs3.trans ?_
      refine s_icmpNo X2 hx (D d7_8) (feq hc4).1 ?_
      refine s_iconst X2 hx (0 : Int32) (D d7_11) rfl ?_
      exact retN X2 hx (t := .boolean) Bd.returns (by simp) (D d7_12) hr
    · show Q_rm_isck Z a1 a2 d b kB n fF w_MD5 w_SHA384 w_SHA256 w_SHA1 w_SHA224 w_SHA512 cs sf h0 n0 _ T2.heap _
      rw [e2]
      exact ⟨(0 : Int32), rfl, N1, (Keep.refl h0 []), (Or.inr ⟨rfl, fun q => hc4 q.1⟩)⟩
/-- the first k chars are '0' -/
def ZF (k : Nat) : Nat → Int32 := fun i => if i < k then 48 else 0
theorem own_zf (k : Nat) : (fun j => if j = k then (48 : Int32) else ZF k j) = ZF (k + 1) := by
  funext j
  unfold ZF
  by_cases u : j = k
  · rw [if_pos u, if_pos (by omega)]
  · rw [if_neg u]
    by_cases v : j < k
    · rw [if_pos v, if_pos (by omega)]
    · rw [if_neg v, if_neg (by omega)]
theorem own_zf0 : (fun _ => (0 : Int32)) = ZF 0 := by funext j; unfold ZF; rw [if_neg (by omega)]
def DG (d : Int32) : Prop := d = 32 ∨ d = 40 ∨ d = 56 ∨ d = 64 ∨ d = 96 ∨ d = 128
def LB (n : Int32) : Prop := ¬ n < 0 ∧ n < 130
theorem own_lb0 {d : Int32} (h : DG d) : LB d ∧ LB (d - 1) ∧ LB (d + 1) ∧ (0 : Int32) < d := by
  unfold LB
  rcases h with rfl | rfl | rfl | rfl | rfl | rfl <;> decide
theorem own_lb3 (k : Int32) : LB (((k.toUInt32 >>> ((2 : Int32) &&& 31).toUInt32).toInt32) % (130 : Int32)) := by
  have e1 := c_iushr k 2 2 (by decide) (by decide)
  have h4 : ((2 ^ 2 : Nat) : Int) = 4 := by decide
  rw [h4] at e1
  have e2 := (c_irem ((k.toUInt32 >>> ((2 : Int32) &&& 31).toUInt32).toInt32) 130 130 (by decide)).1 (by omega)
  have h0 : (0 : Int32).toInt = 0 := by decide
  have h1 : (130 : Int32).toInt = 130 := by decide
  unfold LB
  rw [Int32.lt_iff_toInt_lt, Int32.lt_iff_toInt_lt, h0, h1, e2]
  omega
theorem own_lbn {n : Int32} (h : LB n) : ¬ n < 0 ∧ ¬ (130 : Int32) < n := ⟨h.1, fun q => absurd (Int32.lt_trans q h.2) (Int32.lt_irrefl)⟩
theorem own_rem {x n : Int32} (h : LB n) (hp : (0 : Int32) < n) : (0 ≤ ((x &&& (2147483647 : Int32)) % n).toInt ∧ ((x &&& (2147483647 : Int32)) % n).toInt < n.toInt) := by
  have e1 : (x &&& (2147483647 : Int32)).toInt = x.toInt % (2 ^ 31 : Nat) := c_mask x 2147483647 31 (by decide) (by decide)
  have h0 : (0 : Int32).toInt = 0 := by decide
  have hp' : 0 < n.toInt := by rw [Int32.lt_iff_toInt_lt, h0] at hp; exact hp
  have e2 := (c_irem (x &&& (2147483647 : Int32)) n n.toInt rfl).1 (by rw [e1]; omega)
  rw [e2]
  exact ⟨Int.emod_nonneg _ (by omega), Int.emod_lt_of_pos _ hp'⟩
theorem own_remb {x n : Int32} (h : LB n) (hp : (0 : Int32) < n) : ¬ ((x &&& (2147483647 : Int32)) % n) < 0 ∧ ((x &&& (2147483647 : Int32)) % n) < (130 : Int32) := by
  have q := own_rem (x := x) h hp
  have h0 : (0 : Int32).toInt = 0 := by decide
  have h1 : (130 : Int32).toInt = 130 := by decide
  have h2 := h.2
  rw [Int32.lt_iff_toInt_lt, h1] at h2
  rw [Int32.lt_iff_toInt_lt, Int32.lt_iff_toInt_lt, h0, h1]
  omega
theorem own_remn {x n : Int32} (h : LB n) (hp : (0 : Int32) < n) : ((x &&& (2147483647 : Int32)) % n).toNatClampNeg < n.toNatClampNeg := by
  have q := own_rem (x := x) h hp
  show ((x &&& (2147483647 : Int32)) % n).toInt.toNat < n.toInt.toNat
  omega
theorem own_nz0 {n : Int32} (hp : (0 : Int32) < n) : n ≠ 0 := fun e => by rw [e] at hp; exact absurd hp (by decide)
def AH (n : Int32) (F : Nat → Int32) : Prop := ∀ j, j < n.toNatClampNeg → HXb (F j) = true
def EXP (x n d : Int32) (F : Nat → Int32) : Prop := (x = 1 ∧ n = d ∧ AH n F) ∨ (x = 0 ∧ ¬ (n = d ∧ AH n F))
theorem own_cf {F : Nat → Int32} {i j : Nat} {x y : Int32} (hF : ∀ k, ¬ F k < 0 ∧ ¬ (255 : Int32) < F k) (hx : ¬ x < 0 ∧ ¬ (255 : Int32) < x) (hy : ¬ y < 0 ∧ ¬ (255 : Int32) < y) : ∀ k, ¬ upd (upd F i x) j y k < 0 ∧ ¬ (255 : Int32) < upd (upd F i x) j y k := fun k => by
  unfold upd
  by_cases u : k = j
  · rw [if_pos u]; exact hy
  · rw [if_neg u]
    by_cases v : k = i
    · rw [if_pos v]; exact hx
    · rw [if_neg v]; exact hF k
theorem own_zc : ∀ k, ¬ ZF 130 k < 0 ∧ ¬ (255 : Int32) < ZF 130 k := fun k => by
  unfold ZF
  by_cases u : k < 130
  · rw [if_pos u]; decide
  · rw [if_neg u]; decide
theorem own_ah {n : Int32} {i j : Nat} {x y : Int32} (hn : n.toNatClampNeg ≤ 130) (h1 : HXb (upd (upd (ZF 130) i x) j y i) = true) (h2 : HXb (upd (upd (ZF 130) i x) j y j) = true) : AH n (upd (upd (ZF 130) i x) j y) := fun k hk => by
  by_cases u : k = j
  · rw [u]; exact h2
  · by_cases v : k = i
    · rw [v]; exact h1
    · have e : upd (upd (ZF 130) i x) j y k = 48 := by
        show (if k = j then y else if k = i then x else ZF 130 k) = 48
        rw [if_neg u, if_neg v]
        show (if k < 130 then (48 : Int32) else 0) = 48
        rw [if_pos (by omega)]
      rw [e]; rfl
theorem own_itb {b : Bool} : ((if b then (1 : Int32) else (0 : Int32)) = (0 : Int32)) ↔ b = false := by cases b <;> decide
theorem own_fin {r x n d : Int32} {F : Nat → Int32} (hF : ∀ k, ¬ F k < 0 ∧ ¬ (255 : Int32) < F k) (h : (r = 1 ∧ n = d ∧ ∀ j, j < n.toNatClampNeg → HXb (CH (BF F n.toNatClampNeg j)) = true) ∨ (r = 0 ∧ ¬ (n = d ∧ ∀ j, j < n.toNatClampNeg → HXb (CH (BF F n.toNatClampNeg j)) = true))) (g : EXP x n d F) : r = x := by
  have e : (∀ j, j < n.toNatClampNeg → HXb (CH (BF F n.toNatClampNeg j)) = true) ↔ AH n F := by
    have q : ∀ j, j < n.toNatClampNeg → CH (BF F n.toNatClampNeg j) = F j := fun j hj => by
      show CH (if j < n.toNatClampNeg then BV (F j) else 0) = F j
      rw [if_pos hj]; exact own_chb (hF j)
    exact ⟨fun h j hj => by rw [← q j hj]; exact h j hj, fun h j hj => by rw [q j hj]; exact h j hj⟩
  rw [e] at h
  rcases h with ⟨a, b⟩ | ⟨a, b⟩ <;> rcases g with ⟨u, v⟩ | ⟨u, v⟩
  · rw [a, u]
  · exact absurd b v
  · exact absurd v b
  · rw [a, u]
theorem own_zst {p : Program} {l : Launch} {e : Env} {R : Room} {s Z : State} {m : MethodId} {args : Array Value} {below : List Frame} {meth : Method} {c : Code} {T : State} {locs : List Loc} {cells slots : Nat} {h : Heap} {a : Addr} {k : ClassId} (X : Stand p l e R s m args below meth c T locs cells slots) (hx : p.tables.exec = Jvm.exec) (hZ : Z.Warmed39 s.vm) (eT : T.heap = h) {i : Nat} (V : ArfC Z h a k (130 : Int32) (ZF i)) {j : Int32} (hj : j.toNatClampNeg = i) (hi : i < 130 ∧ ¬ j < 0)
    {g : JFrame} (hg : g.method = m) {rest : List Value} (hs : g.stack = .int 48 :: .int j :: .ref a :: rest) (hd : decode c.code g.pc = .ok (.castore, 1)) :
    ∃ T' h', Stand p l e R s m args below meth c T' (locs ++ [⟨a, j.toNatClampNeg⟩]) cells slots ∧ T'.heap = h' ∧ (Wr h h' a j.toNatClampNeg (.int 48) ∧ ArfC Z h' a k (130 : Int32) (ZF (i + 1))) ∧ ∀ target, Steps p.tables e below (T'.setTop { g with pc := g.pc + 1, stack := rest }) target → Steps p.tables e below (T.setTop g) target := by
  obtain ⟨cl, A, q, S, N, H, -⟩ := id V
  have hin : ¬ (j < 0 ∨ cl.slots.size ≤ j.toNatClampNeg) := by
    rw [hj, show cl.slots.size = 130 from S]; intro z; rcases z with z | z
    · exact hi.2 z
    · omega
  obtain ⟨T', h', X', e', W, st⟩ := stC X hx hZ eT A hin hg hs hd
  have W' : Wr h h' a j.toNatClampNeg (.int 48) := W
  refine ⟨T', h', X', e', ⟨W', ?_⟩, st⟩
  have r := ArfC.set A q S N H W'
  rw [hj, own_zf] at r
  exact r
theorem own_ex0 {x n d : Int32} {F : Nat → Int32} (hd : DG d) (hl : LB n) (hz : ¬ (0 : Int32) < n) (h : (x = 1 ∧ n = d) ∨ (x = 0 ∧ ¬ n = d)) : EXP x n d F := by
  have hp := (own_lb0 hd).2.2.2
  rcases h with ⟨a, b⟩ | ⟨a, b⟩
  · rw [b] at hz; exact absurd hp hz
  · exact Or.inr ⟨a, fun q => b q.1⟩
theorem own_exa {x n d : Int32} {F : Nat → Int32} (h : (x = 1 ∧ n = d) ∨ (x = 0 ∧ ¬ n = d)) (hx : x = 0) : EXP 0 n d F := by
  rcases h with ⟨a, b⟩ | ⟨a, b⟩
  · rw [hx] at a; exact absurd a (by decide)
  · exact Or.inr ⟨rfl, fun q => b q.1⟩
theorem own_exb {n d y j : Int32} {F : Nat → Int32} (hj : j.toNatClampNeg < n.toNatClampNeg) (hb : HXb y = false) (hy : y = F j.toNatClampNeg) : EXP 0 n d F := Or.inr ⟨rfl, fun q => by
  have r := q.2 _ hj
  rw [← hy, hb] at r
  cases r⟩
theorem own_exc {x n d y1 y2 i j u v : Int32} (h : (x = 1 ∧ n = d) ∨ (x = 0 ∧ ¬ n = d)) (hn : n.toNatClampNeg ≤ 130) (hx : ¬ x = 0) (h1 : ¬ (if HXb y1 then (1 : Int32) else (0 : Int32)) = 0) (e1 : y1 = upd (upd (ZF 130) i.toNatClampNeg u) j.toNatClampNeg v i.toNatClampNeg) (h2 : ¬ (if HXb y2 then (1 : Int32) else (0 : Int32)) = 0) (e2 : y2 = upd (upd (ZF 130) i.toNatClampNeg u) j.toNatClampNeg v j.toNatClampNeg) : EXP 1 n d (upd (upd (ZF 130) i.toNatClampNeg u) j.toNatClampNeg v) := by
  have g1 : HXb y1 = true := by cases q : HXb y1 with | true => rfl | false => exact absurd (own_itb.mpr q) h1
  have g2 : HXb y2 = true := by cases q : HXb y2 with | true => rfl | false => exact absurd (own_itb.mpr q) h2
  rw [e1] at g1
  rw [e2] at g2
  rcases h with ⟨a, b⟩ | ⟨a, b⟩
  · exact Or.inl ⟨rfl, b, own_ah hn g1 g2⟩
  · exact absurd a hx
theorem pd_14 : parseMethodDescriptor "(C)Z" = some ⟨[.char], some .boolean⟩ := by decide +kernel
theorem pd_15 : parseMethodDescriptor "([CII)V" = some ⟨[(.array .char), .int, .int], none⟩ := by decide +kernel
theorem pd_16 : parseMethodDescriptor "(Ljava/lang/String;)Z" = some ⟨[(.object "java/lang/String")], some .boolean⟩ := by decide +kernel
theorem ef_rm0 (m : MethodId) (x0 : Int32) (x1 : Int32) (x2 : Int32) (x3 : Int32) (x4 : Int32) (x5 : Int32) : entryFrame m #[(.int x0), (.int x1), (.int x2), (.int x3), (.int x4), (.int x5)] maxLocals = mkF m 0 #[.val (.int x0), .val (.int x1), .val (.int x2), .val (.int x3), .val (.int x4), .val (.int x5), .unset, .unset, .unset, .unset, .unset, .unset, .unset, .unset, .unset, .unset] [] := by first | (simp [entryFrame, mkF, argsToLocals, Value.category, maxLocals]; done) | rfl
def Q_rm0 (Z : State) (p0 : Int32) (p1 : Int32) (p2 : Int32) (p3 : Int32) (p4 : Int32) (p5 : Int32) (w_MD5 : Addr) (w_SHA384 : Addr) (w_SHA256 : Addr) (w_SHA1 : Addr) (w_SHA224 : Addr) (w_SHA512 : Addr) (cs : Int32) (sf : Value) (h0 : Heap) (n0 : Nat) (v : Option Value) (h : Heap) (L : List Loc) : Prop := v = some (.int (1 : Int32)) ∧ Fr n0 L ∧ Keep h0 h []
set_option maxRecDepth 65536 in
set_option maxHeartbeats 40000000 in
theorem rm0 (l : Launch) (Z : State) (a0 : Array Value) (hw : ∀ d ∈ tables_1, d.before a0 Z = true) (ws : List Jvm.Cond) (p0 : Int32) (p1 : Int32) (p2 : Int32) (p3 : Int32) (p4 : Int32) (p5 : Int32) (w_MD5 : Addr) (w_SHA384 : Addr) (w_SHA256 : Addr) (w_SHA1 : Addr) (w_SHA224 : Addr) (w_SHA512 : Addr) (cs : Int32) (sf : Value) (h0 : Heap) (n0 : Nat) (O0 : Old Z n0 h0) (WZ : OWorld Z Z.heap w_MD5 w_SHA384 w_SHA256 w_SHA1 w_SHA224 w_SHA512 cs sf) (hcw : Jvm.Lit.compactW.before a0 Z = true) :
    MetFree l x (head1 (Jvm.Cond.code x code maxLocals ret :: ws) room_1) (fun a U => a = #[(.int p0), (.int p1), (.int p2), (.int p3), (.int p4), (.int p5)] ∧ Z.WarmedH U.vm ∧ U.heap = h0) (fun _ _ _ _ _ => True) (fun _ U o U' => ∃ v L, o = .returned v ∧ Q_rm0 Z p0 p1 p2 p3 p4 p5 w_MD5 w_SHA384 w_SHA256 w_SHA1 w_SHA224 w_SHA512 cs sf h0 n0 v U'.heap L ∧ ReturnedEndW U o U' L room_1.cells room_1.slots) := by
  refine MetFree.of_bodySF (plainFor_of_name pn_0) hisR ?_
  intro p e s m args below meth c s₁ Bd hml0 hP hK
  obtain ⟨rfl, hZH, hh⟩ := hP
  have hZ := hZH.wide
  have hx := Bd.exec
  have hby := Bd.bytes
  have D := fun {pc : Nat} {r : Except ClassFile.DecodeError (ClassFile.Instr × Nat)} (q : decode code pc = r) => hb (pc := pc) hby q
  have hml : c.maxLocals = 16 := hml0
  have hown : s.vm.findClass "com/example/packstone/packstone/model/ChecksumAlgorithmIsChecksumPinLaw" = some m.cls := findClass_of_methodNamed Bd.named
  have hnm := (name_of_methodNamed Bd.named Bd.method).1
  have X0 : Stand p l e room_1 s m #[(.int p0), (.int p1), (.int p2), (.int p3), (.int p4), (.int p5)] below meth c s₁ [] 0 0 := Stand.of_body Bd
  have e0 : s₁.heap = h0 := by rw [← hh, Bd.state]; rfl
  have N0 := Fr.nil n0
  have pre0 : ∀ t, Steps p.tables e below (s₁.setTop (mkF m 0 #[.val (.int p0), .val (.int p1), .val (.int p2), .val (.int p3), .val (.int p4), .val (.int p5), .unset, .unset, .unset, .unset, .unset, .unset, .unset, .unset, .unset, .unset] [])) t → Steps p.tables e below (s₁.setTop (entryFrame m #[(.int p0), (.int p1), (.int p2), (.int p3), (.int p4), (.int p5)] maxLocals)) t := fun t k => castTop (ef_rm0 m (p0) (p1) (p2) (p3) (p4) (p5)) k
  have wd := fun {d : Jvm.Cond} (i : Nat) (h : tables_1[i]? = some d) => hw d (List.mem_of_getElem? h)
  obtain ⟨S_MD5, E_MD5, F_MD5_hexDigits, S_SHA384, E_SHA384, F_SHA384_hexDigits, S_SHA256, E_SHA256, F_SHA256_hexDigits, S_SHA1, E_SHA1, F_SHA1_hexDigits, S_SHA224, E_SHA224, F_SHA224_hexDigits, S_SHA512, E_SHA512, F_SHA512_hexDigits, S_cs, hcs, S_sf, hsf, hch⟩ := id WZ
  have cs2 : Steps p.tables e below (s₁.setTop (mkF m 0 #[.val (.int p0), .val (.int p1), .val (.int p2), .val (.int p3), .val (.int p4), .val (.int p5), .unset, .unset, .unset, .unset, .unset, .unset, .unset, .unset, .unset, .unset] [])) (s₁.setTop (mkF m 11 #[.val (.int p0), .val (.int p1), .val (.int p2), .val (.int p3), .val (.int p4), .val (.int p5), .val (.int ((p0 &&& (2147483647 : Int32)) % (6 : Int32))), .unset, .unset, .unset, .unset, .unset, .unset, .unset, .unset, .unset] [(.int ((p0 &&& (2147483647 : Int32)) % (6 : Int32)))])) := (by
    refine s_iloadN X0 hx (D at_0) rfl ?_
    refine X0.ldcInt hx hown (mvT hZ (wd 0 rfl)) (g := (mkF m 1 #[.val (.int p0), .val (.int p1), .val (.int p2), .val (.int p3), .val (.int p4), .val (.int p5), .unset, .unset, .unset, .unset, .unset, .unset, .unset, .unset, .unset, .unset] [(.int p0)])) rfl (D at_1) _ ?_
    refine s_iand X0 hx (D at_3) rfl ?_
    refine s_bipush X0 hx (6 : Int32) (D at_4) rfl ?_
    refine s_irem X0 hx (D at_6) (by decide) rfl ?_
    refine s_istore X0 hx (D at_7) (l' := #[.val (.int p0), .val (.int p1), .val (.int p2), .val (.int p3), .val (.int p4), .val (.int p5), .val (.int ((p0 &&& (2147483647 : Int32)) % (6 : Int32))), .unset, .unset, .unset, .unset, .unset, .unset, .unset, .unset, .unset]) rfl ?_
    refine s_iload X0 hx (D at_9) rfl ?_
    exact Steps.refl _)
  have jn1 : ∃ (jw_1 : (Addr)) (jd_1 : Int32) (T : State) (L : List Loc) (h : Heap), Stand p l e room_1 s m #[(.int p0), (.int p1), (.int p2), (.int p3), (.int p4), (.int p5)] below meth c T L 0 0 ∧ T.heap = h ∧ Fr n0 L ∧ Keep h0 h [] ∧ Old Z n0 h ∧ Exa Z h jw_1 "com/example/packstone/packstone/model/ChecksumAlgorithm" ∧ Fld Z h jw_1 "com/example/packstone/packstone/model/ChecksumAlgorithm" "hexDigits" "I" (.int jd_1) ∧ DG jd_1 ∧ Steps p.tables e below (s₁.setTop (mkF m 0 #[.val (.int p0), .val (.int p1), .val (.int p2), .val (.int p3), .val (.int p4), .val (.int p5), .unset, .unset, .unset, .unset, .unset, .unset, .unset, .unset, .unset, .unset] [])) (T.setTop (mkF m 108 #[.val (.int p0), .val (.int p1), .val (.int p2), .val (.int p3), .val (.int p4), .val (.int p5), .val (.int ((p0 &&& (2147483647 : Int32)) % (6 : Int32))), .val (.ref jw_1), .val (.int jd_1), .unset, .unset, .unset, .unset, .unset, .unset, .unset] [])) := by
    by_cases hc3 : ((p0 &&& (2147483647 : Int32)) % (6 : Int32)) = (0 : Int32)
    · obtain ⟨T4, X4, e4, st4⟩ := getS2 X0 hx hZ hown (host := "") (Or.inl (wd 1 rfl)) Via.refl e0 (S_MD5.ext O0.2) (g := (mkF m 14 #[.val (.int p0), .val (.int p1), .val (.int p2), .val (.int p3), .val (.int p4), .val (.int p5), .val (.int ((p0 &&& (2147483647 : Int32)) % (6 : Int32))), .unset, .unset, .unset, .unset, .unset, .unset, .unset, .unset, .unset] [])) rfl (D at_14)
      have cs5 : Steps p.tables e below (s₁.setTop (mkF m 0 #[.val (.int p0), .val (.int p1), .val (.int p2), .val (.int p3), .val (.int p4), .val (.int p5), .unset, .unset, .unset, .unset, .unset, .unset, .unset, .unset, .unset, .unset] [])) (T4.setTop (mkF m 108 #[.val (.int p0), .val (.int p1), .val (.int p2), .val (.int p3), .val (.int p4), .val (.int p5), .val (.int ((p0 &&& (2147483647 : Int32)) % (6 : Int32))), .val (.ref w_MD5), .val (.int (32 : Int32)), .unset, .unset, .unset, .unset, .unset, .unset, .unset] [])) := cs2.trans (by
        refine s_ifNo X0 hx (D at_11) ((if0 _ _).trans (teq hc3).2) ?_
        refine st4 _ ?_
        refine s_astore X4 hx (D at_17) rfl (l' := #[.val (.int p0), .val (.int p1), .val (.int p2), .val (.int p3), .val (.int p4), .val (.int p5), .val (.int ((p0 &&& (2147483647 : Int32)) % (6 : Int32))), .val (.ref w_MD5), .unset, .unset, .unset, .unset, .unset, .unset, .unset, .unset]) rfl ?_
        refine s_bipush X4 hx (32 : Int32) (D at_19) rfl ?_
        refine s_istore X4 hx (D at_21) (l' := #[.val (.int p0), .val (.int p1), .val (.int p2), .val (.int p3), .val (.int p4), .val (.int p5), .val (.int ((p0 &&& (2147483647 : Int32)) % (6 : Int32))), .val (.ref w_MD5), .val (.int (32 : Int32)), .unset, .unset, .unset, .unset, .unset, .unset, .unset]) rfl ?_
        refine s_goto X4 hx 108 (D at_23) (of_decide_eq_true rfl) rfl ?_
        exact Steps.refl _)
      exact ⟨w_MD5, (32 : Int32), T4, _, _, X4, e4, N0, (Keep.refl h0 []), O0, (E_MD5.ext O0.2), (F_MD5_hexDigits.ext O0.2), (Or.inl rfl), cs5⟩
    · have cs6 : Steps p.tables e below (s₁.setTop (mkF m 0 #[.val (.int p0), .val (.int p1), .val (.int p2), .val (.int p3), .val (.int p4), .val (.int p5), .unset, .unset, .unset, .unset, .unset, .unset, .unset, .unset, .unset, .unset] [])) (s₁.setTop (mkF m 29 #[.val (.int p0), .val (.int p1), .val (.int p2), .val (.int p3), .val (.int p4), .val (.int p5), .val (.int ((p0 &&& (2147483647 : Int32)) % (6 : Int32))), .unset, .unset, .unset, .unset, .unset, .unset, .unset, .unset, .unset] [(.int (1 : Int32)), (.int ((p0 &&& (2147483647 : Int32)) % (6 : Int32)))])) := cs2.trans (by
        refine s_ifYes X0 hx 26 (D at_11) ((if0 _ _).trans (feq hc3).2) (of_decide_eq_true rfl) rfl ?_
        refine s_iload X0 hx (D at_26) rfl ?_
        refine s_iconst X0 hx (1 : Int32) (D at_28) rfl ?_
        exact Steps.refl _)
      by_cases hc7 : ((p0 &&& (2147483647 : Int32)) % (6 : Int32)) = (1 : Int32)
      · obtain ⟨T8, X8, e8, st8⟩ := getS2 X0 hx hZ hown (host := "") (Or.inl (wd 69 rfl)) Via.refl e0 (S_SHA1.ext O0.2) (g := (mkF m 32 #[.val (.int p0), .val (.int p1), .val (.int p2), .val (.int p3), .val (.int p4), .val (.int p5), .val (.int ((p0 &&& (2147483647 : Int32)) % (6 : Int32))), .unset, .unset, .unset, .unset, .unset, .unset, .unset, .unset, .unset] [])) rfl (D at_32)
        have cs9 : Steps p.tables e below (s₁.setTop (mkF m 0 #[.val (.int p0), .val (.int p1), .val (.int p2), .val (.int p3), .val (.int p4), .val (.int p5), .unset, .unset, .unset, .unset, .unset, .unset, .unset, .unset, .unset, .unset] [])) (T8.setTop (mkF m 108 #[.val (.int p0), .val (.int p1), .val (.int p2), .val (.int p3), .val (.int p4), .val (.int p5), .val (.int ((p0 &&& (2147483647 : Int32)) % (6 : Int32))), .val (.ref w_SHA1), .val (.int (40 : Int32)), .unset, .unset, .unset, .unset, .unset, .unset, .unset] [])) := cs6.trans (by
          refine s_icmpNo X0 hx (D at_29) (teq hc7).2 ?_
          refine st8 _ ?_
          refine s_astore X8 hx (D at_35) rfl (l' := #[.val (.int p0), .val (.int p1), .val (.int p2), .val (.int p3), .val (.int p4), .val (.int p5), .val (.int ((p0 &&& (2147483647 : Int32)) % (6 : Int32))), .val (.ref w_SHA1), .unset, .unset, .unset, .unset, .unset, .unset, .unset, .unset]) rfl ?_
          refine s_bipush X8 hx (40 : Int32) (D at_37) rfl ?_
          refine s_istore X8 hx (D at_39) (l' := #[.val (.int p0), .val (.int p1), .val (.int p2), .val (.int p3), .val (.int p4), .val (.int p5), .val (.int ((p0 &&& (2147483647 : Int32)) % (6 : Int32))), .val (.ref w_SHA1), .val (.int (40 : Int32)), .unset, .unset, .unset, .unset, .unset, .unset, .unset]) rfl ?_
          refine s_goto X8 hx 108 (D at_41) (of_decide_eq_true rfl) rfl ?_
          exact Steps.refl _)
        exact ⟨w_SHA1, (40 : Int32), T8, _, _, X8, e8, N0, (Keep.refl h0 []), O0, (E_SHA1.ext O0.2), (F_SHA1_hexDigits.ext O0.2), (Or.inr (Or.inl rfl)), cs9⟩
      · have cs10 : Steps p.tables e below (s₁.setTop (mkF m 0 #[.val (.int p0), .val (.int p1), .val (.int p2), .val (.int p3), .val (.int p4), .val (.int p5), .unset, .unset, .unset, .unset, .unset, .unset, .unset, .unset, .unset, .unset] [])) (s₁.setTop (mkF m 47 #[.val (.int p0), .val (.int p1), .val (.int p2), .val (.int p3), .val (.int p4), .val (.int p5), .val (.int ((p0 &&& (2147483647 : Int32)) % (6 : Int32))), .unset, .unset, .unset, .unset, .unset, .unset, .unset, .unset, .unset] [(.int (2 : Int32)), (.int ((p0 &&& (2147483647 : Int32)) % (6 : Int32)))])) := cs6.trans (by
          refine s_icmpYes X0 hx 44 (D at_29) (feq hc7).2 (of_decide_eq_true rfl) rfl ?_
          refine s_iload X0 hx (D at_44) rfl ?_
          refine s_iconst X0 hx (2 : Int32) (D at_46) rfl ?_
          exact Steps.refl _)
        by_cases hc11 : ((p0 &&& (2147483647 : Int32)) % (6 : Int32)) = (2 : Int32)
        · obtain ⟨T12, X12, e12, st12⟩ := getS2 X0 hx hZ hown (host := "") (Or.inl (wd 95 rfl)) Via.refl e0 (S_SHA224.ext O0.2) (g := (mkF m 50 #[.val (.int p0), .val (.int p1), .val (.int p2), .val (.int p3), .val (.int p4), .val (.int p5), .val (.int ((p0 &&& (2147483647 : Int32)) % (6 : Int32))), .unset, .unset, .unset, .unset, .unset, .unset, .unset, .unset, .unset] [])) rfl (D at_50)
          have cs13 : Steps p.tables e below (s₁.setTop (mkF m 0 #[.val (.int p0), .val (.int p1), .val (.int p2), .val (.int p3), .val (.int p4), .val (.int p5), .unset, .unset, .unset, .unset, .unset, .unset, .unset, .unset, .unset, .unset] [])) (T12.setTop (mkF m 108 #[.val (.int p0), .val (.int p1), .val (.int p2), .val (.int p3), .val (.int p4), .val (.int p5), .val (.int ((p0 &&& (2147483647 : Int32)) % (6 : Int32))), .val (.ref w_SHA224), .val (.int (56 : Int32)), .unset, .unset, .unset, .unset, .unset, .unset, .unset] [])) := cs10.trans (by
            refine s_icmpNo X0 hx (D at_47) (teq hc11).2 ?_
            refine st12 _ ?_
            refine s_astore X12 hx (D at_53) rfl (l' := #[.val (.int p0), .val (.int p1), .val (.int p2), .val (.int p3), .val (.int p4), .val (.int p5), .val (.int ((p0 &&& (2147483647 : Int32)) % (6 : Int32))), .val (.ref w_SHA224), .unset, .unset, .unset, .unset, .unset, .unset, .unset, .unset]) rfl ?_
            refine s_bipush X12 hx (56 : Int32) (D at_55) rfl ?_
            refine s_istore X12 hx (D at_57) (l' := #[.val (.int p0), .val (.int p1), .val (.int p2), .val (.int p3), .val (.int p4), .val (.int p5), .val (.int ((p0 &&& (2147483647 : Int32)) % (6 : Int32))), .val (.ref w_SHA224), .val (.int (56 : Int32)), .unset, .unset, .unset, .unset, .unset, .unset, .unset]) rfl ?_
            refine s_goto X12 hx 108 (D at_59) (of_decide_eq_true rfl) rfl ?_
            exact Steps.refl _)
          exact ⟨w_SHA224, (56 : Int32), T12, _, _, X12, e12, N0, (Keep.refl h0 []), O0, (E_SHA224.ext O0.2), (F_SHA224_hexDigits.ext O0.2), (Or.inr (Or.inr (Or.inl rfl))), cs13⟩
        · have cs14 : Steps p.tables e below (s₁.setTop (mkF m 0 #[.val (.int p0), .val (.int p1), .val (.int p2), .val (.int p3), .val (.int p4), .val (.int p5), .unset, .unset, .unset, .unset, .unset, .unset, .unset, .unset, .unset, .unset] [])) (s₁.setTop (mkF m 65 #[.val (.int p0), .val (.int p1), .val (.int p2), .val (.int p3), .val (.int p4), .val (.int p5), .val (.int ((p0 &&& (2147483647 : Int32)) % (6 : Int32))), .unset, .unset, .unset, .unset, .unset, .unset, .unset, .unset, .unset] [(.int (3 : Int32)), (.int ((p0 &&& (2147483647 : Int32)) % (6 : Int32)))])) := cs10.trans (by
            refine s_icmpYes X0 hx 62 (D at_47) (feq hc11).2 (of_decide_eq_true rfl) rfl ?_
            refine s_iload X0 hx (D at_62) rfl ?_
            refine s_iconst X0 hx (3 : Int32) (D at_64) rfl ?_
            exact Steps.refl _)
          by_cases hc15 : ((p0 &&& (2147483647 : Int32)) % (6 : Int32)) = (3 : Int32)
          · obtain ⟨T16, X16, e16, st16⟩ := getS2 X0 hx hZ hown (host := "") (Or.inl (wd 67 rfl)) Via.refl e0 (S_SHA256.ext O0.2) (g := (mkF m 68 #[.val (.int p0), .val (.int p1), .val (.int p2), .val (.int p3), .val (.int p4), .val (.int p5), .val (.int ((p0 &&& (2147483647 : Int32)) % (6 : Int32))), .unset, .unset, .unset, .unset, .unset, .unset, .unset, .unset, .unset] [])) rfl (D at_68)
            have cs17 : Steps p.tables e below (s₁.setTop (mkF m 0 #[.val (.int p0), .val (.int p1), .val (.int p2), .val (.int p3), .val (.int p4), .val (.int p5), .unset, .unset, .unset, .unset, .unset, .unset, .unset, .unset, .unset, .unset] [])) (T16.setTop (mkF m 108 #[.val (.int p0), .val (.int p1), .val (.int p2), .val (.int p3), .val (.int p4), .val (.int p5), .val (.int ((p0 &&& (2147483647 : Int32)) % (6 : Int32))), .val (.ref w_SHA256), .val (.int (64 : Int32)), .unset, .unset, .unset, .unset, .unset, .unset, .unset] [])) := cs14.trans (by
              refine s_icmpNo X0 hx (D at_65) (teq hc15).2 ?_
              refine st16 _ ?_
              refine s_astore X16 hx (D at_71) rfl (l' := #[.val (.int p0), .val (.int p1), .val (.int p2), .val (.int p3), .val (.int p4), .val (.int p5), .val (.int ((p0 &&& (2147483647 : Int32)) % (6 : Int32))), .val (.ref w_SHA256), .unset, .unset, .unset, .unset, .unset, .unset, .unset, .unset]) rfl ?_
              refine s_bipush X16 hx (64 : Int32) (D at_73) rfl ?_
              refine s_istore X16 hx (D at_75) (l' := #[.val (.int p0), .val (.int p1), .val (.int p2), .val (.int p3), .val (.int p4), .val (.int p5), .val (.int ((p0 &&& (2147483647 : Int32)) % (6 : Int32))), .val (.ref w_SHA256), .val (.int (64 : Int32)), .unset, .unset, .unset, .unset, .unset, .unset, .unset]) rfl ?_
              refine s_goto X16 hx 108 (D at_77) (of_decide_eq_true rfl) rfl ?_
              exact Steps.refl _)
            exact ⟨w_SHA256, (64 : Int32), T16, _, _, X16, e16, N0, (Keep.refl h0 []), O0, (E_SHA256.ext O0.2), (F_SHA256_hexDigits.ext O0.2), (Or.inr (Or.inr (Or.inr (Or.inl rfl)))), cs17⟩
          · have cs18 : Steps p.tables e below (s₁.setTop (mkF m 0 #[.val (.int p0), .val (.int p1), .val (.int p2), .val (.int p3), .val (.int p4), .val (.int p5), .unset, .unset, .unset, .unset, .unset, .unset, .unset, .unset, .unset, .unset] [])) (s₁.setTop (mkF m 83 #[.val (.int p0), .val (.int p1), .val (.int p2), .val (.int p3), .val (.int p4), .val (.int p5), .val (.int ((p0 &&& (2147483647 : Int32)) % (6 : Int32))), .unset, .unset, .unset, .unset, .unset, .unset, .unset, .unset, .unset] [(.int (4 : Int32)), (.int ((p0 &&& (2147483647 : Int32)) % (6 : Int32)))])) := cs14.trans (by
              refine s_icmpYes X0 hx 80 (D at_65) (feq hc15).2 (of_decide_eq_true rfl) rfl ?_
              refine s_iload X0 hx (D at_80) rfl ?_
              refine s_iconst X0 hx (4 : Int32) (D at_82) rfl ?_
              exact Steps.refl _)
            by_cases hc19 : ((p0 &&& (2147483647 : Int32)) % (6 : Int32)) = (4 : Int32)
            · obtain ⟨T20, X20, e20, st20⟩ := getS2 X0 hx hZ hown (host := "") (Or.inl (wd 55 rfl)) Via.refl e0 (S_SHA384.ext O0.2) (g := (mkF m 86 #[.val (.int p0), .val (.int p1), .val (.int p2), .val (.int p3), .val (.int p4), .val (.int p5), .val (.int ((p0 &&& (2147483647 : Int32)) % (6 : Int32))), .unset, .unset, .unset, .unset, .unset, .unset, .unset, .unset, .unset] [])) rfl (D at_86)
              have cs21 : Steps p.tables e below (s₁.setTop (mkF m 0 #[.val (.int p0), .val (.int p1), .val (.int p2), .val (.int p3), .val (.int p4), .val (.int p5), .unset, .unset, .unset, .unset, .unset, .unset, .unset, .unset, .unset, .unset] [])) (T20.setTop (mkF m 108 #[.val (.int p0), .val (.int p1), .val (.int p2), .val (.int p3), .val (.int p4), .val (.int p5), .val (.int ((p0 &&& (2147483647 : Int32)) % (6 : Int32))), .val (.ref w_SHA384), .val (.int (96 : Int32)), .unset, .unset, .unset, .unset, .unset, .unset, .unset] [])) := cs18.trans (by
                refine s_icmpNo X0 hx (D at_83) (teq hc19).2 ?_
                refine st20 _ ?_
                refine s_astore X20 hx (D at_89) rfl (l' := #[.val (.int p0), .val (.int p1), .val (.int p2), .val (.int p3), .val (.int p4), .val (.int p5), .val (.int ((p0 &&& (2147483647 : Int32)) % (6 : Int32))), .val (.ref w_SHA384), .unset, .unset, .unset, .unset, .unset, .unset, .unset, .unset]) rfl ?_
                refine s_bipush X20 hx (96 : Int32) (D at_91) rfl ?_
                refine s_istore X20 hx (D at_93) (l' := #[.val (.int p0), .val (.int p1), .val (.int p2), .val (.int p3), .val (.int p4), .val (.int p5), .val (.int ((p0 &&& (2147483647 : Int32)) % (6 : Int32))), .val (.ref w_SHA384), .val (.int (96 : Int32)), .unset, .unset, .unset, .unset, .unset, .unset, .unset]) rfl ?_
                refine s_goto X20 hx 108 (D at_95) (of_decide_eq_true rfl) rfl ?_
                exact Steps.refl _)
              exact ⟨w_SHA384, (96 : Int32), T20, _, _, X20, e20, N0, (Keep.refl h0 []), O0, (E_SHA384.ext O0.2), (F_SHA384_hexDigits.ext O0.2), (Or.inr (Or.inr (Or.inr (Or.inr (Or.inl rfl))))), cs21⟩
            · obtain ⟨T22, X22, e22, st22⟩ := getS2 X0 hx hZ hown (host := "") (Or.inl (wd 97 rfl)) Via.refl e0 (S_SHA512.ext O0.2) (g := (mkF m 98 #[.val (.int p0), .val (.int p1), .val (.int p2), .val (.int p3), .val (.int p4), .val (.int p5), .val (.int ((p0 &&& (2147483647 : Int32)) % (6 : Int32))), .unset, .unset, .unset, .unset, .unset, .unset, .unset, .unset, .unset] [])) rfl (D at_98)
              have cs23 : Steps p.tables e below (s₁.setTop (mkF m 0 #[.val (.int p0), .val (.int p1), .val (.int p2), .val (.int p3), .val (.int p4), .val (.int p5), .unset, .unset, .unset, .unset, .unset, .unset, .unset, .unset, .unset, .unset] [])) (T22.setTop (mkF m 108 #[.val (.int p0), .val (.int p1), .val (.int p2), .val (.int p3), .val (.int p4), .val (.int p5), .val (.int ((p0 &&& (2147483647 : Int32)) % (6 : Int32))), .val (.ref w_SHA512), .val (.int (128 : Int32)), .unset, .unset, .unset, .unset, .unset, .unset, .unset] [])) := cs18.trans (by
                refine s_icmpYes X0 hx 98 (D at_83) (feq hc19).2 (of_decide_eq_true rfl) rfl ?_
                refine st22 _ ?_
                refine s_astore X22 hx (D at_101) rfl (l' := #[.val (.int p0), .val (.int p1), .val (.int p2), .val (.int p3), .val (.int p4), .val (.int p5), .val (.int ((p0 &&& (2147483647 : Int32)) % (6 : Int32))), .val (.ref w_SHA512), .unset, .unset, .unset, .unset, .unset, .unset, .unset, .unset]) rfl ?_
                refine s_sipush X22 hx (128 : Int32) (D at_103) rfl ?_
                refine s_istore X22 hx (D at_106) (l' := #[.val (.int p0), .val (.int p1), .val (.int p2), .val (.int p3), .val (.int p4), .val (.int p5), .val (.int ((p0 &&& (2147483647 : Int32)) % (6 : Int32))), .val (.ref w_SHA512), .val (.int (128 : Int32)), .unset, .unset, .unset, .unset, .unset, .unset, .unset]) rfl ?_
                exact Steps.refl _)
              exact ⟨w_SHA512, (128 : Int32), T22, _, _, X22, e22, N0, (Keep.refl h0 []), O0, (E_SHA512.ext O0.2), (F_SHA512_hexDigits.ext O0.2), (Or.inr (Or.inr (Or.inr (Or.inr (Or.inr rfl))))), cs23⟩
  obtain ⟨jw_1, jd_1, Tj1, Lj1, hj1, Xj1, ej1, Nj1, Kj1, Oj1, Jp1_0, Jp1_1, Jp1_2, cj1⟩ := jn1
  obtain ⟨T24, h24, fk24, X24, e24, E24, A24, st24⟩ := newP Xj1 hx hZ (wd 4 rfl) ej1 (g := (mkF m 115 #[.val (.int p0), .val (.int p1), .val (.int p2), .val (.int p3), .val (.int p4), .val (.int p5), .val (.int ((p0 &&& (2147483647 : Int32)) % (6 : Int32))), .val (.ref jw_1), .val (.int jd_1), .val (.int (48 : Int32)), .unset, .unset, .unset, .unset, .unset, .unset] [(.int (130 : Int32))])) rfl (D at_115) rfl (by decide) (cap := 130) (by decide) (by decide) (by decide) (by decide)
  obtain ⟨fa24, g24⟩ : ∃ z, z = hj1.size := ⟨_, rfl⟩
  rw [← g24] at A24 st24
  have gn_fa24 : n0 ≤ fa24 := Nat.le_trans (own_oldsz Oj1) (Nat.le_of_eq g24.symm)
  have gh_fa24 : h0.size ≤ fa24 := Nat.le_trans Kj1.1 (Nat.le_of_eq g24.symm)
  have Zn24 : n0 ≤ h24.size := Nat.le_trans (own_oldsz Oj1) E24.1
  have K24 : Keep h0 h24 [] := Kj1.ext E24
  have O24 := Oj1.ext E24
  have V24 : Arv Z h24 fa24 fk24 .char (130 : Int32) [] (.int (0 : Int32)) := (Arv.new A24 (by decide)).pad (pad_rep [] (.int (0 : Int32)) 0)
  have Vf26 : ArfC Z h24 fa24 fk24 (130 : Int32) (ZF 0) := by rw [← own_zf0]; exact ArfC.of V24
  obtain ⟨T25, h25, X25, e25, Wz25, st25⟩ := own_zst X24 hx hZ e24 Vf26 (i := 0) (by decide) (by decide) (g := (mkF m 121 #[.val (.int p0), .val (.int p1), .val (.int p2), .val (.int p3), .val (.int p4), .val (.int p5), .val (.int ((p0 &&& (2147483647 : Int32)) % (6 : Int32))), .val (.ref jw_1), .val (.int jd_1), .val (.int (48 : Int32)), .unset, .unset, .unset, .unset, .unset, .unset] [(.int (48 : Int32)), (.int (0 : Int32)), (.ref fa24), (.ref fa24)])) rfl rfl (D at_121)
  obtain ⟨W25, V25⟩ := Wz25
  have N25 := Fr.snoc X25 Nj1 gn_fa24
  have Zn25 : n0 ≤ h25.size := Nat.le_trans Zn24 (Keep.of_wr W25).1
  have K25 : Keep h0 h25 [] := K24.wr W25 (Or.inr gh_fa24)
  have O25 := O24.wr W25 gn_fa24
  obtain ⟨T27, h27, X27, e27, Wz27, st27⟩ := own_zst X25 hx hZ e25 V25 (i := 1) (by decide) (by decide) (g := (mkF m 126 #[.val (.int p0), .val (.int p1), .val (.int p2), .val (.int p3), .val (.int p4), .val (.int p5), .val (.int ((p0 &&& (2147483647 : Int32)) % (6 : Int32))), .val (.ref jw_1), .val (.int jd_1), .val (.int (48 : Int32)), .unset, .unset, .unset, .unset, .unset, .unset] [(.int (48 : Int32)), (.int (1 : Int32)), (.ref fa24), (.ref fa24)])) rfl rfl (D at_126)
  obtain ⟨W27, V27⟩ := Wz27
  have N27 := Fr.snoc X27 N25 gn_fa24
  have Zn27 : n0 ≤ h27.size := Nat.le_trans Zn25 (Keep.of_wr W27).1
  have K27 : Keep h0 h27 [] := K25.wr W27 (Or.inr gh_fa24)
  have O27 := O25.wr W27 gn_fa24
  obtain ⟨T28, h28, X28, e28, Wz28, st28⟩ := own_zst X27 hx hZ e27 V27 (i := 2) (by decide) (by decide) (g := (mkF m 131 #[.val (.int p0), .val (.int p1), .val (.int p2), .val (.int p3), .val (.int p4), .val (.int p5), .val (.int ((p0 &&& (2147483647 : Int32)) % (6 : Int32))), .val (.ref jw_1), .val (.int jd_1), .val (.int (48 : Int32)), .unset, .unset, .unset, .unset, .unset, .unset] [(.int (48 : Int32)), (.int (2 : Int32)), (.ref fa24), (.ref fa24)])) rfl rfl (D at_131)
  obtain ⟨W28, V28⟩ := Wz28
  have N28 := Fr.snoc X28 N27 gn_fa24
  have Zn28 : n0 ≤ h28.size := Nat.le_trans Zn27 (Keep.of_wr W28).1
  have K28 : Keep h0 h28 [] := K27.wr W28 (Or.inr gh_fa24)
  have O28 := O27.wr W28 gn_fa24
  obtain ⟨T29, h29, X29, e29, Wz29, st29⟩ := own_zst X28 hx hZ e28 V28 (i := 3) (by decide) (by decide) (g := (mkF m 136 #[.val (.int p0), .val (.int p1), .val (.int p2), .val (.int p3), .val (.int p4), .val (.int p5), .val (.int ((p0 &&& (2147483647 : Int32)) % (6 : Int32))), .val (.ref jw_1), .val (.int jd_1), .val (.int (48 : Int32)), .unset, .unset, .unset, .unset, .unset, .unset] [(.int (48 : Int32)), (.int (3 : Int32)), (.ref fa24), (.ref fa24)])) rfl rfl (D at_136)
  obtain ⟨W29, V29⟩ := Wz29
  have N29 := Fr.snoc X29 N28 gn_fa24
  have Zn29 : n0 ≤ h29.size := Nat.le_trans Zn28 (Keep.of_wr W29).1
  have K29 : Keep h0 h29 [] := K28.wr W29 (Or.inr gh_fa24)
  have O29 := O28.wr W29 gn_fa24
  obtain ⟨T30, h30, X30, e30, Wz30, st30⟩ := own_zst X29 hx hZ e29 V29 (i := 4) (by decide) (by decide) (g := (mkF m 141 #[.val (.int p0), .val (.int p1), .val (.int p2), .val (.int p3), .val (.int p4), .val (.int p5), .val (.int ((p0 &&& (2147483647 : Int32)) % (6 : Int32))), .val (.ref jw_1), .val (.int jd_1), .val (.int (48 : Int32)), .unset, .unset, .unset, .unset, .unset, .unset] [(.int (48 : Int32)), (.int (4 : Int32)), (.ref fa24), (.ref fa24)])) rfl rfl (D at_141)
  obtain ⟨W30, V30⟩ := Wz30
  have N30 := Fr.snoc X30 N29 gn_fa24
  have Zn30 : n0 ≤ h30.size := Nat.le_trans Zn29 (Keep.of_wr W30).1
  have K30 : Keep h0 h30 [] := K29.wr W30 (Or.inr gh_fa24)
  have O30 := O29.wr W30 gn_fa24
  obtain ⟨T31, h31, X31, e31, Wz31, st31⟩ := own_zst X30 hx hZ e30 V30 (i := 5) (by decide) (by decide) (g := (mkF m 146 #[.val (.int p0), .val (.int p1), .val (.int p2), .val (.int p3), .val (.int p4), .val (.int p5), .val (.int ((p0 &&& (2147483647 : Int32)) % (6 : Int32))), .val (.ref jw_1), .val (.int jd_1), .val (.int (48 : Int32)), .unset, .unset, .unset, .unset, .unset, .unset] [(.int (48 : Int32)), (.int (5 : Int32)), (.ref fa24), (.ref fa24)])) rfl rfl (D at_146)
  obtain ⟨W31, V31⟩ := Wz31
  have N31 := Fr.snoc X31 N30 gn_fa24
  have Zn31 : n0 ≤ h31.size := Nat.le_trans Zn30 (Keep.of_wr W31).1
  have K31 : Keep h0 h31 [] := K30.wr W31 (Or.inr gh_fa24)
  have O31 := O30.wr W31 gn_fa24
  obtain ⟨T32, h32, X32, e32, Wz32, st32⟩ := own_zst X31 hx hZ e31 V31 (i := 6) (by decide) (by decide) (g := (mkF m 152 #[.val (.int p0), .val (.int p1), .val (.int p2), .val (.int p3), .val (.int p4), .val (.int p5), .val (.int ((p0 &&& (2147483647 : Int32)) % (6 : Int32))), .val (.ref jw_1), .val (.int jd_1), .val (.int (48 : Int32)), .unset, .unset, .unset, .unset, .unset, .unset] [(.int (48 : Int32)), (.int (6 : Int32)), (.ref fa24), (.ref fa24)])) rfl rfl (D at_152)
  obtain ⟨W32, V32⟩ := Wz32
  have N32 := Fr.snoc X32 N31 gn_fa24
  have Zn32 : n0 ≤ h32.size := Nat.le_trans Zn31 (Keep.of_wr W32).1
  have K32 : Keep h0 h32 [] := K31.wr W32 (Or.inr gh_fa24)
  have O32 := O31.wr W32 gn_fa24
  obtain ⟨T33, h33, X33, e33, Wz33, st33⟩ := own_zst X32 hx hZ e32 V32 (i := 7) (by decide) (by decide) (g := (mkF m 158 #[.val (.int p0), .val (.int p1), .val (.int p2), .val (.int p3), .val (.int p4), .val (.int p5), .val (.int ((p0 &&& (2147483647 : Int32)) % (6 : Int32))), .val (.ref jw_1), .val (.int jd_1), .val (.int (48 : Int32)), .unset, .unset, .unset, .unset, .unset, .unset] [(.int (48 : Int32)), (.int (7 : Int32)), (.ref fa24), (.ref fa24)])) rfl rfl (D at_158)
  obtain ⟨W33, V33⟩ := Wz33
  have N33 := Fr.snoc X33 N32 gn_fa24
  have Zn33 : n0 ≤ h33.size := Nat.le_trans Zn32 (Keep.of_wr W33).1
  have K33 : Keep h0 h33 [] := K32.wr W33 (Or.inr gh_fa24)
  have O33 := O32.wr W33 gn_fa24
  obtain ⟨T34, h34, X34, e34, Wz34, st34⟩ := own_zst X33 hx hZ e33 V33 (i := 8) (by decide) (by decide) (g := (mkF m 164 #[.val (.int p0), .val (.int p1), .val (.int p2), .val (.int p3), .val (.int p4), .val (.int p5), .val (.int ((p0 &&& (2147483647 : Int32)) % (6 : Int32))), .val (.ref jw_1), .val (.int jd_1), .val (.int (48 : Int32)), .unset, .unset, .unset, .unset, .unset, .unset] [(.int (48 : Int32)), (.int (8 : Int32)), (.ref fa24), (.ref fa24)])) rfl rfl (D at_164)
  obtain ⟨W34, V34⟩ := Wz34
  have N34 := Fr.snoc X34 N33 gn_fa24
  have Zn34 : n0 ≤ h34.size := Nat.le_trans Zn33 (Keep.of_wr W34).1
  have K34 : Keep h0 h34 [] := K33.wr W34 (Or.inr gh_fa24)
  have O34 := O33.wr W34 gn_fa24
  obtain ⟨T35, h35, X35, e35, Wz35, st35⟩ := own_zst X34 hx hZ e34 V34 (i := 9) (by decide) (by decide) (g := (mkF m 170 #[.val (.int p0), .val (.int p1), .val (.int p2), .val (.int p3), .val (.int p4), .val (.int p5), .val (.int ((p0 &&& (2147483647 : Int32)) % (6 : Int32))), .val (.ref jw_1), .val (.int jd_1), .val (.int (48 : Int32)), .unset, .unset, .unset, .unset, .unset, .unset] [(.int (48 : Int32)), (.int (9 : Int32)), (.ref fa24), (.ref fa24)])) rfl rfl (D at_170)
  obtain ⟨W35, V35⟩ := Wz35
  have N35 := Fr.snoc X35 N34 gn_fa24
  have Zn35 : n0 ≤ h35.size := Nat.le_trans Zn34 (Keep.of_wr W35).1
  have K35 : Keep h0 h35 [] := K34.wr W35 (Or.inr gh_fa24)
  have O35 := O34.wr W35 gn_fa24
  have cs36 : Steps p.tables e below (s₁.setTop (mkF m 0 #[.val (.int p0), .val (.int p1), .val (.int p2), .val (.int p3), .val (.int p4), .val (.int p5), .unset, .unset, .unset, .unset, .unset, .unset, .unset, .unset, .unset, .unset] [])) (T35.setTop (mkF m 171 #[.val (.int p0), .val (.int p1), .val (.int p2), .val (.int p3), .val (.int p4), .val (.int p5), .val (.int ((p0 &&& (2147483647 : Int32)) % (6 : Int32))), .val (.ref jw_1), .val (.int jd_1), .val (.int (48 : Int32)), .unset, .unset, .unset, .unset, .unset, .unset] [(.ref fa24)])) := cj1.trans (by
    refine s_bipush Xj1 hx (48 : Int32) (D at_108) rfl ?_
    refine s_istore Xj1 hx (D at_110) (l' := #[.val (.int p0), .val (.int p1), .val (.int p2), .val (.int p3), .val (.int p4), .val (.int p5), .val (.int ((p0 &&& (2147483647 : Int32)) % (6 : Int32))), .val (.ref jw_1), .val (.int jd_1), .val (.int (48 : Int32)), .unset, .unset, .unset, .unset, .unset, .unset]) rfl ?_
    refine s_sipush Xj1 hx (130 : Int32) (D at_112) rfl ?_
    refine st24 _ ?_
    refine s_dup X24 hx (D at_117) rfl ?_
    refine s_iconst X24 hx (0 : Int32) (D at_118) rfl ?_
    refine s_iload X24 hx (D at_119) rfl ?_
    refine st25 _ ?_
    refine s_dup X25 hx (D at_122) rfl ?_
    refine s_iconst X25 hx (1 : Int32) (D at_123) rfl ?_
    refine s_iload X25 hx (D at_124) rfl ?_
    refine st27 _ ?_
    refine s_dup X27 hx (D at_127) rfl ?_
    refine s_iconst X27 hx (2 : Int32) (D at_128) rfl ?_
    refine s_iload X27 hx (D at_129) rfl ?_
    refine st28 _ ?_
    refine s_dup X28 hx (D at_132) rfl ?_
    refine s_iconst X28 hx (3 : Int32) (D at_133) rfl ?_
    refine s_iload X28 hx (D at_134) rfl ?_
    refine st29 _ ?_
    refine s_dup X29 hx (D at_137) rfl ?_
    refine s_iconst X29 hx (4 : Int32) (D at_138) rfl ?_
    refine s_iload X29 hx (D at_139) rfl ?_
    refine st30 _ ?_
    refine s_dup X30 hx (D at_142) rfl ?_
    refine s_iconst X30 hx (5 : Int32) (D at_143) rfl ?_
    refine s_iload X30 hx (D at_144) rfl ?_
    refine st31 _ ?_
    refine s_dup X31 hx (D at_147) rfl ?_
    refine s_bipush X31 hx (6 : Int32) (D at_148) rfl ?_
    refine s_iload X31 hx (D at_150) rfl ?_
    refine st32 _ ?_
    refine s_dup X32 hx (D at_153) rfl ?_
    refine s_bipush X32 hx (7 : Int32) (D at_154) rfl ?_
    refine s_iload X32 hx (D at_156) rfl ?_
    refine st33 _ ?_
    refine s_dup X33 hx (D at_159) rfl ?_
    refine s_bipush X33 hx (8 : Int32) (D at_160) rfl ?_
    refine s_iload X33 hx (D at_162) rfl ?_
    refine st34 _ ?_
    refine s_dup X34 hx (D at_165) rfl ?_
    refine s_bipush X34 hx (9 : Int32) (D at_166) rfl ?_
    refine s_iload X34 hx (D at_168) rfl ?_
    refine st35 _ ?_
    exact Steps.refl _)
  obtain ⟨T37, h37, X37, e37, Wz37, st37⟩ := own_zst X35 hx hZ e35 V35 (i := 10) (by decide) (by decide) (g := (mkF m 176 #[.val (.int p0), .val (.int p1), .val (.int p2), .val (.int p3), .val (.int p4), .val (.int p5), .val (.int ((p0 &&& (2147483647 : Int32)) % (6 : Int32))), .val (.ref jw_1), .val (.int jd_1), .val (.int (48 : Int32)), .unset, .unset, .unset, .unset, .unset, .unset] [(.int (48 : Int32)), (.int (10 : Int32)), (.ref fa24), (.ref fa24)])) rfl rfl (D at_176)
  obtain ⟨W37, V37⟩ := Wz37
  have N37 := Fr.snoc X37 N35 gn_fa24
  have Zn37 : n0 ≤ h37.size := Nat.le_trans Zn35 (Keep.of_wr W37).1
  have K37 : Keep h0 h37 [] := K35.wr W37 (Or.inr gh_fa24)
  have O37 := O35.wr W37 gn_fa24
  obtain ⟨T38, h38, X38, e38, Wz38, st38⟩ := own_zst X37 hx hZ e37 V37 (i := 11) (by decide) (by decide) (g := (mkF m 182 #[.val (.int p0), .val (.int p1), .val (.int p2), .val (.int p3), .val (.int p4), .val (.int p5), .val (.int ((p0 &&& (2147483647 : Int32)) % (6 : Int32))), .val (.ref jw_1), .val (.int jd_1), .val (.int (48 : Int32)), .unset, .unset, .unset, .unset, .unset, .unset] [(.int (48 : Int32)), (.int (11 : Int32)), (.ref fa24), (.ref fa24)])) rfl rfl (D at_182)
  obtain ⟨W38, V38⟩ := Wz38
  have N38 := Fr.snoc X38 N37 gn_fa24
  have Zn38 : n0 ≤ h38.size := Nat.le_trans Zn37 (Keep.of_wr W38).1
  have K38 : Keep h0 h38 [] := K37.wr W38 (Or.inr gh_fa24)
  have O38 := O37.wr W38 gn_fa24
  obtain ⟨T39, h39, X39, e39, Wz39, st39⟩ := own_zst X38 hx hZ e38 V38 (i := 12) (by decide) (by decide) (g := (mkF m 188 #[.val (.int p0), .val (.int p1), .val (.int p2), .val (.int p3), .val (.int p4), .val (.int p5), .val (.int ((p0 &&& (2147483647 : Int32)) % (6 : Int32))), .val (.ref jw_1), .val (.int jd_1), .val (.int (48 : Int32)), .unset, .unset, .unset, .unset, .unset, .unset] [(.int (48 : Int32)), (.int (12 : Int32)), (.ref fa24), (.ref fa24)])) rfl rfl (D at_188)
  obtain ⟨W39, V39⟩ := Wz39
  have N39 := Fr.snoc X39 N38 gn_fa24
  have Zn39 : n0 ≤ h39.size := Nat.le_trans Zn38 (Keep.of_wr W39).1
  have K39 : Keep h0 h39 [] := K38.wr W39 (Or.inr gh_fa24)
  have O39 := O38.wr W39 gn_fa24
  obtain ⟨T40, h40, X40, e40, Wz40, st40⟩ := own_zst X39 hx hZ e39 V39 (i := 13) (by decide) (by decide) (g := (mkF m 194 #[.val (.int p0), .val (.int p1), .val (.int p2), .val (.int p3), .val (.int p4), .val (.int p5), .val (.int ((p0 &&& (2147483647 : Int32)) % (6 : Int32))), .val (.ref jw_1), .val (.int jd_1), .val (.int (48 : Int32)), .unset, .unset, .unset, .unset, .unset, .unset] [(.int (48 : Int32)), (.int (13 : Int32)), (.ref fa24), (.ref fa24)])) rfl rfl (D at_194)
  obtain ⟨W40, V40⟩ := Wz40
  have N40 := Fr.snoc X40 N39 gn_fa24
  have Zn40 : n0 ≤ h40.size := Nat.le_trans Zn39 (Keep.of_wr W40).1
  have K40 : Keep h0 h40 [] := K39.wr W40 (Or.inr gh_fa24)
  have O40 := O39.wr W40 gn_fa24
  obtain ⟨T41, h41, X41, e41, Wz41, st41⟩ := own_zst X40 hx hZ e40 V40 (i := 14) (by decide) (by decide) (g := (mkF m 200 #[.val (.int p0), .val (.int p1), .val (.int p2), .val (.int p3), .val (.int p4), .val (.int p5), .val (.int ((p0 &&& (2147483647 : Int32)) % (6 : Int32))), .val (.ref jw_1), .val (.int jd_1), .val (.int (48 : Int32)), .unset, .unset, .unset, .unset, .unset, .unset] [(.int (48 : Int32)), (.int (14 : Int32)), (.ref fa24), (.ref fa24)])) rfl rfl (D at_200)
  obtain ⟨W41, V41⟩ := Wz41
  have N41 := Fr.snoc X41 N40 gn_fa24
  have Zn41 : n0 ≤ h41.size := Nat.le_trans Zn40 (Keep.of_wr W41).1
  have K41 : Keep h0 h41 [] := K40.wr W41 (Or.inr gh_fa24)
  have O41 := O40.wr W41 gn_fa24
  obtain ⟨T42, h42, X42, e42, Wz42, st42⟩ := own_zst X41 hx hZ e41 V41 (i := 15) (by decide) (by decide) (g := (mkF m 206 #[.val (.int p0), .val (.int p1), .val (.int p2), .val (.int p3), .val (.int p4), .val (.int p5), .val (.int ((p0 &&& (2147483647 : Int32)) % (6 : Int32))), .val (.ref jw_1), .val (.int jd_1), .val (.int (48 : Int32)), .unset, .unset, .unset, .unset, .unset, .unset] [(.int (48 : Int32)), (.int (15 : Int32)), (.ref fa24), (.ref fa24)])) rfl rfl (D at_206)
  obtain ⟨W42, V42⟩ := Wz42
  have N42 := Fr.snoc X42 N41 gn_fa24
  have Zn42 : n0 ≤ h42.size := Nat.le_trans Zn41 (Keep.of_wr W42).1
  have K42 : Keep h0 h42 [] := K41.wr W42 (Or.inr gh_fa24)
  have O42 := O41.wr W42 gn_fa24
  obtain ⟨T43, h43, X43, e43, Wz43, st43⟩ := own_zst X42 hx hZ e42 V42 (i := 16) (by decide) (by decide) (g := (mkF m 212 #[.val (.int p0), .val (.int p1), .val (.int p2), .val (.int p3), .val (.int p4), .val (.int p5), .val (.int ((p0 &&& (2147483647 : Int32)) % (6 : Int32))), .val (.ref jw_1), .val (.int jd_1), .val (.int (48 : Int32)), .unset, .unset, .unset, .unset, .unset, .unset] [(.int (48 : Int32)), (.int (16 : Int32)), (.ref fa24), (.ref fa24)])) rfl rfl (D at_212)
  obtain ⟨W43, V43⟩ := Wz43
  have N43 := Fr.snoc X43 N42 gn_fa24
  have Zn43 : n0 ≤ h43.size := Nat.le_trans Zn42 (Keep.of_wr W43).1
  have K43 : Keep h0 h43 [] := K42.wr W43 (Or.inr gh_fa24)
  have O43 := O42.wr W43 gn_fa24
  obtain ⟨T44, h44, X44, e44, Wz44, st44⟩ := own_zst X43 hx hZ e43 V43 (i := 17) (by decide) (by decide) (g := (mkF m 218 #[.val (.int p0), .val (.int p1), .val (.int p2), .val (.int p3), .val (.int p4), .val (.int p5), .val (.int ((p0 &&& (2147483647 : Int32)) % (6 : Int32))), .val (.ref jw_1), .val (.int jd_1), .val (.int (48 : Int32)), .unset, .unset, .unset, .unset, .unset, .unset] [(.int (48 : Int32)), (.int (17 : Int32)), (.ref fa24), (.ref fa24)])) rfl rfl (D at_218)
  obtain ⟨W44, V44⟩ := Wz44
  have N44 := Fr.snoc X44 N43 gn_fa24
  have Zn44 : n0 ≤ h44.size := Nat.le_trans Zn43 (Keep.of_wr W44).1
  have K44 : Keep h0 h44 [] := K43.wr W44 (Or.inr gh_fa24)
  have O44 := O43.wr W44 gn_fa24
  obtain ⟨T45, h45, X45, e45, Wz45, st45⟩ := own_zst X44 hx hZ e44 V44 (i := 18) (by decide) (by decide) (g := (mkF m 224 #[.val (.int p0), .val (.int p1), .val (.int p2), .val (.int p3), .val (.int p4), .val (.int p5), .val (.int ((p0 &&& (2147483647 : Int32)) % (6 : Int32))), .val (.ref jw_1), .val (.int jd_1), .val (.int (48 : Int32)), .unset, .unset, .unset, .unset, .unset, .unset] [(.int (48 : Int32)), (.int (18 : Int32)), (.ref fa24), (.ref fa24)])) rfl rfl (D at_224)
  obtain ⟨W45, V45⟩ := Wz45
  have N45 := Fr.snoc X45 N44 gn_fa24
  have Zn45 : n0 ≤ h45.size := Nat.le_trans Zn44 (Keep.of_wr W45).1
  have K45 : Keep h0 h45 [] := K44.wr W45 (Or.inr gh_fa24)
  have O45 := O44.wr W45 gn_fa24
  obtain ⟨T46, h46, X46, e46, Wz46, st46⟩ := own_zst X45 hx hZ e45 V45 (i := 19) (by decide) (by decide) (g := (mkF m 230 #[.val (.int p0), .val (.int p1), .val (.int p2), .val (.int p3), .val (.int p4), .val (.int p5), .val (.int ((p0 &&& (2147483647 : Int32)) % (6 : Int32))), .val (.ref jw_1), .val (.int jd_1), .val (.int (48 : Int32)), .unset, .unset, .unset, .unset, .unset, .unset] [(.int (48 : Int32)), (.int (19 : Int32)), (.ref fa24), (.ref fa24)])) rfl rfl (D at_230)
  obtain ⟨W46, V46⟩ := Wz46
  have N46 := Fr.snoc X46 N45 gn_fa24
  have Zn46 : n0 ≤ h46.size := Nat.le_trans Zn45 (Keep.of_wr W46).1
  have K46 : Keep h0 h46 [] := K45.wr W46 (Or.inr gh_fa24)
  have O46 := O45.wr W46 gn_fa24
  have cs47 : Steps p.tables e below (s₁.setTop (mkF m 0 #[.val (.int p0), .val (.int p1), .val (.int p2), .val (.int p3), .val (.int p4), .val (.int p5), .unset, .unset, .unset, .unset, .unset, .unset, .unset, .unset, .unset, .unset] [])) (T46.setTop (mkF m 231 #[.val (.int p0), .val (.int p1), .val (.int p2), .val (.int p3), .val (.int p4), .val (.int p5), .val (.int ((p0 &&& (2147483647 : Int32)) % (6 : Int32))), .val (.ref jw_1), .val (.int jd_1), .val (.int (48 : Int32)), .unset, .unset, .unset, .unset, .unset, .unset] [(.ref fa24)])) := cs36.trans (by
    refine s_dup X35 hx (D at_171) rfl ?_
    refine s_bipush X35 hx (10 : Int32) (D at_172) rfl ?_
    refine s_iload X35 hx (D at_174) rfl ?_
    refine st37 _ ?_
    refine s_dup X37 hx (D at_177) rfl ?_
    refine s_bipush X37 hx (11 : Int32) (D at_178) rfl ?_
    refine s_iload X37 hx (D at_180) rfl ?_
    refine st38 _ ?_
    refine s_dup X38 hx (D at_183) rfl ?_
    refine s_bipush X38 hx (12 : Int32) (D at_184) rfl ?_
    refine s_iload X38 hx (D at_186) rfl ?_
    refine st39 _ ?_
    refine s_dup X39 hx (D at_189) rfl ?_
    refine s_bipush X39 hx (13 : Int32) (D at_190) rfl ?_
    refine s_iload X39 hx (D at_192) rfl ?_
    refine st40 _ ?_
    refine s_dup X40 hx (D at_195) rfl ?_
    refine s_bipush X40 hx (14 : Int32) (D at_196) rfl ?_
    refine s_iload X40 hx (D at_198) rfl ?_
    refine st41 _ ?_
    refine s_dup X41 hx (D at_201) rfl ?_
    refine s_bipush X41 hx (15 : Int32) (D at_202) rfl ?_
    refine s_iload X41 hx (D at_204) rfl ?_
    refine st42 _ ?_
    refine s_dup X42 hx (D at_207) rfl ?_
    refine s_bipush X42 hx (16 : Int32) (D at_208) rfl ?_
    refine s_iload X42 hx (D at_210) rfl ?_
    refine st43 _ ?_
    refine s_dup X43 hx (D at_213) rfl ?_
    refine s_bipush X43 hx (17 : Int32) (D at_214) rfl ?_
    refine s_iload X43 hx (D at_216) rfl ?_
    refine st44 _ ?_
    refine s_dup X44 hx (D at_219) rfl ?_
    refine s_bipush X44 hx (18 : Int32) (D at_220) rfl ?_
    refine s_iload X44 hx (D at_222) rfl ?_
    refine st45 _ ?_
    refine s_dup X45 hx (D at_225) rfl ?_
    refine s_bipush X45 hx (19 : Int32) (D at_226) rfl ?_
    refine s_iload X45 hx (D at_228) rfl ?_
    refine st46 _ ?_
    exact Steps.refl _)
  obtain ⟨T48, h48, X48, e48, Wz48, st48⟩ := own_zst X46 hx hZ e46 V46 (i := 20) (by decide) (by decide) (g := (mkF m 236 #[.val (.int p0), .val (.int p1), .val (.int p2), .val (.int p3), .val (.int p4), .val (.int p5), .val (.int ((p0 &&& (2147483647 : Int32)) % (6 : Int32))), .val (.ref jw_1), .val (.int jd_1), .val (.int (48 : Int32)), .unset, .unset, .unset, .unset, .unset, .unset] [(.int (48 : Int32)), (.int (20 : Int32)), (.ref fa24), (.ref fa24)])) rfl rfl (D at_236)
  obtain ⟨W48, V48⟩ := Wz48
  have N48 := Fr.snoc X48 N46 gn_fa24
  have Zn48 : n0 ≤ h48.size := Nat.le_trans Zn46 (Keep.of_wr W48).1
  have K48 : Keep h0 h48 [] := K46.wr W48 (Or.inr gh_fa24)
  have O48 := O46.wr W48 gn_fa24
  obtain ⟨T49, h49, X49, e49, Wz49, st49⟩ := own_zst X48 hx hZ e48 V48 (i := 21) (by decide) (by decide) (g := (mkF m 242 #[.val (.int p0), .val (.int p1), .val (.int p2), .val (.int p3), .val (.int p4), .val (.int p5), .val (.int ((p0 &&& (2147483647 : Int32)) % (6 : Int32))), .val (.ref jw_1), .val (.int jd_1), .val (.int (48 : Int32)), .unset, .unset, .unset, .unset, .unset, .unset] [(.int (48 : Int32)), (.int (21 : Int32)), (.ref fa24), (.ref fa24)])) rfl rfl (D at_242)
  obtain ⟨W49, V49⟩ := Wz49
  have N49 := Fr.snoc X49 N48 gn_fa24
  have Zn49 : n0 ≤ h49.size := Nat.le_trans Zn48 (Keep.of_wr W49).1
  have K49 : Keep h0 h49 [] := K48.wr W49 (Or.inr gh_fa24)
  have O49 := O48.wr W49 gn_fa24
  obtain ⟨T50, h50, X50, e50, Wz50, st50⟩ := own_zst X49 hx hZ e49 V49 (i := 22) (by decide) (by decide) (g := (mkF m 248 #[.val (.int p0), .val (.int p1), .val (.int p2), .val (.int p3), .val (.int p4), .val (.int p5), .val (.int ((p0 &&& (2147483647 : Int32)) % (6 : Int32))), .val (.ref jw_1), .val (.int jd_1), .val (.int (48 : Int32)), .unset, .unset, .unset, .unset, .unset, .unset] [(.int (48 : Int32)), (.int (22 : Int32)), (.ref fa24), (.ref fa24)])) rfl rfl (D at_248)
  obtain ⟨W50, V50⟩ := Wz50
  have N50 := Fr.snoc X50 N49 gn_fa24
  have Zn50 : n0 ≤ h50.size := Nat.le_trans Zn49 (Keep.of_wr W50).1
  have K50 : Keep h0 h50 [] := K49.wr W50 (Or.inr gh_fa24)
  have O50 := O49.wr W50 gn_fa24
  obtain ⟨T51, h51, X51, e51, Wz51, st51⟩ := own_zst X50 hx hZ e50 V50 (i := 23) (by decide) (by decide) (g := (mkF m 254 #[.val (.int p0), .val (.int p1), .val (.int p2), .val (.int p3), .val (.int p4), .val (.int p5), .val (.int ((p0 &&& (2147483647 : Int32)) % (6 : Int32))), .val (.ref jw_1), .val (.int jd_1), .val (.int (48 : Int32)), .unset, .unset, .unset, .unset, .unset, .unset] [(.int (48 : Int32)), (.int (23 : Int32)), (.ref fa24), (.ref fa24)])) rfl rfl (D at_254)
  obtain ⟨W51, V51⟩ := Wz51
  have N51 := Fr.snoc X51 N50 gn_fa24
  have Zn51 : n0 ≤ h51.size := Nat.le_trans Zn50 (Keep.of_wr W51).1
  have K51 : Keep h0 h51 [] := K50.wr W51 (Or.inr gh_fa24)
  have O51 := O50.wr W51 gn_fa24
  obtain ⟨T52, h52, X52, e52, Wz52, st52⟩ := own_zst X51 hx hZ e51 V51 (i := 24) (by decide) (by decide) (g := (mkF m 260 #[.val (.int p0), .val (.int p1), .val (.int p2), .val (.int p3), .val (.int p4), .val (.int p5), .val (.int ((p0 &&& (2147483647 : Int32)) % (6 : Int32))), .val (.ref jw_1), .val (.int jd_1), .val (.int (48 : Int32)), .unset, .unset, .unset, .unset, .unset, .unset] [(.int (48 : Int32)), (.int (24 : Int32)), (.ref fa24), (.ref fa24)])) rfl rfl (D at_260)
  obtain ⟨W52, V52⟩ := Wz52
  have N52 := Fr.snoc X52 N51 gn_fa24
  have Zn52 : n0 ≤ h52.size := Nat.le_trans Zn51 (Keep.of_wr W52).1
  have K52 : Keep h0 h52 [] := K51.wr W52 (Or.inr gh_fa24)
  have O52 := O51.wr W52 gn_fa24
  obtain ⟨T53, h53, X53, e53, Wz53, st53⟩ := own_zst X52 hx hZ e52 V52 (i := 25) (by decide) (by decide) (g := (mkF m 266 #[.val (.int p0), .val (.int p1), .val (.int p2), .val (.int p3), .val (.int p4), .val (.int p5), .val (.int ((p0 &&& (2147483647 : Int32)) % (6 : Int32))), .val (.ref jw_1), .val (.int jd_1), .val (.int (48 : Int32)), .unset, .unset, .unset, .unset, .unset, .unset] [(.int (48 : Int32)), (.int (25 : Int32)), (.ref fa24), (.ref fa24)])) rfl rfl (D at_266)
  obtain ⟨W53, V53⟩ := Wz53
  have N53 := Fr.snoc X53 N52 gn_fa24
  have Zn53 : n0 ≤ h53.size := Nat.le_trans Zn52 (Keep.of_wr W53).1
  have K53 : Keep h0 h53 [] := K52.wr W53 (Or.inr gh_fa24)
  have O53 := O52.wr W53 gn_fa24
  obtain ⟨T54, h54, X54, e54, Wz54, st54⟩ := own_zst X53 hx hZ e53 V53 (i := 26) (by decide) (by decide) (g := (mkF m 272 #[.val (.int p0), .val (.int p1), .val (.int p2), .val (.int p3), .val (.int p4), .val (.int p5), .val (.int ((p0 &&& (2147483647 : Int32)) % (6 : Int32))), .val (.ref jw_1), .val (.int jd_1), .val (.int (48 : Int32)), .unset, .unset, .unset, .unset, .unset, .unset] [(.int (48 : Int32)), (.int (26 : Int32)), (.ref fa24), (.ref fa24)])) rfl rfl (D at_272)
  obtain ⟨W54, V54⟩ := Wz54
  have N54 := Fr.snoc X54 N53 gn_fa24
  have Zn54 : n0 ≤ h54.size := Nat.le_trans Zn53 (Keep.of_wr W54).1
  have K54 : Keep h0 h54 [] := K53.wr W54 (Or.inr gh_fa24)
  have O54 := O53.wr W54 gn_fa24
  obtain ⟨T55, h55, X55, e55, Wz55, st55⟩ := own_zst X54 hx hZ e54 V54 (i := 27) (by decide) (by decide) (g := (mkF m 278 #[.val (.int p0), .val (.int p1), .val (.int p2), .val (.int p3), .val (.int p4), .val (.int p5), .val (.int ((p0 &&& (2147483647 : Int32)) % (6 : Int32))), .val (.ref jw_1), .val (.int jd_1), .val (.int (48 : Int32)), .unset, .unset, .unset, .unset, .unset, .unset] [(.int (48 : Int32)), (.int (27 : Int32)), (.ref fa24), (.ref fa24)])) rfl rfl (D at_278)
  obtain ⟨W55, V55⟩ := Wz55
  have N55 := Fr.snoc X55 N54 gn_fa24
  have Zn55 : n0 ≤ h55.size := Nat.le_trans Zn54 (Keep.of_wr W55).1
  have K55 : Keep h0 h55 [] := K54.wr W55 (Or.inr gh_fa24)
  have O55 := O54.wr W55 gn_fa24
  obtain ⟨T56, h56, X56, e56, Wz56, st56⟩ := own_zst X55 hx hZ e55 V55 (i := 28) (by decide) (by decide) (g := (mkF m 284 #[.val (.int p0), .val (.int p1), .val (.int p2), .val (.int p3), .val (.int p4), .val (.int p5), .val (.int ((p0 &&& (2147483647 : Int32)) % (6 : Int32))), .val (.ref jw_1), .val (.int jd_1), .val (.int (48 : Int32)), .unset, .unset, .unset, .unset, .unset, .unset] [(.int (48 : Int32)), (.int (28 : Int32)), (.ref fa24), (.ref fa24)])) rfl rfl (D at_284)
  obtain ⟨W56, V56⟩ := Wz56
  have N56 := Fr.snoc X56 N55 gn_fa24
  have Zn56 : n0 ≤ h56.size := Nat.le_trans Zn55 (Keep.of_wr W56).1
  have K56 : Keep h0 h56 [] := K55.wr W56 (Or.inr gh_fa24)
  have O56 := O55.wr W56 gn_fa24
  obtain ⟨T57, h57, X57, e57, Wz57, st57⟩ := own_zst X56 hx hZ e56 V56 (i := 29) (by decide) (by decide) (g := (mkF m 290 #[.val (.int p0), .val (.int p1), .val (.int p2), .val (.int p3), .val (.int p4), .val (.int p5), .val (.int ((p0 &&& (2147483647 : Int32)) % (6 : Int32))), .val (.ref jw_1), .val (.int jd_1), .val (.int (48 : Int32)), .unset, .unset, .unset, .unset, .unset, .unset] [(.int (48 : Int32)), (.int (29 : Int32)), (.ref fa24), (.ref fa24)])) rfl rfl (D at_290)
  obtain ⟨W57, V57⟩ := Wz57
  have N57 := Fr.snoc X57 N56 gn_fa24
  have Zn57 : n0 ≤ h57.size := Nat.le_trans Zn56 (Keep.of_wr W57).1
  have K57 : Keep h0 h57 [] := K56.wr W57 (Or.inr gh_fa24)
  have O57 := O56.wr W57 gn_fa24
  have cs58 : Steps p.tables e below (s₁.setTop (mkF m 0 #[.val (.int p0), .val (.int p1), .val (.int p2), .val (.int p3), .val (.int p4), .val (.int p5), .unset, .unset, .unset, .unset, .unset, .unset, .unset, .unset, .unset, .unset] [])) (T57.setTop (mkF m 291 #[.val (.int p0), .val (.int p1), .val (.int p2), .val (.int p3), .val (.int p4), .val (.int p5), .val (.int ((p0 &&& (2147483647 : Int32)) % (6 : Int32))), .val (.ref jw_1), .val (.int jd_1), .val (.int (48 : Int32)), .unset, .unset, .unset, .unset, .unset, .unset] [(.ref fa24)])) := cs47.trans (by
    refine s_dup X46 hx (D at_231) rfl ?_
    refine s_bipush X46 hx (20 : Int32) (D at_232) rfl ?_
    refine s_iload X46 hx (D at_234) rfl ?_
    refine st48 _ ?_
    refine s_dup X48 hx (D at_237) rfl ?_
    refine s_bipush X48 hx (21 : Int32) (D at_238) rfl ?_
    refine s_iload X48 hx (D at_240) rfl ?_
    refine st49 _ ?_
    refine s_dup X49 hx (D at_243) rfl ?_
    refine s_bipush X49 hx (22 : Int32) (D at_244) rfl ?_
    refine s_iload X49 hx (D at_246) rfl ?_
    refine st50 _ ?_
    refine s_dup X50 hx (D at_249) rfl ?_
    refine s_bipush X50 hx (23 : Int32) (D at_250) rfl ?_
    refine s_iload X50 hx (D at_252) rfl ?_
    refine st51 _ ?_
    refine s_dup X51 hx (D at_255) rfl ?_
    refine s_bipush X51 hx (24 : Int32) (D at_256) rfl ?_
    refine s_iload X51 hx (D at_258) rfl ?_
    refine st52 _ ?_
    refine s_dup X52 hx (D at_261) rfl ?_
    refine s_bipush X52 hx (25 : Int32) (D at_262) rfl ?_
    refine s_iload X52 hx (D at_264) rfl ?_
    refine st53 _ ?_
    refine s_dup X53 hx (D at_267) rfl ?_
    refine s_bipush X53 hx (26 : Int32) (D at_268) rfl ?_
    refine s_iload X53 hx (D at_270) rfl ?_
    refine st54 _ ?_
    refine s_dup X54 hx (D at_273) rfl ?_
    refine s_bipush X54 hx (27 : Int32) (D at_274) rfl ?_
    refine s_iload X54 hx (D at_276) rfl ?_
    refine st55 _ ?_
    refine s_dup X55 hx (D at_279) rfl ?_
    refine s_bipush X55 hx (28 : Int32) (D at_280) rfl ?_
    refine s_iload X55 hx (D at_282) rfl ?_
    refine st56 _ ?_
    refine s_dup X56 hx (D at_285) rfl ?_
    refine s_bipush X56 hx (29 : Int32) (D at_286) rfl ?_
    refine s_iload X56 hx (D at_288) rfl ?_
    refine st57 _ ?_
    exact Steps.refl _)
  obtain ⟨T59, h59, X59, e59, Wz59, st59⟩ := own_zst X57 hx hZ e57 V57 (i := 30) (by decide) (by decide) (g := (mkF m 296 #[.val (.int p0), .val (.int p1), .val (.int p2), .val (.int p3), .val (.int p4), .val (.int p5), .val (.int ((p0 &&& (2147483647 : Int32)) % (6 : Int32))), .val (.ref jw_1), .val (.int jd_1), .val (.int (48 : Int32)), .unset, .unset, .unset, .unset, .unset, .unset] [(.int (48 : Int32)), (.int (30 : Int32)), (.ref fa24), (.ref fa24)])) rfl rfl (D at_296)
  obtain ⟨W59, V59⟩ := Wz59
  have N59 := Fr.snoc X59 N57 gn_fa24
  have Zn59 : n0 ≤ h59.size := Nat.le_trans Zn57 (Keep.of_wr W59).1
  have K59 : Keep h0 h59 [] := K57.wr W59 (Or.inr gh_fa24)
  have O59 := O57.wr W59 gn_fa24
  obtain ⟨T60, h60, X60, e60, Wz60, st60⟩ := own_zst X59 hx hZ e59 V59 (i := 31) (by decide) (by decide) (g := (mkF m 302 #[.val (.int p0), .val (.int p1), .val (.int p2), .val (.int p3), .val (.int p4), .val (.int p5), .val (.int ((p0 &&& (2147483647 : Int32)) % (6 : Int32))), .val (.ref jw_1), .val (.int jd_1), .val (.int (48 : Int32)), .unset, .unset, .unset, .unset, .unset, .unset] [(.int (48 : Int32)), (.int (31 : Int32)), (.ref fa24), (.ref fa24)])) rfl rfl (D at_302)
  obtain ⟨W60, V60⟩ := Wz60
  have N60 := Fr.snoc X60 N59 gn_fa24
  have Zn60 : n0 ≤ h60.size := Nat.le_trans Zn59 (Keep.of_wr W60).1
  have K60 : Keep h0 h60 [] := K59.wr W60 (Or.inr gh_fa24)
  have O60 := O59.wr W60 gn_fa24
  obtain ⟨T61, h61, X61, e61, Wz61, st61⟩ := own_zst X60 hx hZ e60 V60 (i := 32) (by decide) (by decide) (g := (mkF m 308 #[.val (.int p0), .val (.int p1), .val (.int p2), .val (.int p3), .val (.int p4), .val (.int p5), .val (.int ((p0 &&& (2147483647 : Int32)) % (6 : Int32))), .val (.ref jw_1), .val (.int jd_1), .val (.int (48 : Int32)), .unset, .unset, .unset, .unset, .unset, .unset] [(.int (48 : Int32)), (.int (32 : Int32)), (.ref fa24), (.ref fa24)])) rfl rfl (D at_308)
  obtain ⟨W61, V61⟩ := Wz61
  have N61 := Fr.snoc X61 N60 gn_fa24
  have Zn61 : n0 ≤ h61.size := Nat.le_trans Zn60 (Keep.of_wr W61).1
  have K61 : Keep h0 h61 [] := K60.wr W61 (Or.inr gh_fa24)
  have O61 := O60.wr W61 gn_fa24
  obtain ⟨T62, h62, X62, e62, Wz62, st62⟩ := own_zst X61 hx hZ e61 V61 (i := 33) (by decide) (by decide) (g := (mkF m 314 #[.val (.int p0), .val (.int p1), .val (.int p2), .val (.int p3), .val (.int p4), .val (.int p5), .val (.int ((p0 &&& (2147483647 : Int32)) % (6 : Int32))), .val (.ref jw_1), .val (.int jd_1), .val (.int (48 : Int32)), .unset, .unset, .unset, .unset, .unset, .unset] [(.int (48 : Int32)), (.int (33 : Int32)), (.ref fa24), (.ref fa24)])) rfl rfl (D at_314)
  obtain ⟨W62, V62⟩ := Wz62
  have N62 := Fr.snoc X62 N61 gn_fa24
  have Zn62 : n0 ≤ h62.size := Nat.le_trans Zn61 (Keep.of_wr W62).1
  have K62 : Keep h0 h62 [] := K61.wr W62 (Or.inr gh_fa24)
  have O62 := O61.wr W62 gn_fa24
  obtain ⟨T63, h63, X63, e63, Wz63, st63⟩ := own_zst X62 hx hZ e62 V62 (i := 34) (by decide) (by decide) (g := (mkF m 320 #[.val (.int p0), .val (.int p1), .val (.int p2), .val (.int p3), .val (.int p4), .val (.int p5), .val (.int ((p0 &&& (2147483647 : Int32)) % (6 : Int32))), .val (.ref jw_1), .val (.int jd_1), .val (.int (48 : Int32)), .unset, .unset, .unset, .unset, .unset, .unset] [(.int (48 : Int32)), (.int (34 : Int32)), (.ref fa24), (.ref fa24)])) rfl rfl (D at_320)
  obtain ⟨W63, V63⟩ := Wz63
  have N63 := Fr.snoc X63 N62 gn_fa24
  have Zn63 : n0 ≤ h63.size := Nat.le_trans Zn62 (Keep.of_wr W63).1
  have K63 : Keep h0 h63 [] := K62.wr W63 (Or.inr gh_fa24)
  have O63 := O62.wr W63 gn_fa24
  obtain ⟨T64, h64, X64, e64, Wz64, st64⟩ := own_zst X63 hx hZ e63 V63 (i := 35) (by decide) (by decide) (g := (mkF m 326 #[.val (.int p0), .val (.int p1), .val (.int p2), .val (.int p3), .val (.int p4), .val (.int p5), .val (.int ((p0 &&& (2147483647 : Int32)) % (6 : Int32))), .val (.ref jw_1), .val (.int jd_1), .val (.int (48 : Int32)), .unset, .unset, .unset, .unset, .unset, .unset] [(.int (48 : Int32)), (.int (35 : Int32)), (.ref fa24), (.ref fa24)])) rfl rfl (D at_326)
  obtain ⟨W64, V64⟩ := Wz64
  have N64 := Fr.snoc X64 N63 gn_fa24
  have Zn64 : n0 ≤ h64.size := Nat.le_trans Zn63 (Keep.of_wr W64).1
  have K64 : Keep h0 h64 [] := K63.wr W64 (Or.inr gh_fa24)
  have O64 := O63.wr W64 gn_fa24
  obtain ⟨T65, h65, X65, e65, Wz65, st65⟩ := own_zst X64 hx hZ e64 V64 (i := 36) (by decide) (by decide) (g := (mkF m 332 #[.val (.int p0), .val (.int p1), .val (.int p2), .val (.int p3), .val (.int p4), .val (.int p5), .val (.int ((p0 &&& (2147483647 : Int32)) % (6 : Int32))), .val (.ref jw_1), .val (.int jd_1), .val (.int (48 : Int32)), .unset, .unset, .unset, .unset, .unset, .unset] [(.int (48 : Int32)), (.int (36 : Int32)), (.ref fa24), (.ref fa24)])) rfl rfl (D at_332)
  obtain ⟨W65, V65⟩ := Wz65
  have N65 := Fr.snoc X65 N64 gn_fa24
  have Zn65 : n0 ≤ h65.size := Nat.le_trans Zn64 (Keep.of_wr W65).1
  have K65 : Keep h0 h65 [] := K64.wr W65 (Or.inr gh_fa24)
  have O65 := O64.wr W65 gn_fa24
  obtain ⟨T66, h66, X66, e66, Wz66, st66⟩ := own_zst X65 hx hZ e65 V65 (i := 37) (by decide) (by decide) (g := (mkF m 338 #[.val (.int p0), .val (.int p1), .val (.int p2), .val (.int p3), .val (.int p4), .val (.int p5), .val (.int ((p0 &&& (2147483647 : Int32)) % (6 : Int32))), .val (.ref jw_1), .val (.int jd_1), .val (.int (48 : Int32)), .unset, .unset, .unset, .unset, .unset, .unset] [(.int (48 : Int32)), (.int (37 : Int32)), (.ref fa24), (.ref fa24)])) rfl rfl (D at_338)
  obtain ⟨W66, V66⟩ := Wz66
  have N66 := Fr.snoc X66 N65 gn_fa24
  have Zn66 : n0 ≤ h66.size := Nat.le_trans Zn65 (Keep.of_wr W66).1
  have K66 : Keep h0 h66 [] := K65.wr W66 (Or.inr gh_fa24)
  have O66 := O65.wr W66 gn_fa24
  obtain ⟨T67, h67, X67, e67, Wz67, st67⟩ := own_zst X66 hx hZ e66 V66 (i := 38) (by decide) (by decide) (g := (mkF m 344 #[.val (.int p0), .val (.int p1), .val (.int p2), .val (.int p3), .val (.int p4), .val (.int p5), .val (.int ((p0 &&& (2147483647 : Int32)) % (6 : Int32))), .val (.ref jw_1), .val (.int jd_1), .val (.int (48 : Int32)), .unset, .unset, .unset, .unset, .unset, .unset] [(.int (48 : Int32)), (.int (38 : Int32)), (.ref fa24), (.ref fa24)])) rfl rfl (D at_344)
  obtain ⟨W67, V67⟩ := Wz67
  have N67 := Fr.snoc X67 N66 gn_fa24
  have Zn67 : n0 ≤ h67.size := Nat.le_trans Zn66 (Keep.of_wr W67).1
  have K67 : Keep h0 h67 [] := K66.wr W67 (Or.inr gh_fa24)
  have O67 := O66.wr W67 gn_fa24
  obtain ⟨T68, h68, X68, e68, Wz68, st68⟩ := own_zst X67 hx hZ e67 V67 (i := 39) (by decide) (by decide) (g := (mkF m 350 #[.val (.int p0), .val (.int p1), .val (.int p2), .val (.int p3), .val (.int p4), .val (.int p5), .val (.int ((p0 &&& (2147483647 : Int32)) % (6 : Int32))), .val (.ref jw_1), .val (.int jd_1), .val (.int (48 : Int32)), .unset, .unset, .unset, .unset, .unset, .unset] [(.int (48 : Int32)), (.int (39 : Int32)), (.ref fa24), (.ref fa24)])) rfl rfl (D at_350)
  obtain ⟨W68, V68⟩ := Wz68
  have N68 := Fr.snoc X68 N67 gn_fa24
  have Zn68 : n0 ≤ h68.size := Nat.le_trans Zn67 (Keep.of_wr W68).1
  have K68 : Keep h0 h68 [] := K67.wr W68 (Or.inr gh_fa24)
  have O68 := O67.wr W68 gn_fa24
  have cs69 : Steps p.tables e below (s₁.setTop (mkF m 0 #[.val (.int p0), .val (.int p1), .val (.int p2), .val (.int p3), .val (.int p4), .val (.int p5), .unset, .unset, .unset, .unset, .unset, .unset, .unset, .unset, .unset, .unset] [])) (T68.setTop (mkF m 351 #[.val (.int p0), .val (.int p1), .val (.int p2), .val (.int p3), .val (.int p4), .val (.int p5), .val (.int ((p0 &&& (2147483647 : Int32)) % (6 : Int32))), .val (.ref jw_1), .val (.int jd_1), .val (.int (48 : Int32)), .unset, .unset, .unset, .unset, .unset, .unset] [(.ref fa24)])) := cs58.trans (by
    refine s_dup X57 hx (D at_291) rfl ?_
    refine s_bipush X57 hx (30 : Int32) (D at_292) rfl ?_
    refine s_iload X57 hx (D at_294) rfl ?_
    refine st59 _ ?_
    refine s_dup X59 hx (D at_297) rfl ?_
    refine s_bipush X59 hx (31 : Int32) (D at_298) rfl ?_
    refine s_iload X59 hx (D at_300) rfl ?_
    refine st60 _ ?_
    refine s_dup X60 hx (D at_303) rfl ?_
    refine s_bipush X60 hx (32 : Int32) (D at_304) rfl ?_
    refine s_iload X60 hx (D at_306) rfl ?_
    refine st61 _ ?_
    refine s_dup X61 hx (D at_309) rfl ?_
    refine s_bipush X61 hx (33 : Int32) (D at_310) rfl ?_
    refine s_iload X61 hx (D at_312) rfl ?_
    refine st62 _ ?_
    refine s_dup X62 hx (D at_315) rfl ?_
    refine s_bipush X62 hx (34 : Int32) (D at_316) rfl ?_
    refine s_iload X62 hx (D at_318) rfl ?_
    refine st63 _ ?_
    refine s_dup X63 hx (D at_321) rfl ?_
    refine s_bipush X63 hx (35 : Int32) (D at_322) rfl ?_
    refine s_iload X63 hx (D at_324) rfl ?_
    refine st64 _ ?_
    refine s_dup X64 hx (D at_327) rfl ?_
    refine s_bipush X64 hx (36 : Int32) (D at_328) rfl ?_
    refine s_iload X64 hx (D at_330) rfl ?_
    refine st65 _ ?_
    refine s_dup X65 hx (D at_333) rfl ?_
    refine s_bipush X65 hx (37 : Int32) (D at_334) rfl ?_
    refine s_iload X65 hx (D at_336) rfl ?_
    refine st66 _ ?_
    refine s_dup X66 hx (D at_339) rfl ?_
    refine s_bipush X66 hx (38 : Int32) (D at_340) rfl ?_
    refine s_iload X66 hx (D at_342) rfl ?_
    refine st67 _ ?_
    refine s_dup X67 hx (D at_345) rfl ?_
    refine s_bipush X67 hx (39 : Int32) (D at_346) rfl ?_
    refine s_iload X67 hx (D at_348) rfl ?_
    refine st68 _ ?_
    exact Steps.refl _)
  obtain ⟨T70, h70, X70, e70, Wz70, st70⟩ := own_zst X68 hx hZ e68 V68 (i := 40) (by decide) (by decide) (g := (mkF m 356 #[.val (.int p0), .val (.int p1), .val (.int p2), .val (.int p3), .val (.int p4), .val (.int p5), .val (.int ((p0 &&& (2147483647 : Int32)) % (6 : Int32))), .val (.ref jw_1), .val (.int jd_1), .val (.int (48 : Int32)), .unset, .unset, .unset, .unset, .unset, .unset] [(.int (48 : Int32)), (.int (40 : Int32)), (.ref fa24), (.ref fa24)])) rfl rfl (D at_356)
  obtain ⟨W70, V70⟩ := Wz70
  have N70 := Fr.snoc X70 N68 gn_fa24
  have Zn70 : n0 ≤ h70.size := Nat.le_trans Zn68 (Keep.of_wr W70).1
  have K70 : Keep h0 h70 [] := K68.wr W70 (Or.inr gh_fa24)
  have O70 := O68.wr W70 gn_fa24
  obtain ⟨T71, h71, X71, e71, Wz71, st71⟩ := own_zst X70 hx hZ e70 V70 (i := 41) (by decide) (by decide) (g := (mkF m 362 #[.val (.int p0), .val (.int p1), .val (.int p2), .val (.int p3), .val (.int p4), .val (.int p5), .val (.int ((p0 &&& (2147483647 : Int32)) % (6 : Int32))), .val (.ref jw_1), .val (.int jd_1), .val (.int (48 : Int32)), .unset, .unset, .unset, .unset, .unset, .unset] [(.int (48 : Int32)), (.int (41 : Int32)), (.ref fa24), (.ref fa24)])) rfl rfl (D at_362)
  obtain ⟨W71, V71⟩ := Wz71
  have N71 := Fr.snoc X71 N70 gn_fa24
  have Zn71 : n0 ≤ h71.size := Nat.le_trans Zn70 (Keep.of_wr W71).1
  have K71 : Keep h0 h71 [] := K70.wr W71 (Or.inr gh_fa24)
  have O71 := O70.wr W71 gn_fa24
  obtain ⟨T72, h72, X72, e72, Wz72, st72⟩ := own_zst X71 hx hZ e71 V71 (i := 42) (by decide) (by decide) (g := (mkF m 368 #[.val (.int p0), .val (.int p1), .val (.int p2), .val (.int p3), .val (.int p4), .val (.int p5), .val (.int ((p0 &&& (2147483647 : Int32)) % (6 : Int32))), .val (.ref jw_1), .val (.int jd_1), .val (.int (48 : Int32)), .unset, .unset, .unset, .unset, .unset, .unset] [(.int (48 : Int32)), (.int (42 : Int32)), (.ref fa24), (.ref fa24)])) rfl rfl (D at_368)
  obtain ⟨W72, V72⟩ := Wz72
  have N72 := Fr.snoc X72 N71 gn_fa24
  have Zn72 : n0 ≤ h72.size := Nat.le_trans Zn71 (Keep.of_wr W72).1
  have K72 : Keep h0 h72 [] := K71.wr W72 (Or.inr gh_fa24)
  have O72 := O71.wr W72 gn_fa24
  obtain ⟨T73, h73, X73, e73, Wz73, st73⟩ := own_zst X72 hx hZ e72 V72 (i := 43) (by decide) (by decide) (g := (mkF m 374 #[.val (.int p0), .val (.int p1), .val (.int p2), .val (.int p3), .val (.int p4), .val (.int p5), .val (.int ((p0 &&& (2147483647 : Int32)) % (6 : Int32))), .val (.ref jw_1), .val (.int jd_1), .val (.int (48 : Int32)), .unset, .unset, .unset, .unset, .unset, .unset] [(.int (48 : Int32)), (.int (43 : Int32)), (.ref fa24), (.ref fa24)])) rfl rfl (D at_374)
  obtain ⟨W73, V73⟩ := Wz73
  have N73 := Fr.snoc X73 N72 gn_fa24
  have Zn73 : n0 ≤ h73.size := Nat.le_trans Zn72 (Keep.of_wr W73).1
  have K73 : Keep h0 h73 [] := K72.wr W73 (Or.inr gh_fa24)
  have O73 := O72.wr W73 gn_fa24
  obtain ⟨T74, h74, X74, e74, Wz74, st74⟩ := own_zst X73 hx hZ e73 V73 (i := 44) (by decide) (by decide) (g := (mkF m 380 #[.val (.int p0), .val (.int p1), .val (.int p2), .val (.int p3), .val (.int p4), .val (.int p5), .val (.int ((p0 &&& (2147483647 : Int32)) % (6 : Int32))), .val (.ref jw_1), .val (.int jd_1), .val (.int (48 : Int32)), .unset, .unset, .unset, .unset, .unset, .unset] [(.int (48 : Int32)), (.int (44 : Int32)), (.ref fa24), (.ref fa24)])) rfl rfl (D at_380)
  obtain ⟨W74, V74⟩ := Wz74
  have N74 := Fr.snoc X74 N73 gn_fa24
  have Zn74 : n0 ≤ h74.size := Nat.le_trans Zn73 (Keep.of_wr W74).1
  have K74 : Keep h0 h74 [] := K73.wr W74 (Or.inr gh_fa24)
  have O74 := O73.wr W74 gn_fa24
  obtain ⟨T75, h75, X75, e75, Wz75, st75⟩ := own_zst X74 hx hZ e74 V74 (i := 45) (by decide) (by decide) (g := (mkF m 386 #[.val (.int p0), .val (.int p1), .val (.int p2), .val (.int p3), .val (.int p4), .val (.int p5), .val (.int ((p0 &&& (2147483647 : Int32)) % (6 : Int32))), .val (.ref jw_1), .val (.int jd_1), .val (.int (48 : Int32)), .unset, .unset, .unset, .unset, .unset, .unset] [(.int (48 : Int32)), (.int (45 : Int32)), (.ref fa24), (.ref fa24)])) rfl rfl (D at_386)
  obtain ⟨W75, V75⟩ := Wz75
  have N75 := Fr.snoc X75 N74 gn_fa24
  have Zn75 : n0 ≤ h75.size := Nat.le_trans Zn74 (Keep.of_wr W75).1
  have K75 : Keep h0 h75 [] := K74.wr W75 (Or.inr gh_fa24)
  have O75 := O74.wr W75 gn_fa24
  obtain ⟨T76, h76, X76, e76, Wz76, st76⟩ := own_zst X75 hx hZ e75 V75 (i := 46) (by decide) (by decide) (g := (mkF m 392 #[.val (.int p0), .val (.int p1), .val (.int p2), .val (.int p3), .val (.int p4), .val (.int p5), .val (.int ((p0 &&& (2147483647 : Int32)) % (6 : Int32))), .val (.ref jw_1), .val (.int jd_1), .val (.int (48 : Int32)), .unset, .unset, .unset, .unset, .unset, .unset] [(.int (48 : Int32)), (.int (46 : Int32)), (.ref fa24), (.ref fa24)])) rfl rfl (D at_392)
  obtain ⟨W76, V76⟩ := Wz76
  have N76 := Fr.snoc X76 N75 gn_fa24
  have Zn76 : n0 ≤ h76.size := Nat.le_trans Zn75 (Keep.of_wr W76).1
  have K76 : Keep h0 h76 [] := K75.wr W76 (Or.inr gh_fa24)
  have O76 := O75.wr W76 gn_fa24
  obtain ⟨T77, h77, X77, e77, Wz77, st77⟩ := own_zst X76 hx hZ e76 V76 (i := 47) (by decide) (by decide) (g := (mkF m 398 #[.val (.int p0), .val (.int p1), .val (.int p2), .val (.int p3), .val (.int p4), .val (.int p5), .val (.int ((p0 &&& (2147483647 : Int32)) % (6 : Int32))), .val (.ref jw_1), .val (.int jd_1), .val (.int (48 : Int32)), .unset, .unset, .unset, .unset, .unset, .unset] [(.int (48 : Int32)), (.int (47 : Int32)), (.ref fa24), (.ref fa24)])) rfl rfl (D at_398)
  obtain ⟨W77, V77⟩ := Wz77
  have N77 := Fr.snoc X77 N76 gn_fa24
  have Zn77 : n0 ≤ h77.size := Nat.le_trans Zn76 (Keep.of_wr W77).1
  have K77 : Keep h0 h77 [] := K76.wr W77 (Or.inr gh_fa24)
  have O77 := O76.wr W77 gn_fa24
  obtain ⟨T78, h78, X78, e78, Wz78, st78⟩ := own_zst X77 hx hZ e77 V77 (i := 48) (by decide) (by decide) (g := (mkF m 404 #[.val (.int p0), .val (.int p1), .val (.int p2), .val (.int p3), .val (.int p4), .val (.int p5), .val (.int ((p0 &&& (2147483647 : Int32)) % (6 : Int32))), .val (.ref jw_1), .val (.int jd_1), .val (.int (48 : Int32)), .unset, .unset, .unset, .unset, .unset, .unset] [(.int (48 : Int32)), (.int (48 : Int32)), (.ref fa24), (.ref fa24)])) rfl rfl (D at_404)
  obtain ⟨W78, V78⟩ := Wz78
  have N78 := Fr.snoc X78 N77 gn_fa24
  have Zn78 : n0 ≤ h78.size := Nat.le_trans Zn77 (Keep.of_wr W78).1
  have K78 : Keep h0 h78 [] := K77.wr W78 (Or.inr gh_fa24)
  have O78 := O77.wr W78 gn_fa24
  obtain ⟨T79, h79, X79, e79, Wz79, st79⟩ := own_zst X78 hx hZ e78 V78 (i := 49) (by decide) (by decide) (g := (mkF m 410 #[.val (.int p0), .val (.int p1), .val (.int p2), .val (.int p3), .val (.int p4), .val (.int p5), .val (.int ((p0 &&& (2147483647 : Int32)) % (6 : Int32))), .val (.ref jw_1), .val (.int jd_1), .val (.int (48 : Int32)), .unset, .unset, .unset, .unset, .unset, .unset] [(.int (48 : Int32)), (.int (49 : Int32)), (.ref fa24), (.ref fa24)])) rfl rfl (D at_410)
  obtain ⟨W79, V79⟩ := Wz79
  have N79 := Fr.snoc X79 N78 gn_fa24
  have Zn79 : n0 ≤ h79.size := Nat.le_trans Zn78 (Keep.of_wr W79).1
  have K79 : Keep h0 h79 [] := K78.wr W79 (Or.inr gh_fa24)
  have O79 := O78.wr W79 gn_fa24
  have cs80 : Steps p.tables e below (s₁.setTop (mkF m 0 #[.val (.int p0), .val (.int p1), .val (.int p2), .val (.int p3), .val (.int p4), .val (.int p5), .unset, .unset, .unset, .unset, .unset, .unset, .unset, .unset, .unset, .unset] [])) (T79.setTop (mkF m 411 #[.val (.int p0), .val (.int p1), .val (.int p2), .val (.int p3), .val (.int p4), .val (.int p5), .val (.int ((p0 &&& (2147483647 : Int32)) % (6 : Int32))), .val (.ref jw_1), .val (.int jd_1), .val (.int (48 : Int32)), .unset, .unset, .unset, .unset, .unset, .unset] [(.ref fa24)])) := cs69.trans (by
    refine s_dup X68 hx (D at_351) rfl ?_
    refine s_bipush X68 hx (40 : Int32) (D at_352) rfl ?_
    refine s_iload X68 hx (D at_354) rfl ?_
    refine st70 _ ?_
    refine s_dup X70 hx (D at_357) rfl ?_
    refine s_bipush X70 hx (41 : Int32) (D at_358) rfl ?_
    refine s_iload X70 hx (D at_360) rfl ?_
    refine st71 _ ?_
    refine s_dup X71 hx (D at_363) rfl ?_
    refine s_bipush X71 hx (42 : Int32) (D at_364) rfl ?_
    refine s_iload X71 hx (D at_366) rfl ?_
    refine st72 _ ?_
    refine s_dup X72 hx (D at_369) rfl ?_
    refine s_bipush X72 hx (43 : Int32) (D at_370) rfl ?_
    refine s_iload X72 hx (D at_372) rfl ?_
    refine st73 _ ?_
    refine s_dup X73 hx (D at_375) rfl ?_
    refine s_bipush X73 hx (44 : Int32) (D at_376) rfl ?_
    refine s_iload X73 hx (D at_378) rfl ?_
    refine st74 _ ?_
    refine s_dup X74 hx (D at_381) rfl ?_
    refine s_bipush X74 hx (45 : Int32) (D at_382) rfl ?_
    refine s_iload X74 hx (D at_384) rfl ?_
    refine st75 _ ?_
    refine s_dup X75 hx (D at_387) rfl ?_
    refine s_bipush X75 hx (46 : Int32) (D at_388) rfl ?_
    refine s_iload X75 hx (D at_390) rfl ?_
    refine st76 _ ?_
    refine s_dup X76 hx (D at_393) rfl ?_
    refine s_bipush X76 hx (47 : Int32) (D at_394) rfl ?_
    refine s_iload X76 hx (D at_396) rfl ?_
    refine st77 _ ?_
    refine s_dup X77 hx (D at_399) rfl ?_
    refine s_bipush X77 hx (48 : Int32) (D at_400) rfl ?_
    refine s_iload X77 hx (D at_402) rfl ?_
    refine st78 _ ?_
    refine s_dup X78 hx (D at_405) rfl ?_
    refine s_bipush X78 hx (49 : Int32) (D at_406) rfl ?_
    refine s_iload X78 hx (D at_408) rfl ?_
    refine st79 _ ?_
    exact Steps.refl _)
  obtain ⟨T81, h81, X81, e81, Wz81, st81⟩ := own_zst X79 hx hZ e79 V79 (i := 50) (by decide) (by decide) (g := (mkF m 416 #[.val (.int p0), .val (.int p1), .val (.int p2), .val (.int p3), .val (.int p4), .val (.int p5), .val (.int ((p0 &&& (2147483647 : Int32)) % (6 : Int32))), .val (.ref jw_1), .val (.int jd_1), .val (.int (48 : Int32)), .unset, .unset, .unset, .unset, .unset, .unset] [(.int (48 : Int32)), (.int (50 : Int32)), (.ref fa24), (.ref fa24)])) rfl rfl (D at_416)
  obtain ⟨W81, V81⟩ := Wz81
  have N81 := Fr.snoc X81 N79 gn_fa24
  have Zn81 : n0 ≤ h81.size := Nat.le_trans Zn79 (Keep.of_wr W81).1
  have K81 : Keep h0 h81 [] := K79.wr W81 (Or.inr gh_fa24)
  have O81 := O79.wr W81 gn_fa24
  obtain ⟨T82, h82, X82, e82, Wz82, st82⟩ := own_zst X81 hx hZ e81 V81 (i := 51) (by decide) (by decide) (g := (mkF m 422 #[.val (.int p0), .val (.int p1), .val (.int p2), .val (.int p3), .val (.int p4), .val (.int p5), .val (.int ((p0 &&& (2147483647 : Int32)) % (6 : Int32))), .val (.ref jw_1), .val (.int jd_1), .val (.int (48 : Int32)), .unset, .unset, .unset, .unset, .unset, .unset] [(.int (48 : Int32)), (.int (51 : Int32)), (.ref fa24), (.ref fa24)])) rfl rfl (D at_422)
  obtain ⟨W82, V82⟩ := Wz82
  have N82 := Fr.snoc X82 N81 gn_fa24
  have Zn82 : n0 ≤ h82.size := Nat.le_trans Zn81 (Keep.of_wr W82).1
  have K82 : Keep h0 h82 [] := K81.wr W82 (Or.inr gh_fa24)
  have O82 := O81.wr W82 gn_fa24
  obtain ⟨T83, h83, X83, e83, Wz83, st83⟩ := own_zst X82 hx hZ e82 V82 (i := 52) (by decide) (by decide) (g := (mkF m 428 #[.val (.int p0), .val (.int p1), .val (.int p2), .val (.int p3), .val (.int p4), .val (.int p5), .val (.int ((p0 &&& (2147483647 : Int32)) % (6 : Int32))), .val (.ref jw_1), .val (.int jd_1), .val (.int (48 : Int32)), .unset, .unset, .unset, .unset, .unset, .unset] [(.int (48 : Int32)), (.int (52 : Int32)), (.ref fa24), (.ref fa24)])) rfl rfl (D at_428)
  obtain ⟨W83, V83⟩ := Wz83
  have N83 := Fr.snoc X83 N82 gn_fa24
  have Zn83 : n0 ≤ h83.size := Nat.le_trans Zn82 (Keep.of_wr W83).1
  have K83 : Keep h0 h83 [] := K82.wr W83 (Or.inr gh_fa24)
  have O83 := O82.wr W83 gn_fa24
  obtain ⟨T84, h84, X84, e84, Wz84, st84⟩ := own_zst X83 hx hZ e83 V83 (i := 53) (by decide) (by decide) (g := (mkF m 434 #[.val (.int p0), .val (.int p1), .val (.int p2), .val (.int p3), .val (.int p4), .val (.int p5), .val (.int ((p0 &&& (2147483647 : Int32)) % (6 : Int32))), .val (.ref jw_1), .val (.int jd_1), .val (.int (48 : Int32)), .unset, .unset, .unset, .unset, .unset, .unset] [(.int (48 : Int32)), (.int (53 : Int32)), (.ref fa24), (.ref fa24)])) rfl rfl (D at_434)
  obtain ⟨W84, V84⟩ := Wz84
  have N84 := Fr.snoc X84 N83 gn_fa24
  have Zn84 : n0 ≤ h84.size := Nat.le_trans Zn83 (Keep.of_wr W84).1
  have K84 : Keep h0 h84 [] := K83.wr W84 (Or.inr gh_fa24)
  have O84 := O83.wr W84 gn_fa24
  obtain ⟨T85, h85, X85, e85, Wz85, st85⟩ := own_zst X84 hx hZ e84 V84 (i := 54) (by decide) (by decide) (g := (mkF m 440 #[.val (.int p0), .val (.int p1), .val (.int p2), .val (.int p3), .val (.int p4), .val (.int p5), .val (.int ((p0 &&& (2147483647 : Int32)) % (6 : Int32))), .val (.ref jw_1), .val (.int jd_1), .val (.int (48 : Int32)), .unset, .unset, .unset, .unset, .unset, .unset] [(.int (48 : Int32)), (.int (54 : Int32)), (.ref fa24), (.ref fa24)])) rfl rfl (D at_440)
  obtain ⟨W85, V85⟩ := Wz85
  have N85 := Fr.snoc X85 N84 gn_fa24
  have Zn85 : n0 ≤ h85.size := Nat.le_trans Zn84 (Keep.of_wr W85).1
  have K85 : Keep h0 h85 [] := K84.wr W85 (Or.inr gh_fa24)
  have O85 := O84.wr W85 gn_fa24
  obtain ⟨T86, h86, X86, e86, Wz86, st86⟩ := own_zst X85 hx hZ e85 V85 (i := 55) (by decide) (by decide) (g := (mkF m 446 #[.val (.int p0), .val (.int p1), .val (.int p2), .val (.int p3), .val (.int p4), .val (.int p5), .val (.int ((p0 &&& (2147483647 : Int32)) % (6 : Int32))), .val (.ref jw_1), .val (.int jd_1), .val (.int (48 : Int32)), .unset, .unset, .unset, .unset, .unset, .unset] [(.int (48 : Int32)), (.int (55 : Int32)), (.ref fa24), (.ref fa24)])) rfl rfl (D at_446)
  obtain ⟨W86, V86⟩ := Wz86
  have N86 := Fr.snoc X86 N85 gn_fa24
  have Zn86 : n0 ≤ h86.size := Nat.le_trans Zn85 (Keep.of_wr W86).1
  have K86 : Keep h0 h86 [] := K85.wr W86 (Or.inr gh_fa24)
  have O86 := O85.wr W86 gn_fa24
  obtain ⟨T87, h87, X87, e87, Wz87, st87⟩ := own_zst X86 hx hZ e86 V86 (i := 56) (by decide) (by decide) (g := (mkF m 452 #[.val (.int p0), .val (.int p1), .val (.int p2), .val (.int p3), .val (.int p4), .val (.int p5), .val (.int ((p0 &&& (2147483647 : Int32)) % (6 : Int32))), .val (.ref jw_1), .val (.int jd_1), .val (.int (48 : Int32)), .unset, .unset, .unset, .unset, .unset, .unset] [(.int (48 : Int32)), (.int (56 : Int32)), (.ref fa24), (.ref fa24)])) rfl rfl (D at_452)
  obtain ⟨W87, V87⟩ := Wz87
  have N87 := Fr.snoc X87 N86 gn_fa24
  have Zn87 : n0 ≤ h87.size := Nat.le_trans Zn86 (Keep.of_wr W87).1
  have K87 : Keep h0 h87 [] := K86.wr W87 (Or.inr gh_fa24)
  have O87 := O86.wr W87 gn_fa24
  obtain ⟨T88, h88, X88, e88, Wz88, st88⟩ := own_zst X87 hx hZ e87 V87 (i := 57) (by decide) (by decide) (g := (mkF m 458 #[.val (.int p0), .val (.int p1), .val (.int p2), .val (.int p3), .val (.int p4), .val (.int p5), .val (.int ((p0 &&& (2147483647 : Int32)) % (6 : Int32))), .val (.ref jw_1), .val (.int jd_1), .val (.int (48 : Int32)), .unset, .unset, .unset, .unset, .unset, .unset] [(.int (48 : Int32)), (.int (57 : Int32)), (.ref fa24), (.ref fa24)])) rfl rfl (D at_458)
  obtain ⟨W88, V88⟩ := Wz88
  have N88 := Fr.snoc X88 N87 gn_fa24
  have Zn88 : n0 ≤ h88.size := Nat.le_trans Zn87 (Keep.of_wr W88).1
  have K88 : Keep h0 h88 [] := K87.wr W88 (Or.inr gh_fa24)
  have O88 := O87.wr W88 gn_fa24
  obtain ⟨T89, h89, X89, e89, Wz89, st89⟩ := own_zst X88 hx hZ e88 V88 (i := 58) (by decide) (by decide) (g := (mkF m 464 #[.val (.int p0), .val (.int p1), .val (.int p2), .val (.int p3), .val (.int p4), .val (.int p5), .val (.int ((p0 &&& (2147483647 : Int32)) % (6 : Int32))), .val (.ref jw_1), .val (.int jd_1), .val (.int (48 : Int32)), .unset, .unset, .unset, .unset, .unset, .unset] [(.int (48 : Int32)), (.int (58 : Int32)), (.ref fa24), (.ref fa24)])) rfl rfl (D at_464)
  obtain ⟨W89, V89⟩ := Wz89
  have N89 := Fr.snoc X89 N88 gn_fa24
  have Zn89 : n0 ≤ h89.size := Nat.le_trans Zn88 (Keep.of_wr W89).1
  have K89 : Keep h0 h89 [] := K88.wr W89 (Or.inr gh_fa24)
  have O89 := O88.wr W89 gn_fa24
  obtain ⟨T90, h90, X90, e90, Wz90, st90⟩ := own_zst X89 hx hZ e89 V89 (i := 59) (by decide) (by decide) (g := (mkF m 470 #[.val (.int p0), .val (.int p1), .val (.int p2), .val (.int p3), .val (.int p4), .val (.int p5), .val (.int ((p0 &&& (2147483647 : Int32)) % (6 : Int32))), .val (.ref jw_1), .val (.int jd_1), .val (.int (48 : Int32)), .unset, .unset, .unset, .unset, .unset, .unset] [(.int (48 : Int32)), (.int (59 : Int32)), (.ref fa24), (.ref fa24)])) rfl rfl (D at_470)
  obtain ⟨W90, V90⟩ := Wz90
  have N90 := Fr.snoc X90 N89 gn_fa24
  have Zn90 : n0 ≤ h90.size := Nat.le_trans Zn89 (Keep.of_wr W90).1
  have K90 : Keep h0 h90 [] := K89.wr W90 (Or.inr gh_fa24)
  have O90 := O89.wr W90 gn_fa24
  have cs91 : Steps p.tables e below (s₁.setTop (mkF m 0 #[.val (.int p0), .val (.int p1), .val (.int p2), .val (.int p3), .val (.int p4), .val (.int p5), .unset, .unset, .unset, .unset, .unset, .unset, .unset, .unset, .unset, .unset] [])) (T90.setTop (mkF m 471 #[.val (.int p0), .val (.int p1), .val (.int p2), .val (.int p3), .val (.int p4), .val (.int p5), .val (.int ((p0 &&& (2147483647 : Int32)) % (6 : Int32))), .val (.ref jw_1), .val (.int jd_1), .val (.int (48 : Int32)), .unset, .unset, .unset, .unset, .unset, .unset] [(.ref fa24)])) := cs80.trans (by
    refine s_dup X79 hx (D at_411) rfl ?_
    refine s_bipush X79 hx (50 : Int32) (D at_412) rfl ?_
    refine s_iload X79 hx (D at_414) rfl ?_
    refine st81 _ ?_
    refine s_dup X81 hx (D at_417) rfl ?_
    refine s_bipush X81 hx (51 : Int32) (D at_418) rfl ?_
    refine s_iload X81 hx (D at_420) rfl ?_
    refine st82 _ ?_
    refine s_dup X82 hx (D at_423) rfl ?_
    refine s_bipush X82 hx (52 : Int32) (D at_424) rfl ?_
    refine s_iload X82 hx (D at_426) rfl ?_
    refine st83 _ ?_
    refine s_dup X83 hx (D at_429) rfl ?_
    refine s_bipush X83 hx (53 : Int32) (D at_430) rfl ?_
    refine s_iload X83 hx (D at_432) rfl ?_
    refine st84 _ ?_
    refine s_dup X84 hx (D at_435) rfl ?_
    refine s_bipush X84 hx (54 : Int32) (D at_436) rfl ?_
    refine s_iload X84 hx (D at_438) rfl ?_
    refine st85 _ ?_
    refine s_dup X85 hx (D at_441) rfl ?_
    refine s_bipush X85 hx (55 : Int32) (D at_442) rfl ?_
    refine s_iload X85 hx (D at_444) rfl ?_
    refine st86 _ ?_
    refine s_dup X86 hx (D at_447) rfl ?_
    refine s_bipush X86 hx (56 : Int32) (D at_448) rfl ?_
    refine s_iload X86 hx (D at_450) rfl ?_
    refine st87 _ ?_
    refine s_dup X87 hx (D at_453) rfl ?_
    refine s_bipush X87 hx (57 : Int32) (D at_454) rfl ?_
    refine s_iload X87 hx (D at_456) rfl ?_
    refine st88 _ ?_
    refine s_dup X88 hx (D at_459) rfl ?_
    refine s_bipush X88 hx (58 : Int32) (D at_460) rfl ?_
    refine s_iload X88 hx (D at_462) rfl ?_
    refine st89 _ ?_
    refine s_dup X89 hx (D at_465) rfl ?_
    refine s_bipush X89 hx (59 : Int32) (D at_466) rfl ?_
    refine s_iload X89 hx (D at_468) rfl ?_
    refine st90 _ ?_
    exact Steps.refl _)
  obtain ⟨T92, h92, X92, e92, Wz92, st92⟩ := own_zst X90 hx hZ e90 V90 (i := 60) (by decide) (by decide) (g := (mkF m 476 #[.val (.int p0), .val (.int p1), .val (.int p2), .val (.int p3), .val (.int p4), .val (.int p5), .val (.int ((p0 &&& (2147483647 : Int32)) % (6 : Int32))), .val (.ref jw_1), .val (.int jd_1), .val (.int (48 : Int32)), .unset, .unset, .unset, .unset, .unset, .unset] [(.int (48 : Int32)), (.int (60 : Int32)), (.ref fa24), (.ref fa24)])) rfl rfl (D at_476)
  obtain ⟨W92, V92⟩ := Wz92
  have N92 := Fr.snoc X92 N90 gn_fa24
  have Zn92 : n0 ≤ h92.size := Nat.le_trans Zn90 (Keep.of_wr W92).1
  have K92 : Keep h0 h92 [] := K90.wr W92 (Or.inr gh_fa24)
  have O92 := O90.wr W92 gn_fa24
  obtain ⟨T93, h93, X93, e93, Wz93, st93⟩ := own_zst X92 hx hZ e92 V92 (i := 61) (by decide) (by decide) (g := (mkF m 482 #[.val (.int p0), .val (.int p1), .val (.int p2), .val (.int p3), .val (.int p4), .val (.int p5), .val (.int ((p0 &&& (2147483647 : Int32)) % (6 : Int32))), .val (.ref jw_1), .val (.int jd_1), .val (.int (48 : Int32)), .unset, .unset, .unset, .unset, .unset, .unset] [(.int (48 : Int32)), (.int (61 : Int32)), (.ref fa24), (.ref fa24)])) rfl rfl (D at_482)
  obtain ⟨W93, V93⟩ := Wz93
  have N93 := Fr.snoc X93 N92 gn_fa24
  have Zn93 : n0 ≤ h93.size := Nat.le_trans Zn92 (Keep.of_wr W93).1
  have K93 : Keep h0 h93 [] := K92.wr W93 (Or.inr gh_fa24)
  have O93 := O92.wr W93 gn_fa24
  obtain ⟨T94, h94, X94, e94, Wz94, st94⟩ := own_zst X93 hx hZ e93 V93 (i := 62) (by decide) (by decide) (g := (mkF m 488 #[.val (.int p0), .val (.int p1), .val (.int p2), .val (.int p3), .val (.int p4), .val (.int p5), .val (.int ((p0 &&& (2147483647 : Int32)) % (6 : Int32))), .val (.ref jw_1), .val (.int jd_1), .val (.int (48 : Int32)), .unset, .unset, .unset, .unset, .unset, .unset] [(.int (48 : Int32)), (.int (62 : Int32)), (.ref fa24), (.ref fa24)])) rfl rfl (D at_488)
  obtain ⟨W94, V94⟩ := Wz94
  have N94 := Fr.snoc X94 N93 gn_fa24
  have Zn94 : n0 ≤ h94.size := Nat.le_trans Zn93 (Keep.of_wr W94).1
  have K94 : Keep h0 h94 [] := K93.wr W94 (Or.inr gh_fa24)
  have O94 := O93.wr W94 gn_fa24
  obtain ⟨T95, h95, X95, e95, Wz95, st95⟩ := own_zst X94 hx hZ e94 V94 (i := 63) (by decide) (by decide) (g := (mkF m 494 #[.val (.int p0), .val (.int p1), .val (.int p2), .val (.int p3), .val (.int p4), .val (.int p5), .val (.int ((p0 &&& (2147483647 : Int32)) % (6 : Int32))), .val (.ref jw_1), .val (.int jd_1), .val (.int (48 : Int32)), .unset, .unset, .unset, .unset, .unset, .unset] [(.int (48 : Int32)), (.int (63 : Int32)), (.ref fa24), (.ref fa24)])) rfl rfl (D at_494)
  obtain ⟨W95, V95⟩ := Wz95
  have N95 := Fr.snoc X95 N94 gn_fa24
  have Zn95 : n0 ≤ h95.size := Nat.le_trans Zn94 (Keep.of_wr W95).1
  have K95 : Keep h0 h95 [] := K94.wr W95 (Or.inr gh_fa24)
  have O95 := O94.wr W95 gn_fa24
  obtain ⟨T96, h96, X96, e96, Wz96, st96⟩ := own_zst X95 hx hZ e95 V95 (i := 64) (by decide) (by decide) (g := (mkF m 500 #[.val (.int p0), .val (.int p1), .val (.int p2), .val (.int p3), .val (.int p4), .val (.int p5), .val (.int ((p0 &&& (2147483647 : Int32)) % (6 : Int32))), .val (.ref jw_1), .val (.int jd_1), .val (.int (48 : Int32)), .unset, .unset, .unset, .unset, .unset, .unset] [(.int (48 : Int32)), (.int (64 : Int32)), (.ref fa24), (.ref fa24)])) rfl rfl (D at_500)
  obtain ⟨W96, V96⟩ := Wz96
  have N96 := Fr.snoc X96 N95 gn_fa24
  have Zn96 : n0 ≤ h96.size := Nat.le_trans Zn95 (Keep.of_wr W96).1
  have K96 : Keep h0 h96 [] := K95.wr W96 (Or.inr gh_fa24)
  have O96 := O95.wr W96 gn_fa24
  obtain ⟨T97, h97, X97, e97, Wz97, st97⟩ := own_zst X96 hx hZ e96 V96 (i := 65) (by decide) (by decide) (g := (mkF m 506 #[.val (.int p0), .val (.int p1), .val (.int p2), .val (.int p3), .val (.int p4), .val (.int p5), .val (.int ((p0 &&& (2147483647 : Int32)) % (6 : Int32))), .val (.ref jw_1), .val (.int jd_1), .val (.int (48 : Int32)), .unset, .unset, .unset, .unset, .unset, .unset] [(.int (48 : Int32)), (.int (65 : Int32)), (.ref fa24), (.ref fa24)])) rfl rfl (D at_506)
  obtain ⟨W97, V97⟩ := Wz97
  have N97 := Fr.snoc X97 N96 gn_fa24
  have Zn97 : n0 ≤ h97.size := Nat.le_trans Zn96 (Keep.of_wr W97).1
  have K97 : Keep h0 h97 [] := K96.wr W97 (Or.inr gh_fa24)
  have O97 := O96.wr W97 gn_fa24
  obtain ⟨T98, h98, X98, e98, Wz98, st98⟩ := own_zst X97 hx hZ e97 V97 (i := 66) (by decide) (by decide) (g := (mkF m 512 #[.val (.int p0), .val (.int p1), .val (.int p2), .val (.int p3), .val (.int p4), .val (.int p5), .val (.int ((p0 &&& (2147483647 : Int32)) % (6 : Int32))), .val (.ref jw_1), .val (.int jd_1), .val (.int (48 : Int32)), .unset, .unset, .unset, .unset, .unset, .unset] [(.int (48 : Int32)), (.int (66 : Int32)), (.ref fa24), (.ref fa24)])) rfl rfl (D at_512)
  obtain ⟨W98, V98⟩ := Wz98
  have N98 := Fr.snoc X98 N97 gn_fa24
  have Zn98 : n0 ≤ h98.size := Nat.le_trans Zn97 (Keep.of_wr W98).1
  have K98 : Keep h0 h98 [] := K97.wr W98 (Or.inr gh_fa24)
  have O98 := O97.wr W98 gn_fa24
  obtain ⟨T99, h99, X99, e99, Wz99, st99⟩ := own_zst X98 hx hZ e98 V98 (i := 67) (by decide) (by decide) (g := (mkF m 518 #[.val (.int p0), .val (.int p1), .val (.int p2), .val (.int p3), .val (.int p4), .val (.int p5), .val (.int ((p0 &&& (2147483647 : Int32)) % (6 : Int32))), .val (.ref jw_1), .val (.int jd_1), .val (.int (48 : Int32)), .unset, .unset, .unset, .unset, .unset, .unset] [(.int (48 : Int32)), (.int (67 : Int32)), (.ref fa24), (.ref fa24)])) rfl rfl (D at_518)
  obtain ⟨W99, V99⟩ := Wz99
  have N99 := Fr.snoc X99 N98 gn_fa24
  have Zn99 : n0 ≤ h99.size := Nat.le_trans Zn98 (Keep.of_wr W99).1
  have K99 : Keep h0 h99 [] := K98.wr W99 (Or.inr gh_fa24)
  have O99 := O98.wr W99 gn_fa24
  obtain ⟨T100, h100, X100, e100, Wz100, st100⟩ := own_zst X99 hx hZ e99 V99 (i := 68) (by decide) (by decide) (g := (mkF m 524 #[.val (.int p0), .val (.int p1), .val (.int p2), .val (.int p3), .val (.int p4), .val (.int p5), .val (.int ((p0 &&& (2147483647 : Int32)) % (6 : Int32))), .val (.ref jw_1), .val (.int jd_1), .val (.int (48 : Int32)), .unset, .unset, .unset, .unset, .unset, .unset] [(.int (48 : Int32)), (.int (68 : Int32)), (.ref fa24), (.ref fa24)])) rfl rfl (D at_524)
  obtain ⟨W100, V100⟩ := Wz100
  have N100 := Fr.snoc X100 N99 gn_fa24
  have Zn100 : n0 ≤ h100.size := Nat.le_trans Zn99 (Keep.of_wr W100).1
  have K100 : Keep h0 h100 [] := K99.wr W100 (Or.inr gh_fa24)
  have O100 := O99.wr W100 gn_fa24
  obtain ⟨T101, h101, X101, e101, Wz101, st101⟩ := own_zst X100 hx hZ e100 V100 (i := 69) (by decide) (by decide) (g := (mkF m 530 #[.val (.int p0), .val (.int p1), .val (.int p2), .val (.int p3), .val (.int p4), .val (.int p5), .val (.int ((p0 &&& (2147483647 : Int32)) % (6 : Int32))), .val (.ref jw_1), .val (.int jd_1), .val (.int (48 : Int32)), .unset, .unset, .unset, .unset, .unset, .unset] [(.int (48 : Int32)), (.int (69 : Int32)), (.ref fa24), (.ref fa24)])) rfl rfl (D at_530)
  obtain ⟨W101, V101⟩ := Wz101
  have N101 := Fr.snoc X101 N100 gn_fa24
  have Zn101 : n0 ≤ h101.size := Nat.le_trans Zn100 (Keep.of_wr W101).1
  have K101 : Keep h0 h101 [] := K100.wr W101 (Or.inr gh_fa24)
  have O101 := O100.wr W101 gn_fa24
  have cs102 : Steps p.tables e below (s₁.setTop (mkF m 0 #[.val (.int p0), .val (.int p1), .val (.int p2), .val (.int p3), .val (.int p4), .val (.int p5), .unset, .unset, .unset, .unset, .unset, .unset, .unset, .unset, .unset, .unset] [])) (T101.setTop (mkF m 531 #[.val (.int p0), .val (.int p1), .val (.int p2), .val (.int p3), .val (.int p4), .val (.int p5), .val (.int ((p0 &&& (2147483647 : Int32)) % (6 : Int32))), .val (.ref jw_1), .val (.int jd_1), .val (.int (48 : Int32)), .unset, .unset, .unset, .unset, .unset, .unset] [(.ref fa24)])) := cs91.trans (by
    refine s_dup X90 hx (D at_471) rfl ?_
    refine s_bipush X90 hx (60 : Int32) (D at_472) rfl ?_
    refine s_iload X90 hx (D at_474) rfl ?_
    refine st92 _ ?_
    refine s_dup X92 hx (D at_477) rfl ?_
    refine s_bipush X92 hx (61 : Int32) (D at_478) rfl ?_
    refine s_iload X92 hx (D at_480) rfl ?_
    refine st93 _ ?_
    refine s_dup X93 hx (D at_483) rfl ?_
    refine s_bipush X93 hx (62 : Int32) (D at_484) rfl ?_
    refine s_iload X93 hx (D at_486) rfl ?_
    refine st94 _ ?_
    refine s_dup X94 hx (D at_489) rfl ?_
    refine s_bipush X94 hx (63 : Int32) (D at_490) rfl ?_
    refine s_iload X94 hx (D at_492) rfl ?_
    refine st95 _ ?_
    refine s_dup X95 hx (D at_495) rfl ?_
    refine s_bipush X95 hx (64 : Int32) (D at_496) rfl ?_
    refine s_iload X95 hx (D at_498) rfl ?_
    refine st96 _ ?_
    refine s_dup X96 hx (D at_501) rfl ?_
    refine s_bipush X96 hx (65 : Int32) (D at_502) rfl ?_
    refine s_iload X96 hx (D at_504) rfl ?_
    refine st97 _ ?_
    refine s_dup X97 hx (D at_507) rfl ?_
    refine s_bipush X97 hx (66 : Int32) (D at_508) rfl ?_
    refine s_iload X97 hx (D at_510) rfl ?_
    refine st98 _ ?_
    refine s_dup X98 hx (D at_513) rfl ?_
    refine s_bipush X98 hx (67 : Int32) (D at_514) rfl ?_
    refine s_iload X98 hx (D at_516) rfl ?_
    refine st99 _ ?_
    refine s_dup X99 hx (D at_519) rfl ?_
    refine s_bipush X99 hx (68 : Int32) (D at_520) rfl ?_
    refine s_iload X99 hx (D at_522) rfl ?_
    refine st100 _ ?_
    refine s_dup X100 hx (D at_525) rfl ?_
    refine s_bipush X100 hx (69 : Int32) (D at_526) rfl ?_
    refine s_iload X100 hx (D at_528) rfl ?_
    refine st101 _ ?_
    exact Steps.refl _)
  obtain ⟨T103, h103, X103, e103, Wz103, st103⟩ := own_zst X101 hx hZ e101 V101 (i := 70) (by decide) (by decide) (g := (mkF m 536 #[.val (.int p0), .val (.int p1), .val (.int p2), .val (.int p3), .val (.int p4), .val (.int p5), .val (.int ((p0 &&& (2147483647 : Int32)) % (6 : Int32))), .val (.ref jw_1), .val (.int jd_1), .val (.int (48 : Int32)), .unset, .unset, .unset, .unset, .unset, .unset] [(.int (48 : Int32)), (.int (70 : Int32)), (.ref fa24), (.ref fa24)])) rfl rfl (D at_536)
  obtain ⟨W103, V103⟩ := Wz103
  have N103 := Fr.snoc X103 N101 gn_fa24
  have Zn103 : n0 ≤ h103.size := Nat.le_trans Zn101 (Keep.of_wr W103).1
  have K103 : Keep h0 h103 [] := K101.wr W103 (Or.inr gh_fa24)
  have O103 := O101.wr W103 gn_fa24
  obtain ⟨T104, h104, X104, e104, Wz104, st104⟩ := own_zst X103 hx hZ e103 V103 (i := 71) (by decide) (by decide) (g := (mkF m 542 #[.val (.int p0), .val (.int p1), .val (.int p2), .val (.int p3), .val (.int p4), .val (.int p5), .val (.int ((p0 &&& (2147483647 : Int32)) % (6 : Int32))), .val (.ref jw_1), .val (.int jd_1), .val (.int (48 : Int32)), .unset, .unset, .unset, .unset, .unset, .unset] [(.int (48 : Int32)), (.int (71 : Int32)), (.ref fa24), (.ref fa24)])) rfl rfl (D at_542)
  obtain ⟨W104, V104⟩ := Wz104
  have N104 := Fr.snoc X104 N103 gn_fa24
  have Zn104 : n0 ≤ h104.size := Nat.le_trans Zn103 (Keep.of_wr W104).1
  have K104 : Keep h0 h104 [] := K103.wr W104 (Or.inr gh_fa24)
  have O104 := O103.wr W104 gn_fa24
  obtain ⟨T105, h105, X105, e105, Wz105, st105⟩ := own_zst X104 hx hZ e104 V104 (i := 72) (by decide) (by decide) (g := (mkF m 548 #[.val (.int p0), .val (.int p1), .val (.int p2), .val (.int p3), .val (.int p4), .val (.int p5), .val (.int ((p0 &&& (2147483647 : Int32)) % (6 : Int32))), .val (.ref jw_1), .val (.int jd_1), .val (.int (48 : Int32)), .unset, .unset, .unset, .unset, .unset, .unset] [(.int (48 : Int32)), (.int (72 : Int32)), (.ref fa24), (.ref fa24)])) rfl rfl (D at_548)
  obtain ⟨W105, V105⟩ := Wz105
  have N105 := Fr.snoc X105 N104 gn_fa24
  have Zn105 : n0 ≤ h105.size := Nat.le_trans Zn104 (Keep.of_wr W105).1
  have K105 : Keep h0 h105 [] := K104.wr W105 (Or.inr gh_fa24)
  have O105 := O104.wr W105 gn_fa24
  obtain ⟨T106, h106, X106, e106, Wz106, st106⟩ := own_zst X105 hx hZ e105 V105 (i := 73) (by decide) (by decide) (g := (mkF m 554 #[.val (.int p0), .val (.int p1), .val (.int p2), .val (.int p3), .val (.int p4), .val (.int p5), .val (.int ((p0 &&& (2147483647 : Int32)) % (6 : Int32))), .val (.ref jw_1), .val (.int jd_1), .val (.int (48 : Int32)), .unset, .unset, .unset, .unset, .unset, .unset] [(.int (48 : Int32)), (.int (73 : Int32)), (.ref fa24), (.ref fa24)])) rfl rfl (D at_554)
  obtain ⟨W106, V106⟩ := Wz106
  have N106 := Fr.snoc X106 N105 gn_fa24
  have Zn106 : n0 ≤ h106.size := Nat.le_trans Zn105 (Keep.of_wr W106).1
  have K106 : Keep h0 h106 [] := K105.wr W106 (Or.inr gh_fa24)
  have O106 := O105.wr W106 gn_fa24
  obtain ⟨T107, h107, X107, e107, Wz107, st107⟩ := own_zst X106 hx hZ e106 V106 (i := 74) (by decide) (by decide) (g := (mkF m 560 #[.val (.int p0), .val (.int p1), .val (.int p2), .val (.int p3), .val (.int p4), .val (.int p5), .val (.int ((p0 &&& (2147483647 : Int32)) % (6 : Int32))), .val (.ref jw_1), .val (.int jd_1), .val (.int (48 : Int32)), .unset, .unset, .unset, .unset, .unset, .unset] [(.int (48 : Int32)), (.int (74 : Int32)), (.ref fa24), (.ref fa24)])) rfl rfl (D at_560)
  obtain ⟨W107, V107⟩ := Wz107
  have N107 := Fr.snoc X107 N106 gn_fa24
  have Zn107 : n0 ≤ h107.size := Nat.le_trans Zn106 (Keep.of_wr W107).1
  have K107 : Keep h0 h107 [] := K106.wr W107 (Or.inr gh_fa24)
  have O107 := O106.wr W107 gn_fa24
  obtain ⟨T108, h108, X108, e108, Wz108, st108⟩ := own_zst X107 hx hZ e107 V107 (i := 75) (by decide) (by decide) (g := (mkF m 566 #[.val (.int p0), .val (.int p1), .val (.int p2), .val (.int p3), .val (.int p4), .val (.int p5), .val (.int ((p0 &&& (2147483647 : Int32)) % (6 : Int32))), .val (.ref jw_1), .val (.int jd_1), .val (.int (48 : Int32)), .unset, .unset, .unset, .unset, .unset, .unset] [(.int (48 : Int32)), (.int (75 : Int32)), (.ref fa24), (.ref fa24)])) rfl rfl (D at_566)
  obtain ⟨W108, V108⟩ := Wz108
  have N108 := Fr.snoc X108 N107 gn_fa24
  have Zn108 : n0 ≤ h108.size := Nat.le_trans Zn107 (Keep.of_wr W108).1
  have K108 : Keep h0 h108 [] := K107.wr W108 (Or.inr gh_fa24)
  have O108 := O107.wr W108 gn_fa24
  obtain ⟨T109, h109, X109, e109, Wz109, st109⟩ := own_zst X108 hx hZ e108 V108 (i := 76) (by decide) (by decide) (g := (mkF m 572 #[.val (.int p0), .val (.int p1), .val (.int p2), .val (.int p3), .val (.int p4), .val (.int p5), .val (.int ((p0 &&& (2147483647 : Int32)) % (6 : Int32))), .val (.ref jw_1), .val (.int jd_1), .val (.int (48 : Int32)), .unset, .unset, .unset, .unset, .unset, .unset] [(.int (48 : Int32)), (.int (76 : Int32)), (.ref fa24), (.ref fa24)])) rfl rfl (D at_572)
  obtain ⟨W109, V109⟩ := Wz109
  have N109 := Fr.snoc X109 N108 gn_fa24
  have Zn109 : n0 ≤ h109.size := Nat.le_trans Zn108 (Keep.of_wr W109).1
  have K109 : Keep h0 h109 [] := K108.wr W109 (Or.inr gh_fa24)
  have O109 := O108.wr W109 gn_fa24
  obtain ⟨T110, h110, X110, e110, Wz110, st110⟩ := own_zst X109 hx hZ e109 V109 (i := 77) (by decide) (by decide) (g := (mkF m 578 #[.val (.int p0), .val (.int p1), .val (.int p2), .val (.int p3), .val (.int p4), .val (.int p5), .val (.int ((p0 &&& (2147483647 : Int32)) % (6 : Int32))), .val (.ref jw_1), .val (.int jd_1), .val (.int (48 : Int32)), .unset, .unset, .unset, .unset, .unset, .unset] [(.int (48 : Int32)), (.int (77 : Int32)), (.ref fa24), (.ref fa24)])) rfl rfl (D at_578)
  obtain ⟨W110, V110⟩ := Wz110
  have N110 := Fr.snoc X110 N109 gn_fa24
  have Zn110 : n0 ≤ h110.size := Nat.le_trans Zn109 (Keep.of_wr W110).1
  have K110 : Keep h0 h110 [] := K109.wr W110 (Or.inr gh_fa24)
  have O110 := O109.wr W110 gn_fa24
  obtain ⟨T111, h111, X111, e111, Wz111, st111⟩ := own_zst X110 hx hZ e110 V110 (i := 78) (by decide) (by decide) (g := (mkF m 584 #[.val (.int p0), .val (.int p1), .val (.int p2), .val (.int p3), .val (.int p4), .val (.int p5), .val (.int ((p0 &&& (2147483647 : Int32)) % (6 : Int32))), .val (.ref jw_1), .val (.int jd_1), .val (.int (48 : Int32)), .unset, .unset, .unset, .unset, .unset, .unset] [(.int (48 : Int32)), (.int (78 : Int32)), (.ref fa24), (.ref fa24)])) rfl rfl (D at_584)
  obtain ⟨W111, V111⟩ := Wz111
  have N111 := Fr.snoc X111 N110 gn_fa24
  have Zn111 : n0 ≤ h111.size := Nat.le_trans Zn110 (Keep.of_wr W111).1
  have K111 : Keep h0 h111 [] := K110.wr W111 (Or.inr gh_fa24)
  have O111 := O110.wr W111 gn_fa24
  obtain ⟨T112, h112, X112, e112, Wz112, st112⟩ := own_zst X111 hx hZ e111 V111 (i := 79) (by decide) (by decide) (g := (mkF m 590 #[.val (.int p0), .val (.int p1), .val (.int p2), .val (.int p3), .val (.int p4), .val (.int p5), .val (.int ((p0 &&& (2147483647 : Int32)) % (6 : Int32))), .val (.ref jw_1), .val (.int jd_1), .val (.int (48 : Int32)), .unset, .unset, .unset, .unset, .unset, .unset] [(.int (48 : Int32)), (.int (79 : Int32)), (.ref fa24), (.ref fa24)])) rfl rfl (D at_590)
  obtain ⟨W112, V112⟩ := Wz112
  have N112 := Fr.snoc X112 N111 gn_fa24
  have Zn112 : n0 ≤ h112.size := Nat.le_trans Zn111 (Keep.of_wr W112).1
  have K112 : Keep h0 h112 [] := K111.wr W112 (Or.inr gh_fa24)
  have O112 := O111.wr W112 gn_fa24
  have cs113 : Steps p.tables e below (s₁.setTop (mkF m 0 #[.val (.int p0), .val (.int p1), .val (.int p2), .val (.int p3), .val (.int p4), .val (.int p5), .unset, .unset, .unset, .unset, .unset, .unset, .unset, .unset, .unset, .unset] [])) (T112.setTop (mkF m 591 #[.val (.int p0), .val (.int p1), .val (.int p2), .val (.int p3), .val (.int p4), .val (.int p5), .val (.int ((p0 &&& (2147483647 : Int32)) % (6 : Int32))), .val (.ref jw_1), .val (.int jd_1), .val (.int (48 : Int32)), .unset, .unset, .unset, .unset, .unset, .unset] [(.ref fa24)])) := cs102.trans (by
    refine s_dup X101 hx (D at_531) rfl ?_
    refine s_bipush X101 hx (70 : Int32) (D at_532) rfl ?_
    refine s_iload X101 hx (D at_534) rfl ?_
    refine st103 _ ?_
    refine s_dup X103 hx (D at_537) rfl ?_
    refine s_bipush X103 hx (71 : Int32) (D at_538) rfl ?_
    refine s_iload X103 hx (D at_540) rfl ?_
    refine st104 _ ?_
    refine s_dup X104 hx (D at_543) rfl ?_
    refine s_bipush X104 hx (72 : Int32) (D at_544) rfl ?_
    refine s_iload X104 hx (D at_546) rfl ?_
    refine st105 _ ?_
    refine s_dup X105 hx (D at_549) rfl ?_
    refine s_bipush X105 hx (73 : Int32) (D at_550) rfl ?_
    refine s_iload X105 hx (D at_552) rfl ?_
    refine st106 _ ?_
    refine s_dup X106 hx (D at_555) rfl ?_
    refine s_bipush X106 hx (74 : Int32) (D at_556) rfl ?_
    refine s_iload X106 hx (D at_558) rfl ?_
    refine st107 _ ?_
    refine s_dup X107 hx (D at_561) rfl ?_
    refine s_bipush X107 hx (75 : Int32) (D at_562) rfl ?_
    refine s_iload X107 hx (D at_564) rfl ?_
    refine st108 _ ?_
    refine s_dup X108 hx (D at_567) rfl ?_
    refine s_bipush X108 hx (76 : Int32) (D at_568) rfl ?_
    refine s_iload X108 hx (D at_570) rfl ?_
    refine st109 _ ?_
    refine s_dup X109 hx (D at_573) rfl ?_
    refine s_bipush X109 hx (77 : Int32) (D at_574) rfl ?_
    refine s_iload X109 hx (D at_576) rfl ?_
    refine st110 _ ?_
    refine s_dup X110 hx (D at_579) rfl ?_
    refine s_bipush X110 hx (78 : Int32) (D at_580) rfl ?_
    refine s_iload X110 hx (D at_582) rfl ?_
    refine st111 _ ?_
    refine s_dup X111 hx (D at_585) rfl ?_
    refine s_bipush X111 hx (79 : Int32) (D at_586) rfl ?_
    refine s_iload X111 hx (D at_588) rfl ?_
    refine st112 _ ?_
    exact Steps.refl _)
  obtain ⟨T114, h114, X114, e114, Wz114, st114⟩ := own_zst X112 hx hZ e112 V112 (i := 80) (by decide) (by decide) (g := (mkF m 596 #[.val (.int p0), .val (.int p1), .val (.int p2), .val (.int p3), .val (.int p4), .val (.int p5), .val (.int ((p0 &&& (2147483647 : Int32)) % (6 : Int32))), .val (.ref jw_1), .val (.int jd_1), .val (.int (48 : Int32)), .unset, .unset, .unset, .unset, .unset, .unset] [(.int (48 : Int32)), (.int (80 : Int32)), (.ref fa24), (.ref fa24)])) rfl rfl (D at_596)
  obtain ⟨W114, V114⟩ := Wz114
  have N114 := Fr.snoc X114 N112 gn_fa24
  have Zn114 : n0 ≤ h114.size := Nat.le_trans Zn112 (Keep.of_wr W114).1
  have K114 : Keep h0 h114 [] := K112.wr W114 (Or.inr gh_fa24)
  have O114 := O112.wr W114 gn_fa24
  obtain ⟨T115, h115, X115, e115, Wz115, st115⟩ := own_zst X114 hx hZ e114 V114 (i := 81) (by decide) (by decide) (g := (mkF m 602 #[.val (.int p0), .val (.int p1), .val (.int p2), .val (.int p3), .val (.int p4), .val (.int p5), .val (.int ((p0 &&& (2147483647 : Int32)) % (6 : Int32))), .val (.ref jw_1), .val (.int jd_1), .val (.int (48 : Int32)), .unset, .unset, .unset, .unset, .unset, .unset] [(.int (48 : Int32)), (.int (81 : Int32)), (.ref fa24), (.ref fa24)])) rfl rfl (D at_602)
  obtain ⟨W115, V115⟩ := Wz115
  have N115 := Fr.snoc X115 N114 gn_fa24
  have Zn115 : n0 ≤ h115.size := Nat.le_trans Zn114 (Keep.of_wr W115).1
  have K115 : Keep h0 h115 [] := K114.wr W115 (Or.inr gh_fa24)
  have O115 := O114.wr W115 gn_fa24
  obtain ⟨T116, h116, X116, e116, Wz116, st116⟩ := own_zst X115 hx hZ e115 V115 (i := 82) (by decide) (by decide) (g := (mkF m 608 #[.val (.int p0), .val (.int p1), .val (.int p2), .val (.int p3), .val (.int p4), .val (.int p5), .val (.int ((p0 &&& (2147483647 : Int32)) % (6 : Int32))), .val (.ref jw_1), .val (.int jd_1), .val (.int (48 : Int32)), .unset, .unset, .unset, .unset, .unset, .unset] [(.int (48 : Int32)), (.int (82 : Int32)), (.ref fa24), (.ref fa24)])) rfl rfl (D at_608)
  obtain ⟨W116, V116⟩ := Wz116
  have N116 := Fr.snoc X116 N115 gn_fa24
  have Zn116 : n0 ≤ h116.size := Nat.le_trans Zn115 (Keep.of_wr W116).1
  have K116 : Keep h0 h116 [] := K115.wr W116 (Or.inr gh_fa24)
  have O116 := O115.wr W116 gn_fa24
  obtain ⟨T117, h117, X117, e117, Wz117, st117⟩ := own_zst X116 hx hZ e116 V116 (i := 83) (by decide) (by decide) (g := (mkF m 614 #[.val (.int p0), .val (.int p1), .val (.int p2), .val (.int p3), .val (.int p4), .val (.int p5), .val (.int ((p0 &&& (2147483647 : Int32)) % (6 : Int32))), .val (.ref jw_1), .val (.int jd_1), .val (.int (48 : Int32)), .unset, .unset, .unset, .unset, .unset, .unset] [(.int (48 : Int32)), (.int (83 : Int32)), (.ref fa24), (.ref fa24)])) rfl rfl (D at_614)
  obtain ⟨W117, V117⟩ := Wz117
  have N117 := Fr.snoc X117 N116 gn_fa24
  have Zn117 : n0 ≤ h117.size := Nat.le_trans Zn116 (Keep.of_wr W117).1
  have K117 : Keep h0 h117 [] := K116.wr W117 (Or.inr gh_fa24)
  have O117 := O116.wr W117 gn_fa24
  obtain ⟨T118, h118, X118, e118, Wz118, st118⟩ := own_zst X117 hx hZ e117 V117 (i := 84) (by decide) (by decide) (g := (mkF m 620 #[.val (.int p0), .val (.int p1), .val (.int p2), .val (.int p3), .val (.int p4), .val (.int p5), .val (.int ((p0 &&& (2147483647 : Int32)) % (6 : Int32))), .val (.ref jw_1), .val (.int jd_1), .val (.int (48 : Int32)), .unset, .unset, .unset, .unset, .unset, .unset] [(.int (48 : Int32)), (.int (84 : Int32)), (.ref fa24), (.ref fa24)])) rfl rfl (D at_620)
  obtain ⟨W118, V118⟩ := Wz118
  have N118 := Fr.snoc X118 N117 gn_fa24
  have Zn118 : n0 ≤ h118.size := Nat.le_trans Zn117 (Keep.of_wr W118).1
  have K118 : Keep h0 h118 [] := K117.wr W118 (Or.inr gh_fa24)
  have O118 := O117.wr W118 gn_fa24
  obtain ⟨T119, h119, X119, e119, Wz119, st119⟩ := own_zst X118 hx hZ e118 V118 (i := 85) (by decide) (by decide) (g := (mkF m 626 #[.val (.int p0), .val (.int p1), .val (.int p2), .val (.int p3), .val (.int p4), .val (.int p5), .val (.int ((p0 &&& (2147483647 : Int32)) % (6 : Int32))), .val (.ref jw_1), .val (.int jd_1), .val (.int (48 : Int32)), .unset, .unset, .unset, .unset, .unset, .unset] [(.int (48 : Int32)), (.int (85 : Int32)), (.ref fa24), (.ref fa24)])) rfl rfl (D at_626)
  obtain ⟨W119, V119⟩ := Wz119
  have N119 := Fr.snoc X119 N118 gn_fa24
  have Zn119 : n0 ≤ h119.size := Nat.le_trans Zn118 (Keep.of_wr W119).1
  have K119 : Keep h0 h119 [] := K118.wr W119 (Or.inr gh_fa24)
  have O119 := O118.wr W119 gn_fa24
  obtain ⟨T120, h120, X120, e120, Wz120, st120⟩ := own_zst X119 hx hZ e119 V119 (i := 86) (by decide) (by decide) (g := (mkF m 632 #[.val (.int p0), .val (.int p1), .val (.int p2), .val (.int p3), .val (.int p4), .val (.int p5), .val (.int ((p0 &&& (2147483647 : Int32)) % (6 : Int32))), .val (.ref jw_1), .val (.int jd_1), .val (.int (48 : Int32)), .unset, .unset, .unset, .unset, .unset, .unset] [(.int (48 : Int32)), (.int (86 : Int32)), (.ref fa24), (.ref fa24)])) rfl rfl (D at_632)
  obtain ⟨W120, V120⟩ := Wz120
  have N120 := Fr.snoc X120 N119 gn_fa24
  have Zn120 : n0 ≤ h120.size := Nat.le_trans Zn119 (Keep.of_wr W120).1
  have K120 : Keep h0 h120 [] := K119.wr W120 (Or.inr gh_fa24)
  have O120 := O119.wr W120 gn_fa24
  obtain ⟨T121, h121, X121, e121, Wz121, st121⟩ := own_zst X120 hx hZ e120 V120 (i := 87) (by decide) (by decide) (g := (mkF m 638 #[.val (.int p0), .val (.int p1), .val (.int p2), .val (.int p3), .val (.int p4), .val (.int p5), .val (.int ((p0 &&& (2147483647 : Int32)) % (6 : Int32))), .val (.ref jw_1), .val (.int jd_1), .val (.int (48 : Int32)), .unset, .unset, .unset, .unset, .unset, .unset] [(.int (48 : Int32)), (.int (87 : Int32)), (.ref fa24), (.ref fa24)])) rfl rfl (D at_638)
  obtain ⟨W121, V121⟩ := Wz121
  have N121 := Fr.snoc X121 N120 gn_fa24
  have Zn121 : n0 ≤ h121.size := Nat.le_trans Zn120 (Keep.of_wr W121).1
  have K121 : Keep h0 h121 [] := K120.wr W121 (Or.inr gh_fa24)
  have O121 := O120.wr W121 gn_fa24
  obtain ⟨T122, h122, X122, e122, Wz122, st122⟩ := own_zst X121 hx hZ e121 V121 (i := 88) (by decide) (by decide) (g := (mkF m 644 #[.val (.int p0), .val (.int p1), .val (.int p2), .val (.int p3), .val (.int p4), .val (.int p5), .val (.int ((p0 &&& (2147483647 : Int32)) % (6 : Int32))), .val (.ref jw_1), .val (.int jd_1), .val (.int (48 : Int32)), .unset, .unset, .unset, .unset, .unset, .unset] [(.int (48 : Int32)), (.int (88 : Int32)), (.ref fa24), (.ref fa24)])) rfl rfl (D at_644)
  obtain ⟨W122, V122⟩ := Wz122
  have N122 := Fr.snoc X122 N121 gn_fa24
  have Zn122 : n0 ≤ h122.size := Nat.le_trans Zn121 (Keep.of_wr W122).1
  have K122 : Keep h0 h122 [] := K121.wr W122 (Or.inr gh_fa24)
  have O122 := O121.wr W122 gn_fa24
  obtain ⟨T123, h123, X123, e123, Wz123, st123⟩ := own_zst X122 hx hZ e122 V122 (i := 89) (by decide) (by decide) (g := (mkF m 650 #[.val (.int p0), .val (.int p1), .val (.int p2), .val (.int p3), .val (.int p4), .val (.int p5), .val (.int ((p0 &&& (2147483647 : Int32)) % (6 : Int32))), .val (.ref jw_1), .val (.int jd_1), .val (.int (48 : Int32)), .unset, .unset, .unset, .unset, .unset, .unset] [(.int (48 : Int32)), (.int (89 : Int32)), (.ref fa24), (.ref fa24)])) rfl rfl (D at_650)
  obtain ⟨W123, V123⟩ := Wz123
  have N123 := Fr.snoc X123 N122 gn_fa24
  have Zn123 : n0 ≤ h123.size := Nat.le_trans Zn122 (Keep.of_wr W123).1
  have K123 : Keep h0 h123 [] := K122.wr W123 (Or.inr gh_fa24)
  have O123 := O122.wr W123 gn_fa24
  have cs124 : Steps p.tables e below (s₁.setTop (mkF m 0 #[.val (.int p0), .val (.int p1), .val (.int p2), .val (.int p3), .val (.int p4), .val (.int p5), .unset, .unset, .unset, .unset, .unset, .unset, .unset, .unset, .unset, .unset] [])) (T123.setTop (mkF m 651 #[.val (.int p0), .val (.int p1), .val (.int p2), .val (.int p3), .val (.int p4), .val (.int p5), .val (.int ((p0 &&& (2147483647 : Int32)) % (6 : Int32))), .val (.ref jw_1), .val (.int jd_1), .val (.int (48 : Int32)), .unset, .unset, .unset, .unset, .unset, .unset] [(.ref fa24)])) := cs113.trans (by
    refine s_dup X112 hx (D at_591) rfl ?_
    refine s_bipush X112 hx (80 : Int32) (D at_592) rfl ?_
    refine s_iload X112 hx (D at_594) rfl ?_
    refine st114 _ ?_
    refine s_dup X114 hx (D at_597) rfl ?_
    refine s_bipush X114 hx (81 : Int32) (D at_598) rfl ?_
    refine s_iload X114 hx (D at_600) rfl ?_
    refine st115 _ ?_
    refine s_dup X115 hx (D at_603) rfl ?_
    refine s_bipush X115 hx (82 : Int32) (D at_604) rfl ?_
    refine s_iload X115 hx (D at_606) rfl ?_
    refine st116 _ ?_
    refine s_dup X116 hx (D at_609) rfl ?_
    refine s_bipush X116 hx (83 : Int32) (D at_610) rfl ?_
    refine s_iload X116 hx (D at_612) rfl ?_
    refine st117 _ ?_
    refine s_dup X117 hx (D at_615) rfl ?_
    refine s_bipush X117 hx (84 : Int32) (D at_616) rfl ?_
    refine s_iload X117 hx (D at_618) rfl ?_
    refine st118 _ ?_
    refine s_dup X118 hx (D at_621) rfl ?_
    refine s_bipush X118 hx (85 : Int32) (D at_622) rfl ?_
    refine s_iload X118 hx (D at_624) rfl ?_
    refine st119 _ ?_
    refine s_dup X119 hx (D at_627) rfl ?_
    refine s_bipush X119 hx (86 : Int32) (D at_628) rfl ?_
    refine s_iload X119 hx (D at_630) rfl ?_
    refine st120 _ ?_
    refine s_dup X120 hx (D at_633) rfl ?_
    refine s_bipush X120 hx (87 : Int32) (D at_634) rfl ?_
    refine s_iload X120 hx (D at_636) rfl ?_
    refine st121 _ ?_
    refine s_dup X121 hx (D at_639) rfl ?_
    refine s_bipush X121 hx (88 : Int32) (D at_640) rfl ?_
    refine s_iload X121 hx (D at_642) rfl ?_
    refine st122 _ ?_
    refine s_dup X122 hx (D at_645) rfl ?_
    refine s_bipush X122 hx (89 : Int32) (D at_646) rfl ?_
    refine s_iload X122 hx (D at_648) rfl ?_
    refine st123 _ ?_
    exact Steps.refl _)
  obtain ⟨T125, h125, X125, e125, Wz125, st125⟩ := own_zst X123 hx hZ e123 V123 (i := 90) (by decide) (by decide) (g := (mkF m 656 #[.val (.int p0), .val (.int p1), .val (.int p2), .val (.int p3), .val (.int p4), .val (.int p5), .val (.int ((p0 &&& (2147483647 : Int32)) % (6 : Int32))), .val (.ref jw_1), .val (.int jd_1), .val (.int (48 : Int32)), .unset, .unset, .unset, .unset, .unset, .unset] [(.int (48 : Int32)), (.int (90 : Int32)), (.ref fa24), (.ref fa24)])) rfl rfl (D at_656)
  obtain ⟨W125, V125⟩ := Wz125
  have N125 := Fr.snoc X125 N123 gn_fa24
  have Zn125 : n0 ≤ h125.size := Nat.le_trans Zn123 (Keep.of_wr W125).1
  have K125 : Keep h0 h125 [] := K123.wr W125 (Or.inr gh_fa24)
  have O125 := O123.wr W125 gn_fa24
  obtain ⟨T126, h126, X126, e126, Wz126, st126⟩ := own_zst X125 hx hZ e125 V125 (i := 91) (by decide) (by decide) (g := (mkF m 662 #[.val (.int p0), .val (.int p1), .val (.int p2), .val (.int p3), .val (.int p4), .val (.int p5), .val (.int ((p0 &&& (2147483647 : Int32)) % (6 : Int32))), .val (.ref jw_1), .val (.int jd_1), .val (.int (48 : Int32)), .unset, .unset, .unset, .unset, .unset, .unset] [(.int (48 : Int32)), (.int (91 : Int32)), (.ref fa24), (.ref fa24)])) rfl rfl (D at_662)
  obtain ⟨W126, V126⟩ := Wz126
  have N126 := Fr.snoc X126 N125 gn_fa24
  have Zn126 : n0 ≤ h126.size := Nat.le_trans Zn125 (Keep.of_wr W126).1
  have K126 : Keep h0 h126 [] := K125.wr W126 (Or.inr gh_fa24)
  have O126 := O125.wr W126 gn_fa24
  obtain ⟨T127, h127, X127, e127, Wz127, st127⟩ := own_zst X126 hx hZ e126 V126 (i := 92) (by decide) (by decide) (g := (mkF m 668 #[.val (.int p0), .val (.int p1), .val (.int p2), .val (.int p3), .val (.int p4), .val (.int p5), .val (.int ((p0 &&& (2147483647 : Int32)) % (6 : Int32))), .val (.ref jw_1), .val (.int jd_1), .val (.int (48 : Int32)), .unset, .unset, .unset, .unset, .unset, .unset] [(.int (48 : Int32)), (.int (92 : Int32)), (.ref fa24), (.ref fa24)])) rfl rfl (D at_668)
  obtain ⟨W127, V127⟩ := Wz127
  have N127 := Fr.snoc X127 N126 gn_fa24
  have Zn127 : n0 ≤ h127.size := Nat.le_trans Zn126 (Keep.of_wr W127).1
  have K127 : Keep h0 h127 [] := K126.wr W127 (Or.inr gh_fa24)
  have O127 := O126.wr W127 gn_fa24
  obtain ⟨T128, h128, X128, e128, Wz128, st128⟩ := own_zst X127 hx hZ e127 V127 (i := 93) (by decide) (by decide) (g := (mkF m 674 #[.val (.int p0), .val (.int p1), .val (.int p2), .val (.int p3), .val (.int p4), .val (.int p5), .val (.int ((p0 &&& (2147483647 : Int32)) % (6 : Int32))), .val (.ref jw_1), .val (.int jd_1), .val (.int (48 : Int32)), .unset, .unset, .unset, .unset, .unset, .unset] [(.int (48 : Int32)), (.int (93 : Int32)), (.ref fa24), (.ref fa24)])) rfl rfl (D at_674)
  obtain ⟨W128, V128⟩ := Wz128
  have N128 := Fr.snoc X128 N127 gn_fa24
  have Zn128 : n0 ≤ h128.size := Nat.le_trans Zn127 (Keep.of_wr W128).1
  have K128 : Keep h0 h128 [] := K127.wr W128 (Or.inr gh_fa24)
  have O128 := O127.wr W128 gn_fa24
  obtain ⟨T129, h129, X129, e129, Wz129, st129⟩ := own_zst X128 hx hZ e128 V128 (i := 94) (by decide) (by decide) (g := (mkF m 680 #[.val (.int p0), .val (.int p1), .val (.int p2), .val (.int p3), .val (.int p4), .val (.int p5), .val (.int ((p0 &&& (2147483647 : Int32)) % (6 : Int32))), .val (.ref jw_1), .val (.int jd_1), .val (.int (48 : Int32)), .unset, .unset, .unset, .unset, .unset, .unset] [(.int (48 : Int32)), (.int (94 : Int32)), (.ref fa24), (.ref fa24)])) rfl rfl (D at_680)
  obtain ⟨W129, V129⟩ := Wz129
  have N129 := Fr.snoc X129 N128 gn_fa24
  have Zn129 : n0 ≤ h129.size := Nat.le_trans Zn128 (Keep.of_wr W129).1
  have K129 : Keep h0 h129 [] := K128.wr W129 (Or.inr gh_fa24)
  have O129 := O128.wr W129 gn_fa24
  obtain ⟨T130, h130, X130, e130, Wz130, st130⟩ := own_zst X129 hx hZ e129 V129 (i := 95) (by decide) (by decide) (g := (mkF m 686 #[.val (.int p0), .val (.int p1), .val (.int p2), .val (.int p3), .val (.int p4), .val (.int p5), .val (.int ((p0 &&& (2147483647 : Int32)) % (6 : Int32))), .val (.ref jw_1), .val (.int jd_1), .val (.int (48 : Int32)), .unset, .unset, .unset, .unset, .unset, .unset] [(.int (48 : Int32)), (.int (95 : Int32)), (.ref fa24), (.ref fa24)])) rfl rfl (D at_686)
  obtain ⟨W130, V130⟩ := Wz130
  have N130 := Fr.snoc X130 N129 gn_fa24
  have Zn130 : n0 ≤ h130.size := Nat.le_trans Zn129 (Keep.of_wr W130).1
  have K130 : Keep h0 h130 [] := K129.wr W130 (Or.inr gh_fa24)
  have O130 := O129.wr W130 gn_fa24
  obtain ⟨T131, h131, X131, e131, Wz131, st131⟩ := own_zst X130 hx hZ e130 V130 (i := 96) (by decide) (by decide) (g := (mkF m 692 #[.val (.int p0), .val (.int p1), .val (.int p2), .val (.int p3), .val (.int p4), .val (.int p5), .val (.int ((p0 &&& (2147483647 : Int32)) % (6 : Int32))), .val (.ref jw_1), .val (.int jd_1), .val (.int (48 : Int32)), .unset, .unset, .unset, .unset, .unset, .unset] [(.int (48 : Int32)), (.int (96 : Int32)), (.ref fa24), (.ref fa24)])) rfl rfl (D at_692)
  obtain ⟨W131, V131⟩ := Wz131
  have N131 := Fr.snoc X131 N130 gn_fa24
  have Zn131 : n0 ≤ h131.size := Nat.le_trans Zn130 (Keep.of_wr W131).1
  have K131 : Keep h0 h131 [] := K130.wr W131 (Or.inr gh_fa24)
  have O131 := O130.wr W131 gn_fa24
  obtain ⟨T132, h132, X132, e132, Wz132, st132⟩ := own_zst X131 hx hZ e131 V131 (i := 97) (by decide) (by decide) (g := (mkF m 698 #[.val (.int p0), .val (.int p1), .val (.int p2), .val (.int p3), .val (.int p4), .val (.int p5), .val (.int ((p0 &&& (2147483647 : Int32)) % (6 : Int32))), .val (.ref jw_1), .val (.int jd_1), .val (.int (48 : Int32)), .unset, .unset, .unset, .unset, .unset, .unset] [(.int (48 : Int32)), (.int (97 : Int32)), (.ref fa24), (.ref fa24)])) rfl rfl (D at_698)
  obtain ⟨W132, V132⟩ := Wz132
  have N132 := Fr.snoc X132 N131 gn_fa24
  have Zn132 : n0 ≤ h132.size := Nat.le_trans Zn131 (Keep.of_wr W132).1
  have K132 : Keep h0 h132 [] := K131.wr W132 (Or.inr gh_fa24)
  have O132 := O131.wr W132 gn_fa24
  obtain ⟨T133, h133, X133, e133, Wz133, st133⟩ := own_zst X132 hx hZ e132 V132 (i := 98) (by decide) (by decide) (g := (mkF m 704 #[.val (.int p0), .val (.int p1), .val (.int p2), .val (.int p3), .val (.int p4), .val (.int p5), .val (.int ((p0 &&& (2147483647 : Int32)) % (6 : Int32))), .val (.ref jw_1), .val (.int jd_1), .val (.int (48 : Int32)), .unset, .unset, .unset, .unset, .unset, .unset] [(.int (48 : Int32)), (.int (98 : Int32)), (.ref fa24), (.ref fa24)])) rfl rfl (D at_704)
  obtain ⟨W133, V133⟩ := Wz133
  have N133 := Fr.snoc X133 N132 gn_fa24
  have Zn133 : n0 ≤ h133.size := Nat.le_trans Zn132 (Keep.of_wr W133).1
  have K133 : Keep h0 h133 [] := K132.wr W133 (Or.inr gh_fa24)
  have O133 := O132.wr W133 gn_fa24
  obtain ⟨T134, h134, X134, e134, Wz134, st134⟩ := own_zst X133 hx hZ e133 V133 (i := 99) (by decide) (by decide) (g := (mkF m 710 #[.val (.int p0), .val (.int p1), .val (.int p2), .val (.int p3), .val (.int p4), .val (.int p5), .val (.int ((p0 &&& (2147483647 : Int32)) % (6 : Int32))), .val (.ref jw_1), .val (.int jd_1), .val (.int (48 : Int32)), .unset, .unset, .unset, .unset, .unset, .unset] [(.int (48 : Int32)), (.int (99 : Int32)), (.ref fa24), (.ref fa24)])) rfl rfl (D at_710)
  obtain ⟨W134, V134⟩ := Wz134
  have N134 := Fr.snoc X134 N133 gn_fa24
  have Zn134 : n0 ≤ h134.size := Nat.le_trans Zn133 (Keep.of_wr W134).1
  have K134 : Keep h0 h134 [] := K133.wr W134 (Or.inr gh_fa24)
  have O134 := O133.wr W134 gn_fa24
  have cs135 : Steps p.tables e below (s₁.setTop (mkF m 0 #[.val (.int p0), .val (.int p1), .val (.int p2), .val (.int p3), .val (.int p4), .val (.int p5), .unset, .unset, .unset, .unset, .unset, .unset, .unset, .unset, .unset, .unset] [])) (T134.setTop (mkF m 711 #[.val (.int p0), .val (.int p1), .val (.int p2), .val (.int p3), .val (.int p4), .val (.int p5), .val (.int ((p0 &&& (2147483647 : Int32)) % (6 : Int32))), .val (.ref jw_1), .val (.int jd_1), .val (.int (48 : Int32)), .unset, .unset, .unset, .unset, .unset, .unset] [(.ref fa24)])) := cs124.trans (by
    refine s_dup X123 hx (D at_651) rfl ?_
    refine s_bipush X123 hx (90 : Int32) (D at_652) rfl ?_
    refine s_iload X123 hx (D at_654) rfl ?_
    refine st125 _ ?_
    refine s_dup X125 hx (D at_657) rfl ?_
    refine s_bipush X125 hx (91 : Int32) (D at_658) rfl ?_
    refine s_iload X125 hx (D at_660) rfl ?_
    refine st126 _ ?_
    refine s_dup X126 hx (D at_663) rfl ?_
    refine s_bipush X126 hx (92 : Int32) (D at_664) rfl ?_
    refine s_iload X126 hx (D at_666) rfl ?_
    refine st127 _ ?_
    refine s_dup X127 hx (D at_669) rfl ?_
    refine s_bipush X127 hx (93 : Int32) (D at_670) rfl ?_
    refine s_iload X127 hx (D at_672) rfl ?_
    refine st128 _ ?_
    refine s_dup X128 hx (D at_675) rfl ?_
    refine s_bipush X128 hx (94 : Int32) (D at_676) rfl ?_
    refine s_iload X128 hx (D at_678) rfl ?_
    refine st129 _ ?_
    refine s_dup X129 hx (D at_681) rfl ?_
    refine s_bipush X129 hx (95 : Int32) (D at_682) rfl ?_
    refine s_iload X129 hx (D at_684) rfl ?_
    refine st130 _ ?_
    refine s_dup X130 hx (D at_687) rfl ?_
    refine s_bipush X130 hx (96 : Int32) (D at_688) rfl ?_
    refine s_iload X130 hx (D at_690) rfl ?_
    refine st131 _ ?_
    refine s_dup X131 hx (D at_693) rfl ?_
    refine s_bipush X131 hx (97 : Int32) (D at_694) rfl ?_
    refine s_iload X131 hx (D at_696) rfl ?_
    refine st132 _ ?_
    refine s_dup X132 hx (D at_699) rfl ?_
    refine s_bipush X132 hx (98 : Int32) (D at_700) rfl ?_
    refine s_iload X132 hx (D at_702) rfl ?_
    refine st133 _ ?_
    refine s_dup X133 hx (D at_705) rfl ?_
    refine s_bipush X133 hx (99 : Int32) (D at_706) rfl ?_
    refine s_iload X133 hx (D at_708) rfl ?_
    refine st134 _ ?_
    exact Steps.refl _)
  obtain ⟨T136, h136, X136, e136, Wz136, st136⟩ := own_zst X134 hx hZ e134 V134 (i := 100) (by decide) (by decide) (g := (mkF m 716 #[.val (.int p0), .val (.int p1), .val (.int p2), .val (.int p3), .val (.int p4), .val (.int p5), .val (.int ((p0 &&& (2147483647 : Int32)) % (6 : Int32))), .val (.ref jw_1), .val (.int jd_1), .val (.int (48 : Int32)), .unset, .unset, .unset, .unset, .unset, .unset] [(.int (48 : Int32)), (.int (100 : Int32)), (.ref fa24), (.ref fa24)])) rfl rfl (D at_716)
  obtain ⟨W136, V136⟩ := Wz136
  have N136 := Fr.snoc X136 N134 gn_fa24
  have Zn136 : n0 ≤ h136.size := Nat.le_trans Zn134 (Keep.of_wr W136).1
  have K136 : Keep h0 h136 [] := K134.wr W136 (Or.inr gh_fa24)
  have O136 := O134.wr W136 gn_fa24
  obtain ⟨T137, h137, X137, e137, Wz137, st137⟩ := own_zst X136 hx hZ e136 V136 (i := 101) (by decide) (by decide) (g := (mkF m 722 #[.val (.int p0), .val (.int p1), .val (.int p2), .val (.int p3), .val (.int p4), .val (.int p5), .val (.int ((p0 &&& (2147483647 : Int32)) % (6 : Int32))), .val (.ref jw_1), .val (.int jd_1), .val (.int (48 : Int32)), .unset, .unset, .unset, .unset, .unset, .unset] [(.int (48 : Int32)), (.int (101 : Int32)), (.ref fa24), (.ref fa24)])) rfl rfl (D at_722)
  obtain ⟨W137, V137⟩ := Wz137
  have N137 := Fr.snoc X137 N136 gn_fa24
  have Zn137 : n0 ≤ h137.size := Nat.le_trans Zn136 (Keep.of_wr W137).1
  have K137 : Keep h0 h137 [] := K136.wr W137 (Or.inr gh_fa24)
  have O137 := O136.wr W137 gn_fa24
  obtain ⟨T138, h138, X138, e138, Wz138, st138⟩ := own_zst X137 hx hZ e137 V137 (i := 102) (by decide) (by decide) (g := (mkF m 728 #[.val (.int p0), .val (.int p1), .val (.int p2), .val (.int p3), .val (.int p4), .val (.int p5), .val (.int ((p0 &&& (2147483647 : Int32)) % (6 : Int32))), .val (.ref jw_1), .val (.int jd_1), .val (.int (48 : Int32)), .unset, .unset, .unset, .unset, .unset, .unset] [(.int (48 : Int32)), (.int (102 : Int32)), (.ref fa24), (.ref fa24)])) rfl rfl (D at_728)
  obtain ⟨W138, V138⟩ := Wz138
  have N138 := Fr.snoc X138 N137 gn_fa24
  have Zn138 : n0 ≤ h138.size := Nat.le_trans Zn137 (Keep.of_wr W138).1
  have K138 : Keep h0 h138 [] := K137.wr W138 (Or.inr gh_fa24)
  have O138 := O137.wr W138 gn_fa24
  obtain ⟨T139, h139, X139, e139, Wz139, st139⟩ := own_zst X138 hx hZ e138 V138 (i := 103) (by decide) (by decide) (g := (mkF m 734 #[.val (.int p0), .val (.int p1), .val (.int p2), .val (.int p3), .val (.int p4), .val (.int p5), .val (.int ((p0 &&& (2147483647 : Int32)) % (6 : Int32))), .val (.ref jw_1), .val (.int jd_1), .val (.int (48 : Int32)), .unset, .unset, .unset, .unset, .unset, .unset] [(.int (48 : Int32)), (.int (103 : Int32)), (.ref fa24), (.ref fa24)])) rfl rfl (D at_734)
  obtain ⟨W139, V139⟩ := Wz139
  have N139 := Fr.snoc X139 N138 gn_fa24
  have Zn139 : n0 ≤ h139.size := Nat.le_trans Zn138 (Keep.of_wr W139).1
  have K139 : Keep h0 h139 [] := K138.wr W139 (Or.inr gh_fa24)
  have O139 := O138.wr W139 gn_fa24
  obtain ⟨T140, h140, X140, e140, Wz140, st140⟩ := own_zst X139 hx hZ e139 V139 (i := 104) (by decide) (by decide) (g := (mkF m 740 #[.val (.int p0), .val (.int p1), .val (.int p2), .val (.int p3), .val (.int p4), .val (.int p5), .val (.int ((p0 &&& (2147483647 : Int32)) % (6 : Int32))), .val (.ref jw_1), .val (.int jd_1), .val (.int (48 : Int32)), .unset, .unset, .unset, .unset, .unset, .unset] [(.int (48 : Int32)), (.int (104 : Int32)), (.ref fa24), (.ref fa24)])) rfl rfl (D at_740)
  obtain ⟨W140, V140⟩ := Wz140
  have N140 := Fr.snoc X140 N139 gn_fa24
  have Zn140 : n0 ≤ h140.size := Nat.le_trans Zn139 (Keep.of_wr W140).1
  have K140 : Keep h0 h140 [] := K139.wr W140 (Or.inr gh_fa24)
  have O140 := O139.wr W140 gn_fa24
  obtain ⟨T141, h141, X141, e141, Wz141, st141⟩ := own_zst X140 hx hZ e140 V140 (i := 105) (by decide) (by decide) (g := (mkF m 746 #[.val (.int p0), .val (.int p1), .val (.int p2), .val (.int p3), .val (.int p4), .val (.int p5), .val (.int ((p0 &&& (2147483647 : Int32)) % (6 : Int32))), .val (.ref jw_1), .val (.int jd_1), .val (.int (48 : Int32)), .unset, .unset, .unset, .unset, .unset, .unset] [(.int (48 : Int32)), (.int (105 : Int32)), (.ref fa24), (.ref fa24)])) rfl rfl (D at_746)
  obtain ⟨W141, V141⟩ := Wz141
  have N141 := Fr.snoc X141 N140 gn_fa24
  have Zn141 : n0 ≤ h141.size := Nat.le_trans Zn140 (Keep.of_wr W141).1
  have K141 : Keep h0 h141 [] := K140.wr W141 (Or.inr gh_fa24)
  have O141 := O140.wr W141 gn_fa24
  obtain ⟨T142, h142, X142, e142, Wz142, st142⟩ := own_zst X141 hx hZ e141 V141 (i := 106) (by decide) (by decide) (g := (mkF m 752 #[.val (.int p0), .val (.int p1), .val (.int p2), .val (.int p3), .val (.int p4), .val (.int p5), .val (.int ((p0 &&& (2147483647 : Int32)) % (6 : Int32))), .val (.ref jw_1), .val (.int jd_1), .val (.int (48 : Int32)), .unset, .unset, .unset, .unset, .unset, .unset] [(.int (48 : Int32)), (.int (106 : Int32)), (.ref fa24), (.ref fa24)])) rfl rfl (D at_752)
  obtain ⟨W142, V142⟩ := Wz142
  have N142 := Fr.snoc X142 N141 gn_fa24
  have Zn142 : n0 ≤ h142.size := Nat.le_trans Zn141 (Keep.of_wr W142).1
  have K142 : Keep h0 h142 [] := K141.wr W142 (Or.inr gh_fa24)
  have O142 := O141.wr W142 gn_fa24
  obtain ⟨T143, h143, X143, e143, Wz143, st143⟩ := own_zst X142 hx hZ e142 V142 (i := 107) (by decide) (by decide) (g := (mkF m 758 #[.val (.int p0), .val (.int p1), .val (.int p2), .val (.int p3), .val (.int p4), .val (.int p5), .val (.int ((p0 &&& (2147483647 : Int32)) % (6 : Int32))), .val (.ref jw_1), .val (.int jd_1), .val (.int (48 : Int32)), .unset, .unset, .unset, .unset, .unset, .unset] [(.int (48 : Int32)), (.int (107 : Int32)), (.ref fa24), (.ref fa24)])) rfl rfl (D at_758)
  obtain ⟨W143, V143⟩ := Wz143
  have N143 := Fr.snoc X143 N142 gn_fa24
  have Zn143 : n0 ≤ h143.size := Nat.le_trans Zn142 (Keep.of_wr W143).1
  have K143 : Keep h0 h143 [] := K142.wr W143 (Or.inr gh_fa24)
  have O143 := O142.wr W143 gn_fa24
  obtain ⟨T144, h144, X144, e144, Wz144, st144⟩ := own_zst X143 hx hZ e143 V143 (i := 108) (by decide) (by decide) (g := (mkF m 764 #[.val (.int p0), .val (.int p1), .val (.int p2), .val (.int p3), .val (.int p4), .val (.int p5), .val (.int ((p0 &&& (2147483647 : Int32)) % (6 : Int32))), .val (.ref jw_1), .val (.int jd_1), .val (.int (48 : Int32)), .unset, .unset, .unset, .unset, .unset, .unset] [(.int (48 : Int32)), (.int (108 : Int32)), (.ref fa24), (.ref fa24)])) rfl rfl (D at_764)
  obtain ⟨W144, V144⟩ := Wz144
  have N144 := Fr.snoc X144 N143 gn_fa24
  have Zn144 : n0 ≤ h144.size := Nat.le_trans Zn143 (Keep.of_wr W144).1
  have K144 : Keep h0 h144 [] := K143.wr W144 (Or.inr gh_fa24)
  have O144 := O143.wr W144 gn_fa24
  obtain ⟨T145, h145, X145, e145, Wz145, st145⟩ := own_zst X144 hx hZ e144 V144 (i := 109) (by decide) (by decide) (g := (mkF m 770 #[.val (.int p0), .val (.int p1), .val (.int p2), .val (.int p3), .val (.int p4), .val (.int p5), .val (.int ((p0 &&& (2147483647 : Int32)) % (6 : Int32))), .val (.ref jw_1), .val (.int jd_1), .val (.int (48 : Int32)), .unset, .unset, .unset, .unset, .unset, .unset] [(.int (48 : Int32)), (.int (109 : Int32)), (.ref fa24), (.ref fa24)])) rfl rfl (D at_770)
  obtain ⟨W145, V145⟩ := Wz145
  have N145 := Fr.snoc X145 N144 gn_fa24
  have Zn145 : n0 ≤ h145.size := Nat.le_trans Zn144 (Keep.of_wr W145).1
  have K145 : Keep h0 h145 [] := K144.wr W145 (Or.inr gh_fa24)
  have O145 := O144.wr W145 gn_fa24
  have cs146 : Steps p.tables e below (s₁.setTop (mkF m 0 #[.val (.int p0), .val (.int p1), .val (.int p2), .val (.int p3), .val (.int p4), .val (.int p5), .unset, .unset, .unset, .unset, .unset, .unset, .unset, .unset, .unset, .unset] [])) (T145.setTop (mkF m 771 #[.val (.int p0), .val (.int p1), .val (.int p2), .val (.int p3), .val (.int p4), .val (.int p5), .val (.int ((p0 &&& (2147483647 : Int32)) % (6 : Int32))), .val (.ref jw_1), .val (.int jd_1), .val (.int (48 : Int32)), .unset, .unset, .unset, .unset, .unset, .unset] [(.ref fa24)])) := cs135.trans (by
    refine s_dup X134 hx (D at_711) rfl ?_
    refine s_bipush X134 hx (100 : Int32) (D at_712) rfl ?_
    refine s_iload X134 hx (D at_714) rfl ?_
    refine st136 _ ?_
    refine s_dup X136 hx (D at_717) rfl ?_
    refine s_bipush X136 hx (101 : Int32) (D at_718) rfl ?_
    refine s_iload X136 hx (D at_720) rfl ?_
    refine st137 _ ?_
    refine s_dup X137 hx (D at_723) rfl ?_
    refine s_bipush X137 hx (102 : Int32) (D at_724) rfl ?_
    refine s_iload X137 hx (D at_726) rfl ?_
    refine st138 _ ?_
    refine s_dup X138 hx (D at_729) rfl ?_
    refine s_bipush X138 hx (103 : Int32) (D at_730) rfl ?_
    refine s_iload X138 hx (D at_732) rfl ?_
    refine st139 _ ?_
    refine s_dup X139 hx (D at_735) rfl ?_
    refine s_bipush X139 hx (104 : Int32) (D at_736) rfl ?_
    refine s_iload X139 hx (D at_738) rfl ?_
    refine st140 _ ?_
    refine s_dup X140 hx (D at_741) rfl ?_
    refine s_bipush X140 hx (105 : Int32) (D at_742) rfl ?_
    refine s_iload X140 hx (D at_744) rfl ?_
    refine st141 _ ?_
    refine s_dup X141 hx (D at_747) rfl ?_
    refine s_bipush X141 hx (106 : Int32) (D at_748) rfl ?_
    refine s_iload X141 hx (D at_750) rfl ?_
    refine st142 _ ?_
    refine s_dup X142 hx (D at_753) rfl ?_
    refine s_bipush X142 hx (107 : Int32) (D at_754) rfl ?_
    refine s_iload X142 hx (D at_756) rfl ?_
    refine st143 _ ?_
    refine s_dup X143 hx (D at_759) rfl ?_
    refine s_bipush X143 hx (108 : Int32) (D at_760) rfl ?_
    refine s_iload X143 hx (D at_762) rfl ?_
    refine st144 _ ?_
    refine s_dup X144 hx (D at_765) rfl ?_
    refine s_bipush X144 hx (109 : Int32) (D at_766) rfl ?_
    refine s_iload X144 hx (D at_768) rfl ?_
    refine st145 _ ?_
    exact Steps.refl _)
  obtain ⟨T147, h147, X147, e147, Wz147, st147⟩ := own_zst X145 hx hZ e145 V145 (i := 110) (by decide) (by decide) (g := (mkF m 776 #[.val (.int p0), .val (.int p1), .val (.int p2), .val (.int p3), .val (.int p4), .val (.int p5), .val (.int ((p0 &&& (2147483647 : Int32)) % (6 : Int32))), .val (.ref jw_1), .val (.int jd_1), .val (.int (48 : Int32)), .unset, .unset, .unset, .unset, .unset, .unset] [(.int (48 : Int32)), (.int (110 : Int32)), (.ref fa24), (.ref fa24)])) rfl rfl (D at_776)
  obtain ⟨W147, V147⟩ := Wz147
  have N147 := Fr.snoc X147 N145 gn_fa24
  have Zn147 : n0 ≤ h147.size := Nat.le_trans Zn145 (Keep.of_wr W147).1
  have K147 : Keep h0 h147 [] := K145.wr W147 (Or.inr gh_fa24)
  have O147 := O145.wr W147 gn_fa24
  obtain ⟨T148, h148, X148, e148, Wz148, st148⟩ := own_zst X147 hx hZ e147 V147 (i := 111) (by decide) (by decide) (g := (mkF m 782 #[.val (.int p0), .val (.int p1), .val (.int p2), .val (.int p3), .val (.int p4), .val (.int p5), .val (.int ((p0 &&& (2147483647 : Int32)) % (6 : Int32))), .val (.ref jw_1), .val (.int jd_1), .val (.int (48 : Int32)), .unset, .unset, .unset, .unset, .unset, .unset] [(.int (48 : Int32)), (.int (111 : Int32)), (.ref fa24), (.ref fa24)])) rfl rfl (D at_782)
  obtain ⟨W148, V148⟩ := Wz148
  have N148 := Fr.snoc X148 N147 gn_fa24
  have Zn148 : n0 ≤ h148.size := Nat.le_trans Zn147 (Keep.of_wr W148).1
  have K148 : Keep h0 h148 [] := K147.wr W148 (Or.inr gh_fa24)
  have O148 := O147.wr W148 gn_fa24
  obtain ⟨T149, h149, X149, e149, Wz149, st149⟩ := own_zst X148 hx hZ e148 V148 (i := 112) (by decide) (by decide) (g := (mkF m 788 #[.val (.int p0), .val (.int p1), .val (.int p2), .val (.int p3), .val (.int p4), .val (.int p5), .val (.int ((p0 &&& (2147483647 : Int32)) % (6 : Int32))), .val (.ref jw_1), .val (.int jd_1), .val (.int (48 : Int32)), .unset, .unset, .unset, .unset, .unset, .unset] [(.int (48 : Int32)), (.int (112 : Int32)), (.ref fa24), (.ref fa24)])) rfl rfl (D at_788)
  obtain ⟨W149, V149⟩ := Wz149
  have N149 := Fr.snoc X149 N148 gn_fa24
  have Zn149 : n0 ≤ h149.size := Nat.le_trans Zn148 (Keep.of_wr W149).1
  have K149 : Keep h0 h149 [] := K148.wr W149 (Or.inr gh_fa24)
  have O149 := O148.wr W149 gn_fa24
  obtain ⟨T150, h150, X150, e150, Wz150, st150⟩ := own_zst X149 hx hZ e149 V149 (i := 113) (by decide) (by decide) (g := (mkF m 794 #[.val (.int p0), .val (.int p1), .val (.int p2), .val (.int p3), .val (.int p4), .val (.int p5), .val (.int ((p0 &&& (2147483647 : Int32)) % (6 : Int32))), .val (.ref jw_1), .val (.int jd_1), .val (.int (48 : Int32)), .unset, .unset, .unset, .unset, .unset, .unset] [(.int (48 : Int32)), (.int (113 : Int32)), (.ref fa24), (.ref fa24)])) rfl rfl (D at_794)
  obtain ⟨W150, V150⟩ := Wz150
  have N150 := Fr.snoc X150 N149 gn_fa24
  have Zn150 : n0 ≤ h150.size := Nat.le_trans Zn149 (Keep.of_wr W150).1
  have K150 : Keep h0 h150 [] := K149.wr W150 (Or.inr gh_fa24)
  have O150 := O149.wr W150 gn_fa24
  obtain ⟨T151, h151, X151, e151, Wz151, st151⟩ := own_zst X150 hx hZ e150 V150 (i := 114) (by decide) (by decide) (g := (mkF m 800 #[.val (.int p0), .val (.int p1), .val (.int p2), .val (.int p3), .val (.int p4), .val (.int p5), .val (.int ((p0 &&& (2147483647 : Int32)) % (6 : Int32))), .val (.ref jw_1), .val (.int jd_1), .val (.int (48 : Int32)), .unset, .unset, .unset, .unset, .unset, .unset] [(.int (48 : Int32)), (.int (114 : Int32)), (.ref fa24), (.ref fa24)])) rfl rfl (D at_800)
  obtain ⟨W151, V151⟩ := Wz151
  have N151 := Fr.snoc X151 N150 gn_fa24
  have Zn151 : n0 ≤ h151.size := Nat.le_trans Zn150 (Keep.of_wr W151).1
  have K151 : Keep h0 h151 [] := K150.wr W151 (Or.inr gh_fa24)
  have O151 := O150.wr W151 gn_fa24
  obtain ⟨T152, h152, X152, e152, Wz152, st152⟩ := own_zst X151 hx hZ e151 V151 (i := 115) (by decide) (by decide) (g := (mkF m 806 #[.val (.int p0), .val (.int p1), .val (.int p2), .val (.int p3), .val (.int p4), .val (.int p5), .val (.int ((p0 &&& (2147483647 : Int32)) % (6 : Int32))), .val (.ref jw_1), .val (.int jd_1), .val (.int (48 : Int32)), .unset, .unset, .unset, .unset, .unset, .unset] [(.int (48 : Int32)), (.int (115 : Int32)), (.ref fa24), (.ref fa24)])) rfl rfl (D at_806)
  obtain ⟨W152, V152⟩ := Wz152
  have N152 := Fr.snoc X152 N151 gn_fa24
  have Zn152 : n0 ≤ h152.size := Nat.le_trans Zn151 (Keep.of_wr W152).1
  have K152 : Keep h0 h152 [] := K151.wr W152 (Or.inr gh_fa24)
  have O152 := O151.wr W152 gn_fa24
  obtain ⟨T153, h153, X153, e153, Wz153, st153⟩ := own_zst X152 hx hZ e152 V152 (i := 116) (by decide) (by decide) (g := (mkF m 812 #[.val (.int p0), .val (.int p1), .val (.int p2), .val (.int p3), .val (.int p4), .val (.int p5), .val (.int ((p0 &&& (2147483647 : Int32)) % (6 : Int32))), .val (.ref jw_1), .val (.int jd_1), .val (.int (48 : Int32)), .unset, .unset, .unset, .unset, .unset, .unset] [(.int (48 : Int32)), (.int (116 : Int32)), (.ref fa24), (.ref fa24)])) rfl rfl (D at_812)
  obtain ⟨W153, V153⟩ := Wz153
  have N153 := Fr.snoc X153 N152 gn_fa24
  have Zn153 : n0 ≤ h153.size := Nat.le_trans Zn152 (Keep.of_wr W153).1
  have K153 : Keep h0 h153 [] := K152.wr W153 (Or.inr gh_fa24)
  have O153 := O152.wr W153 gn_fa24
  obtain ⟨T154, h154, X154, e154, Wz154, st154⟩ := own_zst X153 hx hZ e153 V153 (i := 117) (by decide) (by decide) (g := (mkF m 818 #[.val (.int p0), .val (.int p1), .val (.int p2), .val (.int p3), .val (.int p4), .val (.int p5), .val (.int ((p0 &&& (2147483647 : Int32)) % (6 : Int32))), .val (.ref jw_1), .val (.int jd_1), .val (.int (48 : Int32)), .unset, .unset, .unset, .unset, .unset, .unset] [(.int (48 : Int32)), (.int (117 : Int32)), (.ref fa24), (.ref fa24)])) rfl rfl (D at_818)
  obtain ⟨W154, V154⟩ := Wz154
  have N154 := Fr.snoc X154 N153 gn_fa24
  have Zn154 : n0 ≤ h154.size := Nat.le_trans Zn153 (Keep.of_wr W154).1
  have K154 : Keep h0 h154 [] := K153.wr W154 (Or.inr gh_fa24)
  have O154 := O153.wr W154 gn_fa24
  obtain ⟨T155, h155, X155, e155, Wz155, st155⟩ := own_zst X154 hx hZ e154 V154 (i := 118) (by decide) (by decide) (g := (mkF m 824 #[.val (.int p0), .val (.int p1), .val (.int p2), .val (.int p3), .val (.int p4), .val (.int p5), .val (.int ((p0 &&& (2147483647 : Int32)) % (6 : Int32))), .val (.ref jw_1), .val (.int jd_1), .val (.int (48 : Int32)), .unset, .unset, .unset, .unset, .unset, .unset] [(.int (48 : Int32)), (.int (118 : Int32)), (.ref fa24), (.ref fa24)])) rfl rfl (D at_824)
  obtain ⟨W155, V155⟩ := Wz155
  have N155 := Fr.snoc X155 N154 gn_fa24
  have Zn155 : n0 ≤ h155.size := Nat.le_trans Zn154 (Keep.of_wr W155).1
  have K155 : Keep h0 h155 [] := K154.wr W155 (Or.inr gh_fa24)
  have O155 := O154.wr W155 gn_fa24
  obtain ⟨T156, h156, X156, e156, Wz156, st156⟩ := own_zst X155 hx hZ e155 V155 (i := 119) (by decide) (by decide) (g := (mkF m 830 #[.val (.int p0), .val (.int p1), .val (.int p2), .val (.int p3), .val (.int p4), .val (.int p5), .val (.int ((p0 &&& (2147483647 : Int32)) % (6 : Int32))), .val (.ref jw_1), .val (.int jd_1), .val (.int (48 : Int32)), .unset, .unset, .unset, .unset, .unset, .unset] [(.int (48 : Int32)), (.int (119 : Int32)), (.ref fa24), (.ref fa24)])) rfl rfl (D at_830)
  obtain ⟨W156, V156⟩ := Wz156
  have N156 := Fr.snoc X156 N155 gn_fa24
  have Zn156 : n0 ≤ h156.size := Nat.le_trans Zn155 (Keep.of_wr W156).1
  have K156 : Keep h0 h156 [] := K155.wr W156 (Or.inr gh_fa24)
  have O156 := O155.wr W156 gn_fa24
  have cs157 : Steps p.tables e below (s₁.setTop (mkF m 0 #[.val (.int p0), .val (.int p1), .val (.int p2), .val (.int p3), .val (.int p4), .val (.int p5), .unset, .unset, .unset, .unset, .unset, .unset, .unset, .unset, .unset, .unset] [])) (T156.setTop (mkF m 831 #[.val (.int p0), .val (.int p1), .val (.int p2), .val (.int p3), .val (.int p4), .val (.int p5), .val (.int ((p0 &&& (2147483647 : Int32)) % (6 : Int32))), .val (.ref jw_1), .val (.int jd_1), .val (.int (48 : Int32)), .unset, .unset, .unset, .unset, .unset, .unset] [(.ref fa24)])) := cs146.trans (by
    refine s_dup X145 hx (D at_771) rfl ?_
    refine s_bipush X145 hx (110 : Int32) (D at_772) rfl ?_
    refine s_iload X145 hx (D at_774) rfl ?_
    refine st147 _ ?_
    refine s_dup X147 hx (D at_777) rfl ?_
    refine s_bipush X147 hx (111 : Int32) (D at_778) rfl ?_
    refine s_iload X147 hx (D at_780) rfl ?_
    refine st148 _ ?_
    refine s_dup X148 hx (D at_783) rfl ?_
    refine s_bipush X148 hx (112 : Int32) (D at_784) rfl ?_
    refine s_iload X148 hx (D at_786) rfl ?_
    refine st149 _ ?_
    refine s_dup X149 hx (D at_789) rfl ?_
    refine s_bipush X149 hx (113 : Int32) (D at_790) rfl ?_
    refine s_iload X149 hx (D at_792) rfl ?_
    refine st150 _ ?_
    refine s_dup X150 hx (D at_795) rfl ?_
    refine s_bipush X150 hx (114 : Int32) (D at_796) rfl ?_
    refine s_iload X150 hx (D at_798) rfl ?_
    refine st151 _ ?_
    refine s_dup X151 hx (D at_801) rfl ?_
    refine s_bipush X151 hx (115 : Int32) (D at_802) rfl ?_
    refine s_iload X151 hx (D at_804) rfl ?_
    refine st152 _ ?_
    refine s_dup X152 hx (D at_807) rfl ?_
    refine s_bipush X152 hx (116 : Int32) (D at_808) rfl ?_
    refine s_iload X152 hx (D at_810) rfl ?_
    refine st153 _ ?_
    refine s_dup X153 hx (D at_813) rfl ?_
    refine s_bipush X153 hx (117 : Int32) (D at_814) rfl ?_
    refine s_iload X153 hx (D at_816) rfl ?_
    refine st154 _ ?_
    refine s_dup X154 hx (D at_819) rfl ?_
    refine s_bipush X154 hx (118 : Int32) (D at_820) rfl ?_
    refine s_iload X154 hx (D at_822) rfl ?_
    refine st155 _ ?_
    refine s_dup X155 hx (D at_825) rfl ?_
    refine s_bipush X155 hx (119 : Int32) (D at_826) rfl ?_
    refine s_iload X155 hx (D at_828) rfl ?_
    refine st156 _ ?_
    exact Steps.refl _)
  obtain ⟨T158, h158, X158, e158, Wz158, st158⟩ := own_zst X156 hx hZ e156 V156 (i := 120) (by decide) (by decide) (g := (mkF m 836 #[.val (.int p0), .val (.int p1), .val (.int p2), .val (.int p3), .val (.int p4), .val (.int p5), .val (.int ((p0 &&& (2147483647 : Int32)) % (6 : Int32))), .val (.ref jw_1), .val (.int jd_1), .val (.int (48 : Int32)), .unset, .unset, .unset, .unset, .unset, .unset] [(.int (48 : Int32)), (.int (120 : Int32)), (.ref fa24), (.ref fa24)])) rfl rfl (D at_836)
  obtain ⟨W158, V158⟩ := Wz158
  have N158 := Fr.snoc X158 N156 gn_fa24
  have Zn158 : n0 ≤ h158.size := Nat.le_trans Zn156 (Keep.of_wr W158).1
  have K158 : Keep h0 h158 [] := K156.wr W158 (Or.inr gh_fa24)
  have O158 := O156.wr W158 gn_fa24
  obtain ⟨T159, h159, X159, e159, Wz159, st159⟩ := own_zst X158 hx hZ e158 V158 (i := 121) (by decide) (by decide) (g := (mkF m 842 #[.val (.int p0), .val (.int p1), .val (.int p2), .val (.int p3), .val (.int p4), .val (.int p5), .val (.int ((p0 &&& (2147483647 : Int32)) % (6 : Int32))), .val (.ref jw_1), .val (.int jd_1), .val (.int (48 : Int32)), .unset, .unset, .unset, .unset, .unset, .unset] [(.int (48 : Int32)), (.int (121 : Int32)), (.ref fa24), (.ref fa24)])) rfl rfl (D at_842)
  obtain ⟨W159, V159⟩ := Wz159
  have N159 := Fr.snoc X159 N158 gn_fa24
  have Zn159 : n0 ≤ h159.size := Nat.le_trans Zn158 (Keep.of_wr W159).1
  have K159 : Keep h0 h159 [] := K158.wr W159 (Or.inr gh_fa24)
  have O159 := O158.wr W159 gn_fa24
  obtain ⟨T160, h160, X160, e160, Wz160, st160⟩ := own_zst X159 hx hZ e159 V159 (i := 122) (by decide) (by decide) (g := (mkF m 848 #[.val (.int p0), .val (.int p1), .val (.int p2), .val (.int p3), .val (.int p4), .val (.int p5), .val (.int ((p0 &&& (2147483647 : Int32)) % (6 : Int32))), .val (.ref jw_1), .val (.int jd_1), .val (.int (48 : Int32)), .unset, .unset, .unset, .unset, .unset, .unset] [(.int (48 : Int32)), (.int (122 : Int32)), (.ref fa24), (.ref fa24)])) rfl rfl (D at_848)
  obtain ⟨W160, V160⟩ := Wz160
  have N160 := Fr.snoc X160 N159 gn_fa24
  have Zn160 : n0 ≤ h160.size := Nat.le_trans Zn159 (Keep.of_wr W160).1
  have K160 : Keep h0 h160 [] := K159.wr W160 (Or.inr gh_fa24)
  have O160 := O159.wr W160 gn_fa24
  obtain ⟨T161, h161, X161, e161, Wz161, st161⟩ := own_zst X160 hx hZ e160 V160 (i := 123) (by decide) (by decide) (g := (mkF m 854 #[.val (.int p0), .val (.int p1), .val (.int p2), .val (.int p3), .val (.int p4), .val (.int p5), .val (.int ((p0 &&& (2147483647 : Int32)) % (6 : Int32))), .val (.ref jw_1), .val (.int jd_1), .val (.int (48 : Int32)), .unset, .unset, .unset, .unset, .unset, .unset] [(.int (48 : Int32)), (.int (123 : Int32)), (.ref fa24), (.ref fa24)])) rfl rfl (D at_854)
  obtain ⟨W161, V161⟩ := Wz161
  have N161 := Fr.snoc X161 N160 gn_fa24
  have Zn161 : n0 ≤ h161.size := Nat.le_trans Zn160 (Keep.of_wr W161).1
  have K161 : Keep h0 h161 [] := K160.wr W161 (Or.inr gh_fa24)
  have O161 := O160.wr W161 gn_fa24
  obtain ⟨T162, h162, X162, e162, Wz162, st162⟩ := own_zst X161 hx hZ e161 V161 (i := 124) (by decide) (by decide) (g := (mkF m 860 #[.val (.int p0), .val (.int p1), .val (.int p2), .val (.int p3), .val (.int p4), .val (.int p5), .val (.int ((p0 &&& (2147483647 : Int32)) % (6 : Int32))), .val (.ref jw_1), .val (.int jd_1), .val (.int (48 : Int32)), .unset, .unset, .unset, .unset, .unset, .unset] [(.int (48 : Int32)), (.int (124 : Int32)), (.ref fa24), (.ref fa24)])) rfl rfl (D at_860)
  obtain ⟨W162, V162⟩ := Wz162
  have N162 := Fr.snoc X162 N161 gn_fa24
  have Zn162 : n0 ≤ h162.size := Nat.le_trans Zn161 (Keep.of_wr W162).1
  have K162 : Keep h0 h162 [] := K161.wr W162 (Or.inr gh_fa24)
  have O162 := O161.wr W162 gn_fa24
  obtain ⟨T163, h163, X163, e163, Wz163, st163⟩ := own_zst X162 hx hZ e162 V162 (i := 125) (by decide) (by decide) (g := (mkF m 866 #[.val (.int p0), .val (.int p1), .val (.int p2), .val (.int p3), .val (.int p4), .val (.int p5), .val (.int ((p0 &&& (2147483647 : Int32)) % (6 : Int32))), .val (.ref jw_1), .val (.int jd_1), .val (.int (48 : Int32)), .unset, .unset, .unset, .unset, .unset, .unset] [(.int (48 : Int32)), (.int (125 : Int32)), (.ref fa24), (.ref fa24)])) rfl rfl (D at_866)
  obtain ⟨W163, V163⟩ := Wz163
  have N163 := Fr.snoc X163 N162 gn_fa24
  have Zn163 : n0 ≤ h163.size := Nat.le_trans Zn162 (Keep.of_wr W163).1
  have K163 : Keep h0 h163 [] := K162.wr W163 (Or.inr gh_fa24)
  have O163 := O162.wr W163 gn_fa24
  obtain ⟨T164, h164, X164, e164, Wz164, st164⟩ := own_zst X163 hx hZ e163 V163 (i := 126) (by decide) (by decide) (g := (mkF m 872 #[.val (.int p0), .val (.int p1), .val (.int p2), .val (.int p3), .val (.int p4), .val (.int p5), .val (.int ((p0 &&& (2147483647 : Int32)) % (6 : Int32))), .val (.ref jw_1), .val (.int jd_1), .val (.int (48 : Int32)), .unset, .unset, .unset, .unset, .unset, .unset] [(.int (48 : Int32)), (.int (126 : Int32)), (.ref fa24), (.ref fa24)])) rfl rfl (D at_872)
  obtain ⟨W164, V164⟩ := Wz164
  have N164 := Fr.snoc X164 N163 gn_fa24
  have Zn164 : n0 ≤ h164.size := Nat.le_trans Zn163 (Keep.of_wr W164).1
  have K164 : Keep h0 h164 [] := K163.wr W164 (Or.inr gh_fa24)
  have O164 := O163.wr W164 gn_fa24
  obtain ⟨T165, h165, X165, e165, Wz165, st165⟩ := own_zst X164 hx hZ e164 V164 (i := 127) (by decide) (by decide) (g := (mkF m 878 #[.val (.int p0), .val (.int p1), .val (.int p2), .val (.int p3), .val (.int p4), .val (.int p5), .val (.int ((p0 &&& (2147483647 : Int32)) % (6 : Int32))), .val (.ref jw_1), .val (.int jd_1), .val (.int (48 : Int32)), .unset, .unset, .unset, .unset, .unset, .unset] [(.int (48 : Int32)), (.int (127 : Int32)), (.ref fa24), (.ref fa24)])) rfl rfl (D at_878)
  obtain ⟨W165, V165⟩ := Wz165
  have N165 := Fr.snoc X165 N164 gn_fa24
  have Zn165 : n0 ≤ h165.size := Nat.le_trans Zn164 (Keep.of_wr W165).1
  have K165 : Keep h0 h165 [] := K164.wr W165 (Or.inr gh_fa24)
  have O165 := O164.wr W165 gn_fa24
  obtain ⟨T166, h166, X166, e166, Wz166, st166⟩ := own_zst X165 hx hZ e165 V165 (i := 128) (by decide) (by decide) (g := (mkF m 885 #[.val (.int p0), .val (.int p1), .val (.int p2), .val (.int p3), .val (.int p4), .val (.int p5), .val (.int ((p0 &&& (2147483647 : Int32)) % (6 : Int32))), .val (.ref jw_1), .val (.int jd_1), .val (.int (48 : Int32)), .unset, .unset, .unset, .unset, .unset, .unset] [(.int (48 : Int32)), (.int (128 : Int32)), (.ref fa24), (.ref fa24)])) rfl rfl (D at_885)
  obtain ⟨W166, V166⟩ := Wz166
  have N166 := Fr.snoc X166 N165 gn_fa24
  have Zn166 : n0 ≤ h166.size := Nat.le_trans Zn165 (Keep.of_wr W166).1
  have K166 : Keep h0 h166 [] := K165.wr W166 (Or.inr gh_fa24)
  have O166 := O165.wr W166 gn_fa24
  obtain ⟨T167, h167, X167, e167, Wz167, st167⟩ := own_zst X166 hx hZ e166 V166 (i := 129) (by decide) (by decide) (g := (mkF m 892 #[.val (.int p0), .val (.int p1), .val (.int p2), .val (.int p3), .val (.int p4), .val (.int p5), .val (.int ((p0 &&& (2147483647 : Int32)) % (6 : Int32))), .val (.ref jw_1), .val (.int jd_1), .val (.int (48 : Int32)), .unset, .unset, .unset, .unset, .unset, .unset] [(.int (48 : Int32)), (.int (129 : Int32)), (.ref fa24), (.ref fa24)])) rfl rfl (D at_892)
  obtain ⟨W167, V167⟩ := Wz167
  have N167 := Fr.snoc X167 N166 gn_fa24
  have Zn167 : n0 ≤ h167.size := Nat.le_trans Zn166 (Keep.of_wr W167).1
  have K167 : Keep h0 h167 [] := K166.wr W167 (Or.inr gh_fa24)
  have O167 := O166.wr W167 gn_fa24
  have cs168 : Steps p.tables e below (s₁.setTop (mkF m 0 #[.val (.int p0), .val (.int p1), .val (.int p2), .val (.int p3), .val (.int p4), .val (.int p5), .unset, .unset, .unset, .unset, .unset, .unset, .unset, .unset, .unset, .unset] [])) (T167.setTop (mkF m 893 #[.val (.int p0), .val (.int p1), .val (.int p2), .val (.int p3), .val (.int p4), .val (.int p5), .val (.int ((p0 &&& (2147483647 : Int32)) % (6 : Int32))), .val (.ref jw_1), .val (.int jd_1), .val (.int (48 : Int32)), .unset, .unset, .unset, .unset, .unset, .unset] [(.ref fa24)])) := cs157.trans (by
    refine s_dup X156 hx (D at_831) rfl ?_
    refine s_bipush X156 hx (120 : Int32) (D at_832) rfl ?_
    refine s_iload X156 hx (D at_834) rfl ?_
    refine st158 _ ?_
    refine s_dup X158 hx (D at_837) rfl ?_
    refine s_bipush X158 hx (121 : Int32) (D at_838) rfl ?_
    refine s_iload X158 hx (D at_840) rfl ?_
    refine st159 _ ?_
    refine s_dup X159 hx (D at_843) rfl ?_
    refine s_bipush X159 hx (122 : Int32) (D at_844) rfl ?_
    refine s_iload X159 hx (D at_846) rfl ?_
    refine st160 _ ?_
    refine s_dup X160 hx (D at_849) rfl ?_
    refine s_bipush X160 hx (123 : Int32) (D at_850) rfl ?_
    refine s_iload X160 hx (D at_852) rfl ?_
    refine st161 _ ?_
    refine s_dup X161 hx (D at_855) rfl ?_
    refine s_bipush X161 hx (124 : Int32) (D at_856) rfl ?_
    refine s_iload X161 hx (D at_858) rfl ?_
    refine st162 _ ?_
    refine s_dup X162 hx (D at_861) rfl ?_
    refine s_bipush X162 hx (125 : Int32) (D at_862) rfl ?_
    refine s_iload X162 hx (D at_864) rfl ?_
    refine st163 _ ?_
    refine s_dup X163 hx (D at_867) rfl ?_
    refine s_bipush X163 hx (126 : Int32) (D at_868) rfl ?_
    refine s_iload X163 hx (D at_870) rfl ?_
    refine st164 _ ?_
    refine s_dup X164 hx (D at_873) rfl ?_
    refine s_bipush X164 hx (127 : Int32) (D at_874) rfl ?_
    refine s_iload X164 hx (D at_876) rfl ?_
    refine st165 _ ?_
    refine s_dup X165 hx (D at_879) rfl ?_
    refine s_sipush X165 hx (128 : Int32) (D at_880) rfl ?_
    refine s_iload X165 hx (D at_883) rfl ?_
    refine st166 _ ?_
    refine s_dup X166 hx (D at_886) rfl ?_
    refine s_sipush X166 hx (129 : Int32) (D at_887) rfl ?_
    refine s_iload X166 hx (D at_890) rfl ?_
    refine st167 _ ?_
    exact Steps.refl _)
  have cs170 : Steps p.tables e below (s₁.setTop (mkF m 0 #[.val (.int p0), .val (.int p1), .val (.int p2), .val (.int p3), .val (.int p4), .val (.int p5), .unset, .unset, .unset, .unset, .unset, .unset, .unset, .unset, .unset, .unset] [])) (T167.setTop (mkF m 902 #[.val (.int p0), .val (.int p1), .val (.int p2), .val (.int p3), .val (.int p4), .val (.int p5), .val (.int ((p0 &&& (2147483647 : Int32)) % (6 : Int32))), .val (.ref jw_1), .val (.int jd_1), .val (.int (48 : Int32)), .val (.ref fa24), .val (.int (p1 &&& (3 : Int32))), .unset, .unset, .unset, .unset] [(.int (p1 &&& (3 : Int32)))])) := cs168.trans (by
    refine s_astore X167 hx (D at_893) rfl (l' := #[.val (.int p0), .val (.int p1), .val (.int p2), .val (.int p3), .val (.int p4), .val (.int p5), .val (.int ((p0 &&& (2147483647 : Int32)) % (6 : Int32))), .val (.ref jw_1), .val (.int jd_1), .val (.int (48 : Int32)), .val (.ref fa24), .unset, .unset, .unset, .unset, .unset]) rfl ?_
    refine s_iloadN X167 hx (D at_895) rfl ?_
    refine s_iconst X167 hx (3 : Int32) (D at_896) rfl ?_
    refine s_iand X167 hx (D at_897) rfl ?_
    refine s_istore X167 hx (D at_898) (l' := #[.val (.int p0), .val (.int p1), .val (.int p2), .val (.int p3), .val (.int p4), .val (.int p5), .val (.int ((p0 &&& (2147483647 : Int32)) % (6 : Int32))), .val (.ref jw_1), .val (.int jd_1), .val (.int (48 : Int32)), .val (.ref fa24), .val (.int (p1 &&& (3 : Int32))), .unset, .unset, .unset, .unset]) rfl ?_
    refine s_iload X167 hx (D at_900) rfl ?_
    exact Steps.refl _)
  have jn169 : ∃ (jl_169 : Int32) (T : State) (L : List Loc) (h : Heap), Stand p l e room_1 s m #[(.int p0), (.int p1), (.int p2), (.int p3), (.int p4), (.int p5)] below meth c T L 1 130 ∧ T.heap = h ∧ Fr n0 L ∧ Keep h0 h [] ∧ Old Z n0 h ∧ Exa Z h jw_1 "com/example/packstone/packstone/model/ChecksumAlgorithm" ∧ Fld Z h jw_1 "com/example/packstone/packstone/model/ChecksumAlgorithm" "hexDigits" "I" (.int jd_1) ∧ ArfC Z h fa24 fk24 (130 : Int32) (ZF 130) ∧ LB jl_169 ∧ Steps p.tables e below (s₁.setTop (mkF m 0 #[.val (.int p0), .val (.int p1), .val (.int p2), .val (.int p3), .val (.int p4), .val (.int p5), .unset, .unset, .unset, .unset, .unset, .unset, .unset, .unset, .unset, .unset] [])) (T.setTop (mkF m 951 #[.val (.int p0), .val (.int p1), .val (.int p2), .val (.int p3), .val (.int p4), .val (.int p5), .val (.int ((p0 &&& (2147483647 : Int32)) % (6 : Int32))), .val (.ref jw_1), .val (.int jd_1), .val (.int (48 : Int32)), .val (.ref fa24), .val (.int (p1 &&& (3 : Int32))), .val (.int jl_169), .unset, .unset, .unset] [])) := by
    by_cases hc171 : (p1 &&& (3 : Int32)) = (0 : Int32)
    · have cs172 : Steps p.tables e below (s₁.setTop (mkF m 0 #[.val (.int p0), .val (.int p1), .val (.int p2), .val (.int p3), .val (.int p4), .val (.int p5), .unset, .unset, .unset, .unset, .unset, .unset, .unset, .unset, .unset, .unset] [])) (T167.setTop (mkF m 951 #[.val (.int p0), .val (.int p1), .val (.int p2), .val (.int p3), .val (.int p4), .val (.int p5), .val (.int ((p0 &&& (2147483647 : Int32)) % (6 : Int32))), .val (.ref jw_1), .val (.int jd_1), .val (.int (48 : Int32)), .val (.ref fa24), .val (.int (p1 &&& (3 : Int32))), .val (.int jd_1), .unset, .unset, .unset] [])) := cs170.trans (by
        refine s_ifNo X167 hx (D at_902) ((if0 _ _).trans (teq hc171).2) ?_
        refine s_iload X167 hx (D at_905) rfl ?_
        refine s_istore X167 hx (D at_907) (l' := #[.val (.int p0), .val (.int p1), .val (.int p2), .val (.int p3), .val (.int p4), .val (.int p5), .val (.int ((p0 &&& (2147483647 : Int32)) % (6 : Int32))), .val (.ref jw_1), .val (.int jd_1), .val (.int (48 : Int32)), .val (.ref fa24), .val (.int (p1 &&& (3 : Int32))), .val (.int jd_1), .unset, .unset, .unset]) rfl ?_
        refine s_goto X167 hx 951 (D at_909) (of_decide_eq_true rfl) rfl ?_
        exact Steps.refl _)
      have f173 := (((((((((((((((((((((((((((((((((((((((((((((((((((((((((((((((((((((((((((((((((((((((((((((((((((((((((((((((((((((((((((((((((((Jp1_0.ext E24).wr W25).wr W27).wr W28).wr W29).wr W30).wr W31).wr W32).wr W33).wr W34).wr W35).wr W37).wr W38).wr W39).wr W40).wr W41).wr W42).wr W43).wr W44).wr W45).wr W46).wr W48).wr W49).wr W50).wr W51).wr W52).wr W53).wr W54).wr W55).wr W56).wr W57).wr W59).wr W60).wr W61).wr W62).wr W63).wr W64).wr W65).wr W66).wr W67).wr W68).wr W70).wr W71).wr W72).wr W73).wr W74).wr W75).wr W76).wr W77).wr W78).wr W79).wr W81).wr W82).wr W83).wr W84).wr W85).wr W86).wr W87).wr W88).wr W89).wr W90).wr W92).wr W93).wr W94).wr W95).wr W96).wr W97).wr W98).wr W99).wr W100).wr W101).wr W103).wr W104).wr W105).wr W106).wr W107).wr W108).wr W109).wr W110).wr W111).wr W112).wr W114).wr W115).wr W116).wr W117).wr W118).wr W119).wr W120).wr W121).wr W122).wr W123).wr W125).wr W126).wr W127).wr W128).wr W129).wr W130).wr W131).wr W132).wr W133).wr W134).wr W136).wr W137).wr W138).wr W139).wr W140).wr W141).wr W142).wr W143).wr W144).wr W145).wr W147).wr W148).wr W149).wr W150).wr W151).wr W152).wr W153).wr W154).wr W155).wr W156).wr W158).wr W159).wr W160).wr W161).wr W162).wr W163).wr W164).wr W165).wr W166).wr W167)
      have f174 := (((((((((((((((((((((((((((((((((((((((((((((((((((((((((((((((((((((((((((((((((((((((((((((((((((((((((((((((((((((((((((((((((((Jp1_1.ext E24).other W25 (Or.inl (Nat.ne_of_lt (Nat.lt_of_lt_of_le Jp1_0.lt (Nat.le_of_eq g24.symm))))).other W27 (Or.inl (Nat.ne_of_lt (Nat.lt_of_lt_of_le Jp1_0.lt (Nat.le_of_eq g24.symm))))).other W28 (Or.inl (Nat.ne_of_lt (Nat.lt_of_lt_of_le Jp1_0.lt (Nat.le_of_eq g24.symm))))).other W29 (Or.inl (Nat.ne_of_lt (Nat.lt_of_lt_of_le Jp1_0.lt (Nat.le_of_eq g24.symm))))).other W30 (Or.inl (Nat.ne_of_lt (Nat.lt_of_lt_of_le Jp1_0.lt (Nat.le_of_eq g24.symm))))).other W31 (Or.inl (Nat.ne_of_lt (Nat.lt_of_lt_of_le Jp1_0.lt (Nat.le_of_eq g24.symm))))).other W32 (Or.inl (Nat.ne_of_lt (Nat.lt_of_lt_of_le Jp1_0.lt (Nat.le_of_eq g24.symm))))).other W33 (Or.inl (Nat.ne_of_lt (Nat.lt_of_lt_of_le Jp1_0.lt (Nat.le_of_eq g24.symm))))).other W34 (Or.inl (Nat.ne_of_lt (Nat.lt_of_lt_of_le Jp1_0.lt (Nat.le_of_eq g24.symm))))).other W35 (Or.inl (Nat.ne_of_lt (Nat.lt_of_lt_of_le Jp1_0.lt (Nat.le_of_eq g24.symm))))).other W37 (Or.inl (Nat.ne_of_lt (Nat.lt_of_lt_of_le Jp1_0.lt (Nat.le_of_eq g24.symm))))).other W38 (Or.inl (Nat.ne_of_lt (Nat.lt_of_lt_of_le Jp1_0.lt (Nat.le_of_eq g24.symm))))).other W39 (Or.inl (Nat.ne_of_lt (Nat.lt_of_lt_of_le Jp1_0.lt (Nat.le_of_eq g24.symm))))).other W40 (Or.inl (Nat.ne_of_lt (Nat.lt_of_lt_of_le Jp1_0.lt (Nat.le_of_eq g24.symm))))).other W41 (Or.inl (Nat.ne_of_lt (Nat.lt_of_lt_of_le Jp1_0.lt (Nat.le_of_eq g24.symm))))).other W42 (Or.inl (Nat.ne_of_lt (Nat.lt_of_lt_of_le Jp1_0.lt (Nat.le_of_eq g24.symm))))).other W43 (Or.inl (Nat.ne_of_lt (Nat.lt_of_lt_of_le Jp1_0.lt (Nat.le_of_eq g24.symm))))).other W44 (Or.inl (Nat.ne_of_lt (Nat.lt_of_lt_of_le Jp1_0.lt (Nat.le_of_eq g24.symm))))).other W45 (Or.inl (Nat.ne_of_lt (Nat.lt_of_lt_of_le Jp1_0.lt (Nat.le_of_eq g24.symm))))).other W46 (Or.inl (Nat.ne_of_lt (Nat.lt_of_lt_of_le Jp1_0.lt (Nat.le_of_eq g24.symm))))).other W48 (Or.inl (Nat.ne_of_lt (Nat.lt_of_lt_of_le Jp1_0.lt (Nat.le_of_eq g24.symm))))).other W49 (Or.inl (Nat.ne_of_lt (Nat.lt_of_lt_of_le Jp1_0.lt (Nat.le_of_eq g24.symm))))).other W50 (Or.inl (Nat.ne_of_lt (Nat.lt_of_lt_of_le Jp1_0.lt (Nat.le_of_eq g24.symm))))).other W51 (Or.inl (Nat.ne_of_lt (Nat.lt_of_lt_of_le Jp1_0.lt (Nat.le_of_eq g24.symm))))).other W52 (Or.inl (Nat.ne_of_lt (Nat.lt_of_lt_of_le Jp1_0.lt (Nat.le_of_eq g24.symm))))).other W53 (Or.inl (Nat.ne_of_lt (Nat.lt_of_lt_of_le Jp1_0.lt (Nat.le_of_eq g24.symm))))).other W54 (Or.inl (Nat.ne_of_lt (Nat.lt_of_lt_of_le Jp1_0.lt (Nat.le_of_eq g24.symm))))).other W55 (Or.inl (Nat.ne_of_lt (Nat.lt_of_lt_of_le Jp1_0.lt (Nat.le_of_eq g24.symm))))).other W56 (Or.inl (Nat.ne_of_lt (Nat.lt_of_lt_of_le Jp1_0.lt (Nat.le_of_eq g24.symm))))).other W57 (Or.inl (Nat.ne_of_lt (Nat.lt_of_lt_of_le Jp1_0.lt (Nat.le_of_eq g24.symm))))).other W59 (Or.inl (Nat.ne_of_lt (Nat.lt_of_lt_of_le Jp1_0.lt (Nat.le_of_eq g24.symm))))).other W60 (Or.inl (Nat.ne_of_lt (Nat.lt_of_lt_of_le Jp1_0.lt (Nat.le_of_eq g24.symm))))).other W61 (Or.inl (Nat.ne_of_lt (Nat.lt_of_lt_of_le Jp1_0.lt (Nat.le_of_eq g24.symm))))).other W62 (Or.inl (Nat.ne_of_lt (Nat.lt_of_lt_of_le Jp1_0.lt (Nat.le_of_eq g24.symm))))).other W63 (Or.inl (Nat.ne_of_lt (Nat.lt_of_lt_of_le Jp1_0.lt (Nat.le_of_eq g24.symm))))).other W64 (Or.inl (Nat.ne_of_lt (Nat.lt_of_lt_of_le Jp1_0.lt (Nat.le_of_eq g24.symm))))).other W65 (Or.inl (Nat.ne_of_lt (Nat.lt_of_lt_of_le Jp1_0.lt (Nat.le_of_eq g24.symm))))).other W66 (Or.inl (Nat.ne_of_lt (Nat.lt_of_lt_of_le Jp1_0.lt (Nat.le_of_eq g24.symm))))).other W67 (Or.inl (Nat.ne_of_lt (Nat.lt_of_lt_of_le Jp1_0.lt (Nat.le_of_eq g24.symm))))).other W68 (Or.inl (Nat.ne_of_lt (Nat.lt_of_lt_of_le Jp1_0.lt (Nat.le_of_eq g24.symm))))).other W70 (Or.inl (Nat.ne_of_lt (Nat.lt_of_lt_of_le Jp1_0.lt (Nat.le_of_eq g24.symm))))).other W71 (Or.inl (Nat.ne_of_lt (Nat.lt_of_lt_of_le Jp1_0.lt (Nat.le_of_eq g24.symm))))).other W72 (Or.inl (Nat.ne_of_lt (Nat.lt_of_lt_of_le Jp1_0.lt (Nat.le_of_eq g24.symm))))).other W73 (Or.inl (Nat.ne_of_lt (Nat.lt_of_lt_of_le Jp1_0.lt (Nat.le_of_eq g24.symm))))).other W74 (Or.inl (Nat.ne_of_lt (Nat.lt_of_lt_of_le Jp1_0.lt (Nat.le_of_eq g24.symm))))).other W75 (Or.inl (Nat.ne_of_lt (Nat.lt_of_lt_of_le Jp1_0.lt (Nat.le_of_eq g24.symm))))).other W76 (Or.inl (Nat.ne_of_lt (Nat.lt_of_lt_of_le Jp1_0.lt (Nat.le_of_eq g24.symm))))).other W77 (Or.inl (Nat.ne_of_lt (Nat.lt_of_lt_of_le Jp1_0.lt (Nat.le_of_eq g24.symm))))).other W78 (Or.inl (Nat.ne_of_lt (Nat.lt_of_lt_of_le Jp1_0.lt (Nat.le_of_eq g24.symm))))).other W79 (Or.inl (Nat.ne_of_lt (Nat.lt_of_lt_of_le Jp1_0.lt (Nat.le_of_eq g24.symm))))).other W81 (Or.inl (Nat.ne_of_lt (Nat.lt_of_lt_of_le Jp1_0.lt (Nat.le_of_eq g24.symm))))).other W82 (Or.inl (Nat.ne_of_lt (Nat.lt_of_lt_of_le Jp1_0.lt (Nat.le_of_eq g24.symm))))).other W83 (Or.inl (Nat.ne_of_lt (Nat.lt_of_lt_of_le Jp1_0.lt (Nat.le_of_eq g24.symm))))).other W84 (Or.inl (Nat.ne_of_lt (Nat.lt_of_lt_of_le Jp1_0.lt (Nat.le_of_eq g24.symm))))).other W85 (Or.inl (Nat.ne_of_lt (Nat.lt_of_lt_of_le Jp1_0.lt (Nat.le_of_eq g24.symm))))).other W86 (Or.inl (Nat.ne_of_lt (Nat.lt_of_lt_of_le Jp1_0.lt (Nat.le_of_eq g24.symm))))).other W87 (Or.inl (Nat.ne_of_lt (Nat.lt_of_lt_of_le Jp1_0.lt (Nat.le_of_eq g24.symm))))).other W88 (Or.inl (Nat.ne_of_lt (Nat.lt_of_lt_of_le Jp1_0.lt (Nat.le_of_eq g24.symm))))).other W89 (Or.inl (Nat.ne_of_lt (Nat.lt_of_lt_of_le Jp1_0.lt (Nat.le_of_eq g24.symm))))).other W90 (Or.inl (Nat.ne_of_lt (Nat.lt_of_lt_of_le Jp1_0.lt (Nat.le_of_eq g24.symm))))).other W92 (Or.inl (Nat.ne_of_lt (Nat.lt_of_lt_of_le Jp1_0.lt (Nat.le_of_eq g24.symm))))).other W93 (Or.inl (Nat.ne_of_lt (Nat.lt_of_lt_of_le Jp1_0.lt (Nat.le_of_eq g24.symm))))).other W94 (Or.inl (Nat.ne_of_lt (Nat.lt_of_lt_of_le Jp1_0.lt (Nat.le_of_eq g24.symm))))).other W95 (Or.inl (Nat.ne_of_lt (Nat.lt_of_lt_of_le Jp1_0.lt (Nat.le_of_eq g24.symm))))).other W96 (Or.inl (Nat.ne_of_lt (Nat.lt_of_lt_of_le Jp1_0.lt (Nat.le_of_eq g24.symm))))).other W97 (Or.inl (Nat.ne_of_lt (Nat.lt_of_lt_of_le Jp1_0.lt (Nat.le_of_eq g24.symm))))).other W98 (Or.inl (Nat.ne_of_lt (Nat.lt_of_lt_of_le Jp1_0.lt (Nat.le_of_eq g24.symm))))).other W99 (Or.inl (Nat.ne_of_lt (Nat.lt_of_lt_of_le Jp1_0.lt (Nat.le_of_eq g24.symm))))).other W100 (Or.inl (Nat.ne_of_lt (Nat.lt_of_lt_of_le Jp1_0.lt (Nat.le_of_eq g24.symm))))).other W101 (Or.inl (Nat.ne_of_lt (Nat.lt_of_lt_of_le Jp1_0.lt (Nat.le_of_eq g24.symm))))).other W103 (Or.inl (Nat.ne_of_lt (Nat.lt_of_lt_of_le Jp1_0.lt (Nat.le_of_eq g24.symm))))).other W104 (Or.inl (Nat.ne_of_lt (Nat.lt_of_lt_of_le Jp1_0.lt (Nat.le_of_eq g24.symm))))).other W105 (Or.inl (Nat.ne_of_lt (Nat.lt_of_lt_of_le Jp1_0.lt (Nat.le_of_eq g24.symm))))).other W106 (Or.inl (Nat.ne_of_lt (Nat.lt_of_lt_of_le Jp1_0.lt (Nat.le_of_eq g24.symm))))).other W107 (Or.inl (Nat.ne_of_lt (Nat.lt_of_lt_of_le Jp1_0.lt (Nat.le_of_eq g24.symm))))).other W108 (Or.inl (Nat.ne_of_lt (Nat.lt_of_lt_of_le Jp1_0.lt (Nat.le_of_eq g24.symm))))).other W109 (Or.inl (Nat.ne_of_lt (Nat.lt_of_lt_of_le Jp1_0.lt (Nat.le_of_eq g24.symm))))).other W110 (Or.inl (Nat.ne_of_lt (Nat.lt_of_lt_of_le Jp1_0.lt (Nat.le_of_eq g24.symm))))).other W111 (Or.inl (Nat.ne_of_lt (Nat.lt_of_lt_of_le Jp1_0.lt (Nat.le_of_eq g24.symm))))).other W112 (Or.inl (Nat.ne_of_lt (Nat.lt_of_lt_of_le Jp1_0.lt (Nat.le_of_eq g24.symm))))).other W114 (Or.inl (Nat.ne_of_lt (Nat.lt_of_lt_of_le Jp1_0.lt (Nat.le_of_eq g24.symm))))).other W115 (Or.inl (Nat.ne_of_lt (Nat.lt_of_lt_of_le Jp1_0.lt (Nat.le_of_eq g24.symm))))).other W116 (Or.inl (Nat.ne_of_lt (Nat.lt_of_lt_of_le Jp1_0.lt (Nat.le_of_eq g24.symm))))).other W117 (Or.inl (Nat.ne_of_lt (Nat.lt_of_lt_of_le Jp1_0.lt (Nat.le_of_eq g24.symm))))).other W118 (Or.inl (Nat.ne_of_lt (Nat.lt_of_lt_of_le Jp1_0.lt (Nat.le_of_eq g24.symm))))).other W119 (Or.inl (Nat.ne_of_lt (Nat.lt_of_lt_of_le Jp1_0.lt (Nat.le_of_eq g24.symm))))).other W120 (Or.inl (Nat.ne_of_lt (Nat.lt_of_lt_of_le Jp1_0.lt (Nat.le_of_eq g24.symm))))).other W121 (Or.inl (Nat.ne_of_lt (Nat.lt_of_lt_of_le Jp1_0.lt (Nat.le_of_eq g24.symm))))).other W122 (Or.inl (Nat.ne_of_lt (Nat.lt_of_lt_of_le Jp1_0.lt (Nat.le_of_eq g24.symm))))).other W123 (Or.inl (Nat.ne_of_lt (Nat.lt_of_lt_of_le Jp1_0.lt (Nat.le_of_eq g24.symm))))).other W125 (Or.inl (Nat.ne_of_lt (Nat.lt_of_lt_of_le Jp1_0.lt (Nat.le_of_eq g24.symm))))).other W126 (Or.inl (Nat.ne_of_lt (Nat.lt_of_lt_of_le Jp1_0.lt (Nat.le_of_eq g24.symm))))).other W127 (Or.inl (Nat.ne_of_lt (Nat.lt_of_lt_of_le Jp1_0.lt (Nat.le_of_eq g24.symm))))).other W128 (Or.inl (Nat.ne_of_lt (Nat.lt_of_lt_of_le Jp1_0.lt (Nat.le_of_eq g24.symm))))).other W129 (Or.inl (Nat.ne_of_lt (Nat.lt_of_lt_of_le Jp1_0.lt (Nat.le_of_eq g24.symm))))).other W130 (Or.inl (Nat.ne_of_lt (Nat.lt_of_lt_of_le Jp1_0.lt (Nat.le_of_eq g24.symm))))).other W131 (Or.inl (Nat.ne_of_lt (Nat.lt_of_lt_of_le Jp1_0.lt (Nat.le_of_eq g24.symm))))).other W132 (Or.inl (Nat.ne_of_lt (Nat.lt_of_lt_of_le Jp1_0.lt (Nat.le_of_eq g24.symm))))).other W133 (Or.inl (Nat.ne_of_lt (Nat.lt_of_lt_of_le Jp1_0.lt (Nat.le_of_eq g24.symm))))).other W134 (Or.inl (Nat.ne_of_lt (Nat.lt_of_lt_of_le Jp1_0.lt (Nat.le_of_eq g24.symm))))).other W136 (Or.inl (Nat.ne_of_lt (Nat.lt_of_lt_of_le Jp1_0.lt (Nat.le_of_eq g24.symm))))).other W137 (Or.inl (Nat.ne_of_lt (Nat.lt_of_lt_of_le Jp1_0.lt (Nat.le_of_eq g24.symm))))).other W138 (Or.inl (Nat.ne_of_lt (Nat.lt_of_lt_of_le Jp1_0.lt (Nat.le_of_eq g24.symm))))).other W139 (Or.inl (Nat.ne_of_lt (Nat.lt_of_lt_of_le Jp1_0.lt (Nat.le_of_eq g24.symm))))).other W140 (Or.inl (Nat.ne_of_lt (Nat.lt_of_lt_of_le Jp1_0.lt (Nat.le_of_eq g24.symm))))).other W141 (Or.inl (Nat.ne_of_lt (Nat.lt_of_lt_of_le Jp1_0.lt (Nat.le_of_eq g24.symm))))).other W142 (Or.inl (Nat.ne_of_lt (Nat.lt_of_lt_of_le Jp1_0.lt (Nat.le_of_eq g24.symm))))).other W143 (Or.inl (Nat.ne_of_lt (Nat.lt_of_lt_of_le Jp1_0.lt (Nat.le_of_eq g24.symm))))).other W144 (Or.inl (Nat.ne_of_lt (Nat.lt_of_lt_of_le Jp1_0.lt (Nat.le_of_eq g24.symm))))).other W145 (Or.inl (Nat.ne_of_lt (Nat.lt_of_lt_of_le Jp1_0.lt (Nat.le_of_eq g24.symm))))).other W147 (Or.inl (Nat.ne_of_lt (Nat.lt_of_lt_of_le Jp1_0.lt (Nat.le_of_eq g24.symm))))).other W148 (Or.inl (Nat.ne_of_lt (Nat.lt_of_lt_of_le Jp1_0.lt (Nat.le_of_eq g24.symm))))).other W149 (Or.inl (Nat.ne_of_lt (Nat.lt_of_lt_of_le Jp1_0.lt (Nat.le_of_eq g24.symm))))).other W150 (Or.inl (Nat.ne_of_lt (Nat.lt_of_lt_of_le Jp1_0.lt (Nat.le_of_eq g24.symm))))).other W151 (Or.inl (Nat.ne_of_lt (Nat.lt_of_lt_of_le Jp1_0.lt (Nat.le_of_eq g24.symm))))).other W152 (Or.inl (Nat.ne_of_lt (Nat.lt_of_lt_of_le Jp1_0.lt (Nat.le_of_eq g24.symm))))).other W153 (Or.inl (Nat.ne_of_lt (Nat.lt_of_lt_of_le Jp1_0.lt (Nat.le_of_eq g24.symm))))).other W154 (Or.inl (Nat.ne_of_lt (Nat.lt_of_lt_of_le Jp1_0.lt (Nat.le_of_eq g24.symm))))).other W155 (Or.inl (Nat.ne_of_lt (Nat.lt_of_lt_of_le Jp1_0.lt (Nat.le_of_eq g24.symm))))).other W156 (Or.inl (Nat.ne_of_lt (Nat.lt_of_lt_of_le Jp1_0.lt (Nat.le_of_eq g24.symm))))).other W158 (Or.inl (Nat.ne_of_lt (Nat.lt_of_lt_of_le Jp1_0.lt (Nat.le_of_eq g24.symm))))).other W159 (Or.inl (Nat.ne_of_lt (Nat.lt_of_lt_of_le Jp1_0.lt (Nat.le_of_eq g24.symm))))).other W160 (Or.inl (Nat.ne_of_lt (Nat.lt_of_lt_of_le Jp1_0.lt (Nat.le_of_eq g24.symm))))).other W161 (Or.inl (Nat.ne_of_lt (Nat.lt_of_lt_of_le Jp1_0.lt (Nat.le_of_eq g24.symm))))).other W162 (Or.inl (Nat.ne_of_lt (Nat.lt_of_lt_of_le Jp1_0.lt (Nat.le_of_eq g24.symm))))).other W163 (Or.inl (Nat.ne_of_lt (Nat.lt_of_lt_of_le Jp1_0.lt (Nat.le_of_eq g24.symm))))).other W164 (Or.inl (Nat.ne_of_lt (Nat.lt_of_lt_of_le Jp1_0.lt (Nat.le_of_eq g24.symm))))).other W165 (Or.inl (Nat.ne_of_lt (Nat.lt_of_lt_of_le Jp1_0.lt (Nat.le_of_eq g24.symm))))).other W166 (Or.inl (Nat.ne_of_lt (Nat.lt_of_lt_of_le Jp1_0.lt (Nat.le_of_eq g24.symm))))).other W167 (Or.inl (Nat.ne_of_lt (Nat.lt_of_lt_of_le Jp1_0.lt (Nat.le_of_eq g24.symm)))))
      exact ⟨jd_1, T167, _, _, X167, e167, N167, K167, O167, f173, f174, V167, (own_lb0 Jp1_2).1, cs172⟩
    · have cs175 : Steps p.tables e below (s₁.setTop (mkF m 0 #[.val (.int p0), .val (.int p1), .val (.int p2), .val (.int p3), .val (.int p4), .val (.int p5), .unset, .unset, .unset, .unset, .unset, .unset, .unset, .unset, .unset, .unset] [])) (T167.setTop (mkF m 915 #[.val (.int p0), .val (.int p1), .val (.int p2), .val (.int p3), .val (.int p4), .val (.int p5), .val (.int ((p0 &&& (2147483647 : Int32)) % (6 : Int32))), .val (.ref jw_1), .val (.int jd_1), .val (.int (48 : Int32)), .val (.ref fa24), .val (.int (p1 &&& (3 : Int32))), .unset, .unset, .unset, .unset] [(.int (1 : Int32)), (.int (p1 &&& (3 : Int32)))])) := cs170.trans (by
        refine s_ifYes X167 hx 912 (D at_902) ((if0 _ _).trans (feq hc171).2) (of_decide_eq_true rfl) rfl ?_
        refine s_iload X167 hx (D at_912) rfl ?_
        refine s_iconst X167 hx (1 : Int32) (D at_914) rfl ?_
        exact Steps.refl _)
      by_cases hc176 : (p1 &&& (3 : Int32)) = (1 : Int32)
      · have cs177 : Steps p.tables e below (s₁.setTop (mkF m 0 #[.val (.int p0), .val (.int p1), .val (.int p2), .val (.int p3), .val (.int p4), .val (.int p5), .unset, .unset, .unset, .unset, .unset, .unset, .unset, .unset, .unset, .unset] [])) (T167.setTop (mkF m 951 #[.val (.int p0), .val (.int p1), .val (.int p2), .val (.int p3), .val (.int p4), .val (.int p5), .val (.int ((p0 &&& (2147483647 : Int32)) % (6 : Int32))), .val (.ref jw_1), .val (.int jd_1), .val (.int (48 : Int32)), .val (.ref fa24), .val (.int (p1 &&& (3 : Int32))), .val (.int (jd_1 - (1 : Int32))), .unset, .unset, .unset] [])) := cs175.trans (by
          refine s_icmpNo X167 hx (D at_915) (teq hc176).2 ?_
          refine s_iload X167 hx (D at_918) rfl ?_
          refine s_iconst X167 hx (1 : Int32) (D at_920) rfl ?_
          refine s_isub X167 hx (D at_921) rfl ?_
          refine s_istore X167 hx (D at_922) (l' := #[.val (.int p0), .val (.int p1), .val (.int p2), .val (.int p3), .val (.int p4), .val (.int p5), .val (.int ((p0 &&& (2147483647 : Int32)) % (6 : Int32))), .val (.ref jw_1), .val (.int jd_1), .val (.int (48 : Int32)), .val (.ref fa24), .val (.int (p1 &&& (3 : Int32))), .val (.int (jd_1 - (1 : Int32))), .unset, .unset, .unset]) rfl ?_
          refine s_goto X167 hx 951 (D at_924) (of_decide_eq_true rfl) rfl ?_
          exact Steps.refl _)
        have f178 := (((((((((((((((((((((((((((((((((((((((((((((((((((((((((((((((((((((((((((((((((((((((((((((((((((((((((((((((((((((((((((((((((((Jp1_0.ext E24).wr W25).wr W27).wr W28).wr W29).wr W30).wr W31).wr W32).wr W33).wr W34).wr W35).wr W37).wr W38).wr W39).wr W40).wr W41).wr W42).wr W43).wr W44).wr W45).wr W46).wr W48).wr W49).wr W50).wr W51).wr W52).wr W53).wr W54).wr W55).wr W56).wr W57).wr W59).wr W60).wr W61).wr W62).wr W63).wr W64).wr W65).wr W66).wr W67).wr W68).wr W70).wr W71).wr W72).wr W73).wr W74).wr W75).wr W76).wr W77).wr W78).wr W79).wr W81).wr W82).wr W83).wr W84).wr W85).wr W86).wr W87).wr W88).wr W89).wr W90).wr W92).wr W93).wr W94).wr W95).wr W96).wr W97).wr W98).wr W99).wr W100).wr W101).wr W103).wr W104).wr W105).wr W106).wr W107).wr W108).wr W109).wr W110).wr W111).wr W112).wr W114).wr W115).wr W116).wr W117).wr W118).wr W119).wr W120).wr W121).wr W122).wr W123).wr W125).wr W126).wr W127).wr W128).wr W129).wr W130).wr W131).wr W132).wr W133).wr W134).wr W136).wr W137).wr W138).wr W139).wr W140).wr W141).wr W142).wr W143).wr W144).wr W145).wr W147).wr W148).wr W149).wr W150).wr W151).wr W152).wr W153).wr W154).wr W155).wr W156).wr W158).wr W159).wr W160).wr W161).wr W162).wr W163).wr W164).wr W165).wr W166).wr W167)
        have f179 := (((((((((((((((((((((((((((((((((((((((((((((((((((((((((((((((((((((((((((((((((((((((((((((((((((((((((((((((((((((((((((((((((((Jp1_1.ext E24).other W25 (Or.inl (Nat.ne_of_lt (Nat.lt_of_lt_of_le Jp1_0.lt (Nat.le_of_eq g24.symm))))).other W27 (Or.inl (Nat.ne_of_lt (Nat.lt_of_lt_of_le Jp1_0.lt (Nat.le_of_eq g24.symm))))).other W28 (Or.inl (Nat.ne_of_lt (Nat.lt_of_lt_of_le Jp1_0.lt (Nat.le_of_eq g24.symm))))).other W29 (Or.inl (Nat.ne_of_lt (Nat.lt_of_lt_of_le Jp1_0.lt (Nat.le_of_eq g24.symm))))).other W30 (Or.inl (Nat.ne_of_lt (Nat.lt_of_lt_of_le Jp1_0.lt (Nat.le_of_eq g24.symm))))).other W31 (Or.inl (Nat.ne_of_lt (Nat.lt_of_lt_of_le Jp1_0.lt (Nat.le_of_eq g24.symm))))).other W32 (Or.inl (Nat.ne_of_lt (Nat.lt_of_lt_of_le Jp1_0.lt (Nat.le_of_eq g24.symm))))).other W33 (Or.inl (Nat.ne_of_lt (Nat.lt_of_lt_of_le Jp1_0.lt (Nat.le_of_eq g24.symm))))).other W34 (Or.inl (Nat.ne_of_lt (Nat.lt_of_lt_of_le Jp1_0.lt (Nat.le_of_eq g24.symm))))).other W35 (Or.inl (Nat.ne_of_lt (Nat.lt_of_lt_of_le Jp1_0.lt (Nat.le_of_eq g24.symm))))).other W37 (Or.inl (Nat.ne_of_lt (Nat.lt_of_lt_of_le Jp1_0.lt (Nat.le_of_eq g24.symm))))).other W38 (Or.inl (Nat.ne_of_lt (Nat.lt_of_lt_of_le Jp1_0.lt (Nat.le_of_eq g24.symm))))).other W39 (Or.inl (Nat.ne_of_lt (Nat.lt_of_lt_of_le Jp1_0.lt (Nat.le_of_eq g24.symm))))).other W40 (Or.inl (Nat.ne_of_lt (Nat.lt_of_lt_of_le Jp1_0.lt (Nat.le_of_eq g24.symm))))).other W41 (Or.inl (Nat.ne_of_lt (Nat.lt_of_lt_of_le Jp1_0.lt (Nat.le_of_eq g24.symm))))).other W42 (Or.inl (Nat.ne_of_lt (Nat.lt_of_lt_of_le Jp1_0.lt (Nat.le_of_eq g24.symm))))).other W43 (Or.inl (Nat.ne_of_lt (Nat.lt_of_lt_of_le Jp1_0.lt (Nat.le_of_eq g24.symm))))).other W44 (Or.inl (Nat.ne_of_lt (Nat.lt_of_lt_of_le Jp1_0.lt (Nat.le_of_eq g24.symm))))).other W45 (Or.inl (Nat.ne_of_lt (Nat.lt_of_lt_of_le Jp1_0.lt (Nat.le_of_eq g24.symm))))).other W46 (Or.inl (Nat.ne_of_lt (Nat.lt_of_lt_of_le Jp1_0.lt (Nat.le_of_eq g24.symm))))).other W48 (Or.inl (Nat.ne_of_lt (Nat.lt_of_lt_of_le Jp1_0.lt (Nat.le_of_eq g24.symm))))).other W49 (Or.inl (Nat.ne_of_lt (Nat.lt_of_lt_of_le Jp1_0.lt (Nat.le_of_eq g24.symm))))).other W50 (Or.inl (Nat.ne_of_lt (Nat.lt_of_lt_of_le Jp1_0.lt (Nat.le_of_eq g24.symm))))).other W51 (Or.inl (Nat.ne_of_lt (Nat.lt_of_lt_of_le Jp1_0.lt (Nat.le_of_eq g24.symm))))).other W52 (Or.inl (Nat.ne_of_lt (Nat.lt_of_lt_of_le Jp1_0.lt (Nat.le_of_eq g24.symm))))).other W53 (Or.inl (Nat.ne_of_lt (Nat.lt_of_lt_of_le Jp1_0.lt (Nat.le_of_eq g24.symm))))).other W54 (Or.inl (Nat.ne_of_lt (Nat.lt_of_lt_of_le Jp1_0.lt (Nat.le_of_eq g24.symm))))).other W55 (Or.inl (Nat.ne_of_lt (Nat.lt_of_lt_of_le Jp1_0.lt (Nat.le_of_eq g24.symm))))).other W56 (Or.inl (Nat.ne_of_lt (Nat.lt_of_lt_of_le Jp1_0.lt (Nat.le_of_eq g24.symm))))).other W57 (Or.inl (Nat.ne_of_lt (Nat.lt_of_lt_of_le Jp1_0.lt (Nat.le_of_eq g24.symm))))).other W59 (Or.inl (Nat.ne_of_lt (Nat.lt_of_lt_of_le Jp1_0.lt (Nat.le_of_eq g24.symm))))).other W60 (Or.inl (Nat.ne_of_lt (Nat.lt_of_lt_of_le Jp1_0.lt (Nat.le_of_eq g24.symm))))).other W61 (Or.inl (Nat.ne_of_lt (Nat.lt_of_lt_of_le Jp1_0.lt (Nat.le_of_eq g24.symm))))).other W62 (Or.inl (Nat.ne_of_lt (Nat.lt_of_lt_of_le Jp1_0.lt (Nat.le_of_eq g24.symm))))).other W63 (Or.inl (Nat.ne_of_lt (Nat.lt_of_lt_of_le Jp1_0.lt (Nat.le_of_eq g24.symm))))).other W64 (Or.inl (Nat.ne_of_lt (Nat.lt_of_lt_of_le Jp1_0.lt (Nat.le_of_eq g24.symm))))).other W65 (Or.inl (Nat.ne_of_lt (Nat.lt_of_lt_of_le Jp1_0.lt (Nat.le_of_eq g24.symm))))).other W66 (Or.inl (Nat.ne_of_lt (Nat.lt_of_lt_of_le Jp1_0.lt (Nat.le_of_eq g24.symm))))).other W67 (Or.inl (Nat.ne_of_lt (Nat.lt_of_lt_of_le Jp1_0.lt (Nat.le_of_eq g24.symm))))).other W68 (Or.inl (Nat.ne_of_lt (Nat.lt_of_lt_of_le Jp1_0.lt (Nat.le_of_eq g24.symm))))).other W70 (Or.inl (Nat.ne_of_lt (Nat.lt_of_lt_of_le Jp1_0.lt (Nat.le_of_eq g24.symm))))).other W71 (Or.inl (Nat.ne_of_lt (Nat.lt_of_lt_of_le Jp1_0.lt (Nat.le_of_eq g24.symm))))).other W72 (Or.inl (Nat.ne_of_lt (Nat.lt_of_lt_of_le Jp1_0.lt (Nat.le_of_eq g24.symm))))).other W73 (Or.inl (Nat.ne_of_lt (Nat.lt_of_lt_of_le Jp1_0.lt (Nat.le_of_eq g24.symm))))).other W74 (Or.inl (Nat.ne_of_lt (Nat.lt_of_lt_of_le Jp1_0.lt (Nat.le_of_eq g24.symm))))).other W75 (Or.inl (Nat.ne_of_lt (Nat.lt_of_lt_of_le Jp1_0.lt (Nat.le_of_eq g24.symm))))).other W76 (Or.inl (Nat.ne_of_lt (Nat.lt_of_lt_of_le Jp1_0.lt (Nat.le_of_eq g24.symm))))).other W77 (Or.inl (Nat.ne_of_lt (Nat.lt_of_lt_of_le Jp1_0.lt (Nat.le_of_eq g24.symm))))).other W78 (Or.inl (Nat.ne_of_lt (Nat.lt_of_lt_of_le Jp1_0.lt (Nat.le_of_eq g24.symm))))).other W79 (Or.inl (Nat.ne_of_lt (Nat.lt_of_lt_of_le Jp1_0.lt (Nat.le_of_eq g24.symm))))).other W81 (Or.inl (Nat.ne_of_lt (Nat.lt_of_lt_of_le Jp1_0.lt (Nat.le_of_eq g24.symm))))).other W82 (Or.inl (Nat.ne_of_lt (Nat.lt_of_lt_of_le Jp1_0.lt (Nat.le_of_eq g24.symm))))).other W83 (Or.inl (Nat.ne_of_lt (Nat.lt_of_lt_of_le Jp1_0.lt (Nat.le_of_eq g24.symm))))).other W84 (Or.inl (Nat.ne_of_lt (Nat.lt_of_lt_of_le Jp1_0.lt (Nat.le_of_eq g24.symm))))).other W85 (Or.inl (Nat.ne_of_lt (Nat.lt_of_lt_of_le Jp1_0.lt (Nat.le_of_eq g24.symm))))).other W86 (Or.inl (Nat.ne_of_lt (Nat.lt_of_lt_of_le Jp1_0.lt (Nat.le_of_eq g24.symm))))).other W87 (Or.inl (Nat.ne_of_lt (Nat.lt_of_lt_of_le Jp1_0.lt (Nat.le_of_eq g24.symm))))).other W88 (Or.inl (Nat.ne_of_lt (Nat.lt_of_lt_of_le Jp1_0.lt (Nat.le_of_eq g24.symm))))).other W89 (Or.inl (Nat.ne_of_lt (Nat.lt_of_lt_of_le Jp1_0.lt (Nat.le_of_eq g24.symm))))).other W90 (Or.inl (Nat.ne_of_lt (Nat.lt_of_lt_of_le Jp1_0.lt (Nat.le_of_eq g24.symm))))).other W92 (Or.inl (Nat.ne_of_lt (Nat.lt_of_lt_of_le Jp1_0.lt (Nat.le_of_eq g24.symm))))).other W93 (Or.inl (Nat.ne_of_lt (Nat.lt_of_lt_of_le Jp1_0.lt (Nat.le_of_eq g24.symm))))).other W94 (Or.inl (Nat.ne_of_lt (Nat.lt_of_lt_of_le Jp1_0.lt (Nat.le_of_eq g24.symm))))).other W95 (Or.inl (Nat.ne_of_lt (Nat.lt_of_lt_of_le Jp1_0.lt (Nat.le_of_eq g24.symm))))).other W96 (Or.inl (Nat.ne_of_lt (Nat.lt_of_lt_of_le Jp1_0.lt (Nat.le_of_eq g24.symm))))).other W97 (Or.inl (Nat.ne_of_lt (Nat.lt_of_lt_of_le Jp1_0.lt (Nat.le_of_eq g24.symm))))).other W98 (Or.inl (Nat.ne_of_lt (Nat.lt_of_lt_of_le Jp1_0.lt (Nat.le_of_eq g24.symm))))).other W99 (Or.inl (Nat.ne_of_lt (Nat.lt_of_lt_of_le Jp1_0.lt (Nat.le_of_eq g24.symm))))).other W100 (Or.inl (Nat.ne_of_lt (Nat.lt_of_lt_of_le Jp1_0.lt (Nat.le_of_eq g24.symm))))).other W101 (Or.inl (Nat.ne_of_lt (Nat.lt_of_lt_of_le Jp1_0.lt (Nat.le_of_eq g24.symm))))).other W103 (Or.inl (Nat.ne_of_lt (Nat.lt_of_lt_of_le Jp1_0.lt (Nat.le_of_eq g24.symm))))).other W104 (Or.inl (Nat.ne_of_lt (Nat.lt_of_lt_of_le Jp1_0.lt (Nat.le_of_eq g24.symm))))).other W105 (Or.inl (Nat.ne_of_lt (Nat.lt_of_lt_of_le Jp1_0.lt (Nat.le_of_eq g24.symm))))).other W106 (Or.inl (Nat.ne_of_lt (Nat.lt_of_lt_of_le Jp1_0.lt (Nat.le_of_eq g24.symm))))).other W107 (Or.inl (Nat.ne_of_lt (Nat.lt_of_lt_of_le Jp1_0.lt (Nat.le_of_eq g24.symm))))).other W108 (Or.inl (Nat.ne_of_lt (Nat.lt_of_lt_of_le Jp1_0.lt (Nat.le_of_eq g24.symm))))).other W109 (Or.inl (Nat.ne_of_lt (Nat.lt_of_lt_of_le Jp1_0.lt (Nat.le_of_eq g24.symm))))).other W110 (Or.inl (Nat.ne_of_lt (Nat.lt_of_lt_of_le Jp1_0.lt (Nat.le_of_eq g24.symm))))).other W111 (Or.inl (Nat.ne_of_lt (Nat.lt_of_lt_of_le Jp1_0.lt (Nat.le_of_eq g24.symm))))).other W112 (Or.inl (Nat.ne_of_lt (Nat.lt_of_lt_of_le Jp1_0.lt (Nat.le_of_eq g24.symm))))).other W114 (Or.inl (Nat.ne_of_lt (Nat.lt_of_lt_of_le Jp1_0.lt (Nat.le_of_eq g24.symm))))).other W115 (Or.inl (Nat.ne_of_lt (Nat.lt_of_lt_of_le Jp1_0.lt (Nat.le_of_eq g24.symm))))).other W116 (Or.inl (Nat.ne_of_lt (Nat.lt_of_lt_of_le Jp1_0.lt (Nat.le_of_eq g24.symm))))).other W117 (Or.inl (Nat.ne_of_lt (Nat.lt_of_lt_of_le Jp1_0.lt (Nat.le_of_eq g24.symm))))).other W118 (Or.inl (Nat.ne_of_lt (Nat.lt_of_lt_of_le Jp1_0.lt (Nat.le_of_eq g24.symm))))).other W119 (Or.inl (Nat.ne_of_lt (Nat.lt_of_lt_of_le Jp1_0.lt (Nat.le_of_eq g24.symm))))).other W120 (Or.inl (Nat.ne_of_lt (Nat.lt_of_lt_of_le Jp1_0.lt (Nat.le_of_eq g24.symm))))).other W121 (Or.inl (Nat.ne_of_lt (Nat.lt_of_lt_of_le Jp1_0.lt (Nat.le_of_eq g24.symm))))).other W122 (Or.inl (Nat.ne_of_lt (Nat.lt_of_lt_of_le Jp1_0.lt (Nat.le_of_eq g24.symm))))).other W123 (Or.inl (Nat.ne_of_lt (Nat.lt_of_lt_of_le Jp1_0.lt (Nat.le_of_eq g24.symm))))).other W125 (Or.inl (Nat.ne_of_lt (Nat.lt_of_lt_of_le Jp1_0.lt (Nat.le_of_eq g24.symm))))).other W126 (Or.inl (Nat.ne_of_lt (Nat.lt_of_lt_of_le Jp1_0.lt (Nat.le_of_eq g24.symm))))).other W127 (Or.inl (Nat.ne_of_lt (Nat.lt_of_lt_of_le Jp1_0.lt (Nat.le_of_eq g24.symm))))).other W128 (Or.inl (Nat.ne_of_lt (Nat.lt_of_lt_of_le Jp1_0.lt (Nat.le_of_eq g24.symm))))).other W129 (Or.inl (Nat.ne_of_lt (Nat.lt_of_lt_of_le Jp1_0.lt (Nat.le_of_eq g24.symm))))).other W130 (Or.inl (Nat.ne_of_lt (Nat.lt_of_lt_of_le Jp1_0.lt (Nat.le_of_eq g24.symm))))).other W131 (Or.inl (Nat.ne_of_lt (Nat.lt_of_lt_of_le Jp1_0.lt (Nat.le_of_eq g24.symm))))).other W132 (Or.inl (Nat.ne_of_lt (Nat.lt_of_lt_of_le Jp1_0.lt (Nat.le_of_eq g24.symm))))).other W133 (Or.inl (Nat.ne_of_lt (Nat.lt_of_lt_of_le Jp1_0.lt (Nat.le_of_eq g24.symm))))).other W134 (Or.inl (Nat.ne_of_lt (Nat.lt_of_lt_of_le Jp1_0.lt (Nat.le_of_eq g24.symm))))).other W136 (Or.inl (Nat.ne_of_lt (Nat.lt_of_lt_of_le Jp1_0.lt (Nat.le_of_eq g24.symm))))).other W137 (Or.inl (Nat.ne_of_lt (Nat.lt_of_lt_of_le Jp1_0.lt (Nat.le_of_eq g24.symm))))).other W138 (Or.inl (Nat.ne_of_lt (Nat.lt_of_lt_of_le Jp1_0.lt (Nat.le_of_eq g24.symm))))).other W139 (Or.inl (Nat.ne_of_lt (Nat.lt_of_lt_of_le Jp1_0.lt (Nat.le_of_eq g24.symm))))).other W140 (Or.inl (Nat.ne_of_lt (Nat.lt_of_lt_of_le Jp1_0.lt (Nat.le_of_eq g24.symm))))).other W141 (Or.inl (Nat.ne_of_lt (Nat.lt_of_lt_of_le Jp1_0.lt (Nat.le_of_eq g24.symm))))).other W142 (Or.inl (Nat.ne_of_lt (Nat.lt_of_lt_of_le Jp1_0.lt (Nat.le_of_eq g24.symm))))).other W143 (Or.inl (Nat.ne_of_lt (Nat.lt_of_lt_of_le Jp1_0.lt (Nat.le_of_eq g24.symm))))).other W144 (Or.inl (Nat.ne_of_lt (Nat.lt_of_lt_of_le Jp1_0.lt (Nat.le_of_eq g24.symm))))).other W145 (Or.inl (Nat.ne_of_lt (Nat.lt_of_lt_of_le Jp1_0.lt (Nat.le_of_eq g24.symm))))).other W147 (Or.inl (Nat.ne_of_lt (Nat.lt_of_lt_of_le Jp1_0.lt (Nat.le_of_eq g24.symm))))).other W148 (Or.inl (Nat.ne_of_lt (Nat.lt_of_lt_of_le Jp1_0.lt (Nat.le_of_eq g24.symm))))).other W149 (Or.inl (Nat.ne_of_lt (Nat.lt_of_lt_of_le Jp1_0.lt (Nat.le_of_eq g24.symm))))).other W150 (Or.inl (Nat.ne_of_lt (Nat.lt_of_lt_of_le Jp1_0.lt (Nat.le_of_eq g24.symm))))).other W151 (Or.inl (Nat.ne_of_lt (Nat.lt_of_lt_of_le Jp1_0.lt (Nat.le_of_eq g24.symm))))).other W152 (Or.inl (Nat.ne_of_lt (Nat.lt_of_lt_of_le Jp1_0.lt (Nat.le_of_eq g24.symm))))).other W153 (Or.inl (Nat.ne_of_lt (Nat.lt_of_lt_of_le Jp1_0.lt (Nat.le_of_eq g24.symm))))).other W154 (Or.inl (Nat.ne_of_lt (Nat.lt_of_lt_of_le Jp1_0.lt (Nat.le_of_eq g24.symm))))).other W155 (Or.inl (Nat.ne_of_lt (Nat.lt_of_lt_of_le Jp1_0.lt (Nat.le_of_eq g24.symm))))).other W156 (Or.inl (Nat.ne_of_lt (Nat.lt_of_lt_of_le Jp1_0.lt (Nat.le_of_eq g24.symm))))).other W158 (Or.inl (Nat.ne_of_lt (Nat.lt_of_lt_of_le Jp1_0.lt (Nat.le_of_eq g24.symm))))).other W159 (Or.inl (Nat.ne_of_lt (Nat.lt_of_lt_of_le Jp1_0.lt (Nat.le_of_eq g24.symm))))).other W160 (Or.inl (Nat.ne_of_lt (Nat.lt_of_lt_of_le Jp1_0.lt (Nat.le_of_eq g24.symm))))).other W161 (Or.inl (Nat.ne_of_lt (Nat.lt_of_lt_of_le Jp1_0.lt (Nat.le_of_eq g24.symm))))).other W162 (Or.inl (Nat.ne_of_lt (Nat.lt_of_lt_of_le Jp1_0.lt (Nat.le_of_eq g24.symm))))).other W163 (Or.inl (Nat.ne_of_lt (Nat.lt_of_lt_of_le Jp1_0.lt (Nat.le_of_eq g24.symm))))).other W164 (Or.inl (Nat.ne_of_lt (Nat.lt_of_lt_of_le Jp1_0.lt (Nat.le_of_eq g24.symm))))).other W165 (Or.inl (Nat.ne_of_lt (Nat.lt_of_lt_of_le Jp1_0.lt (Nat.le_of_eq g24.symm))))).other W166 (Or.inl (Nat.ne_of_lt (Nat.lt_of_lt_of_le Jp1_0.lt (Nat.le_of_eq g24.symm))))).other W167 (Or.inl (Nat.ne_of_lt (Nat.lt_of_lt_of_le Jp1_0.lt (Nat.le_of_eq g24.symm)))))
        exact ⟨(jd_1 - (1 : Int32)), T167, _, _, X167, e167, N167, K167, O167, f178, f179, V167, (own_lb0 Jp1_2).2.1, cs177⟩
      · have cs180 : Steps p.tables e below (s₁.setTop (mkF m 0 #[.val (.int p0), .val (.int p1), .val (.int p2), .val (.int p3), .val (.int p4), .val (.int p5), .unset, .unset, .unset, .unset, .unset, .unset, .unset, .unset, .unset, .unset] [])) (T167.setTop (mkF m 930 #[.val (.int p0), .val (.int p1), .val (.int p2), .val (.int p3), .val (.int p4), .val (.int p5), .val (.int ((p0 &&& (2147483647 : Int32)) % (6 : Int32))), .val (.ref jw_1), .val (.int jd_1), .val (.int (48 : Int32)), .val (.ref fa24), .val (.int (p1 &&& (3 : Int32))), .unset, .unset, .unset, .unset] [(.int (2 : Int32)), (.int (p1 &&& (3 : Int32)))])) := cs175.trans (by
          refine s_icmpYes X167 hx 927 (D at_915) (feq hc176).2 (of_decide_eq_true rfl) rfl ?_
          refine s_iload X167 hx (D at_927) rfl ?_
          refine s_iconst X167 hx (2 : Int32) (D at_929) rfl ?_
          exact Steps.refl _)
        by_cases hc181 : (p1 &&& (3 : Int32)) = (2 : Int32)
        · have cs182 : Steps p.tables e below (s₁.setTop (mkF m 0 #[.val (.int p0), .val (.int p1), .val (.int p2), .val (.int p3), .val (.int p4), .val (.int p5), .unset, .unset, .unset, .unset, .unset, .unset, .unset, .unset, .unset, .unset] [])) (T167.setTop (mkF m 951 #[.val (.int p0), .val (.int p1), .val (.int p2), .val (.int p3), .val (.int p4), .val (.int p5), .val (.int ((p0 &&& (2147483647 : Int32)) % (6 : Int32))), .val (.ref jw_1), .val (.int jd_1), .val (.int (48 : Int32)), .val (.ref fa24), .val (.int (p1 &&& (3 : Int32))), .val (.int (jd_1 + (1 : Int32))), .unset, .unset, .unset] [])) := cs180.trans (by
            refine s_icmpNo X167 hx (D at_930) (teq hc181).2 ?_
            refine s_iload X167 hx (D at_933) rfl ?_
            refine s_iconst X167 hx (1 : Int32) (D at_935) rfl ?_
            refine s_iadd X167 hx (D at_936) rfl ?_
            refine s_istore X167 hx (D at_937) (l' := #[.val (.int p0), .val (.int p1), .val (.int p2), .val (.int p3), .val (.int p4), .val (.int p5), .val (.int ((p0 &&& (2147483647 : Int32)) % (6 : Int32))), .val (.ref jw_1), .val (.int jd_1), .val (.int (48 : Int32)), .val (.ref fa24), .val (.int (p1 &&& (3 : Int32))), .val (.int (jd_1 + (1 : Int32))), .unset, .unset, .unset]) rfl ?_
            refine s_goto X167 hx 951 (D at_939) (of_decide_eq_true rfl) rfl ?_
            exact Steps.refl _)
          have f183 := (((((((((((((((((((((((((((((((((((((((((((((((((((((((((((((((((((((((((((((((((((((((((((((((((((((((((((((((((((((((((((((((((((Jp1_0.ext E24).wr W25).wr W27).wr W28).wr W29).wr W30).wr W31).wr W32).wr W33).wr W34).wr W35).wr W37).wr W38).wr W39).wr W40).wr W41).wr W42).wr W43).wr W44).wr W45).wr W46).wr W48).wr W49).wr W50).wr W51).wr W52).wr W53).wr W54).wr W55).wr W56).wr W57).wr W59).wr W60).wr W61).wr W62).wr W63).wr W64).wr W65).wr W66).wr W67).wr W68).wr W70).wr W71).wr W72).wr W73).wr W74).wr W75).wr W76).wr W77).wr W78).wr W79).wr W81).wr W82).wr W83).wr W84).wr W85).wr W86).wr W87).wr W88).wr W89).wr W90).wr W92).wr W93).wr W94).wr W95).wr W96).wr W97).wr W98).wr W99).wr W100).wr W101).wr W103).wr W104).wr W105).wr W106).wr W107).wr W108).wr W109).wr W110).wr W111).wr W112).wr W114).wr W115).wr W116).wr W117).wr W118).wr W119).wr W120).wr W121).wr W122).wr W123).wr W125).wr W126).wr W127).wr W128).wr W129).wr W130).wr W131).wr W132).wr W133).wr W134).wr W136).wr W137).wr W138).wr W139).wr W140).wr W141).wr W142).wr W143).wr W144).wr W145).wr W147).wr W148).wr W149).wr W150).wr W151).wr W152).wr W153).wr W154).wr W155).wr W156).wr W158).wr W159).wr W160).wr W161).wr W162).wr W163).wr W164).wr W165).wr W166).wr W167)
          have f184 := (((((((((((((((((((((((((((((((((((((((((((((((((((((((((((((((((((((((((((((((((((((((((((((((((((((((((((((((((((((((((((((((((((Jp1_1.ext E24).other W25 (Or.inl (Nat.ne_of_lt (Nat.lt_of_lt_of_le Jp1_0.lt (Nat.le_of_eq g24.symm))))).other W27 (Or.inl (Nat.ne_of_lt (Nat.lt_of_lt_of_le Jp1_0.lt (Nat.le_of_eq g24.symm))))).other W28 (Or.inl (Nat.ne_of_lt (Nat.lt_of_lt_of_le Jp1_0.lt (Nat.le_of_eq g24.symm))))).other W29 (Or.inl (Nat.ne_of_lt (Nat.lt_of_lt_of_le Jp1_0.lt (Nat.le_of_eq g24.symm))))).other W30 (Or.inl (Nat.ne_of_lt (Nat.lt_of_lt_of_le Jp1_0.lt (Nat.le_of_eq g24.symm))))).other W31 (Or.inl (Nat.ne_of_lt (Nat.lt_of_lt_of_le Jp1_0.lt (Nat.le_of_eq g24.symm))))).other W32 (Or.inl (Nat.ne_of_lt (Nat.lt_of_lt_of_le Jp1_0.lt (Nat.le_of_eq g24.symm))))).other W33 (Or.inl (Nat.ne_of_lt (Nat.lt_of_lt_of_le Jp1_0.lt (Nat.le_of_eq g24.symm))))).other W34 (Or.inl (Nat.ne_of_lt (Nat.lt_of_lt_of_le Jp1_0.lt (Nat.le_of_eq g24.symm))))).other W35 (Or.inl (Nat.ne_of_lt (Nat.lt_of_lt_of_le Jp1_0.lt (Nat.le_of_eq g24.symm))))).other W37 (Or.inl (Nat.ne_of_lt (Nat.lt_of_lt_of_le Jp1_0.lt (Nat.le_of_eq g24.symm))))).other W38 (Or.inl (Nat.ne_of_lt (Nat.lt_of_lt_of_le Jp1_0.lt (Nat.le_of_eq g24.symm))))).other W39 (Or.inl (Nat.ne_of_lt (Nat.lt_of_lt_of_le Jp1_0.lt (Nat.le_of_eq g24.symm))))).other W40 (Or.inl (Nat.ne_of_lt (Nat.lt_of_lt_of_le Jp1_0.lt (Nat.le_of_eq g24.symm))))).other W41 (Or.inl (Nat.ne_of_lt (Nat.lt_of_lt_of_le Jp1_0.lt (Nat.le_of_eq g24.symm))))).other W42 (Or.inl (Nat.ne_of_lt (Nat.lt_of_lt_of_le Jp1_0.lt (Nat.le_of_eq g24.symm))))).other W43 (Or.inl (Nat.ne_of_lt (Nat.lt_of_lt_of_le Jp1_0.lt (Nat.le_of_eq g24.symm))))).other W44 (Or.inl (Nat.ne_of_lt (Nat.lt_of_lt_of_le Jp1_0.lt (Nat.le_of_eq g24.symm))))).other W45 (Or.inl (Nat.ne_of_lt (Nat.lt_of_lt_of_le Jp1_0.lt (Nat.le_of_eq g24.symm))))).other W46 (Or.inl (Nat.ne_of_lt (Nat.lt_of_lt_of_le Jp1_0.lt (Nat.le_of_eq g24.symm))))).other W48 (Or.inl (Nat.ne_of_lt (Nat.lt_of_lt_of_le Jp1_0.lt (Nat.le_of_eq g24.symm))))).other W49 (Or.inl (Nat.ne_of_lt (Nat.lt_of_lt_of_le Jp1_0.lt (Nat.le_of_eq g24.symm))))).other W50 (Or.inl (Nat.ne_of_lt (Nat.lt_of_lt_of_le Jp1_0.lt (Nat.le_of_eq g24.symm))))).other W51 (Or.inl (Nat.ne_of_lt (Nat.lt_of_lt_of_le Jp1_0.lt (Nat.le_of_eq g24.symm))))).other W52 (Or.inl (Nat.ne_of_lt (Nat.lt_of_lt_of_le Jp1_0.lt (Nat.le_of_eq g24.symm))))).other W53 (Or.inl (Nat.ne_of_lt (Nat.lt_of_lt_of_le Jp1_0.lt (Nat.le_of_eq g24.symm))))).other W54 (Or.inl (Nat.ne_of_lt (Nat.lt_of_lt_of_le Jp1_0.lt (Nat.le_of_eq g24.symm))))).other W55 (Or.inl (Nat.ne_of_lt (Nat.lt_of_lt_of_le Jp1_0.lt (Nat.le_of_eq g24.symm))))).other W56 (Or.inl (Nat.ne_of_lt (Nat.lt_of_lt_of_le Jp1_0.lt (Nat.le_of_eq g24.symm))))).other W57 (Or.inl (Nat.ne_of_lt (Nat.lt_of_lt_of_le Jp1_0.lt (Nat.le_of_eq g24.symm))))).other W59 (Or.inl (Nat.ne_of_lt (Nat.lt_of_lt_of_le Jp1_0.lt (Nat.le_of_eq g24.symm))))).other W60 (Or.inl (Nat.ne_of_lt (Nat.lt_of_lt_of_le Jp1_0.lt (Nat.le_of_eq g24.symm))))).other W61 (Or.inl (Nat.ne_of_lt (Nat.lt_of_lt_of_le Jp1_0.lt (Nat.le_of_eq g24.symm))))).other W62 (Or.inl (Nat.ne_of_lt (Nat.lt_of_lt_of_le Jp1_0.lt (Nat.le_of_eq g24.symm))))).other W63 (Or.inl (Nat.ne_of_lt (Nat.lt_of_lt_of_le Jp1_0.lt (Nat.le_of_eq g24.symm))))).other W64 (Or.inl (Nat.ne_of_lt (Nat.lt_of_lt_of_le Jp1_0.lt (Nat.le_of_eq g24.symm))))).other W65 (Or.inl (Nat.ne_of_lt (Nat.lt_of_lt_of_le Jp1_0.lt (Nat.le_of_eq g24.symm))))).other W66 (Or.inl (Nat.ne_of_lt (Nat.lt_of_lt_of_le Jp1_0.lt (Nat.le_of_eq g24.symm))))).other W67 (Or.inl (Nat.ne_of_lt (Nat.lt_of_lt_of_le Jp1_0.lt (Nat.le_of_eq g24.symm))))).other W68 (Or.inl (Nat.ne_of_lt (Nat.lt_of_lt_of_le Jp1_0.lt (Nat.le_of_eq g24.symm))))).other W70 (Or.inl (Nat.ne_of_lt (Nat.lt_of_lt_of_le Jp1_0.lt (Nat.le_of_eq g24.symm))))).other W71 (Or.inl (Nat.ne_of_lt (Nat.lt_of_lt_of_le Jp1_0.lt (Nat.le_of_eq g24.symm))))).other W72 (Or.inl (Nat.ne_of_lt (Nat.lt_of_lt_of_le Jp1_0.lt (Nat.le_of_eq g24.symm))))).other W73 (Or.inl (Nat.ne_of_lt (Nat.lt_of_lt_of_le Jp1_0.lt (Nat.le_of_eq g24.symm))))).other W74 (Or.inl (Nat.ne_of_lt (Nat.lt_of_lt_of_le Jp1_0.lt (Nat.le_of_eq g24.symm))))).other W75 (Or.inl (Nat.ne_of_lt (Nat.lt_of_lt_of_le Jp1_0.lt (Nat.le_of_eq g24.symm))))).other W76 (Or.inl (Nat.ne_of_lt (Nat.lt_of_lt_of_le Jp1_0.lt (Nat.le_of_eq g24.symm))))).other W77 (Or.inl (Nat.ne_of_lt (Nat.lt_of_lt_of_le Jp1_0.lt (Nat.le_of_eq g24.symm))))).other W78 (Or.inl (Nat.ne_of_lt (Nat.lt_of_lt_of_le Jp1_0.lt (Nat.le_of_eq g24.symm))))).other W79 (Or.inl (Nat.ne_of_lt (Nat.lt_of_lt_of_le Jp1_0.lt (Nat.le_of_eq g24.symm))))).other W81 (Or.inl (Nat.ne_of_lt (Nat.lt_of_lt_of_le Jp1_0.lt (Nat.le_of_eq g24.symm))))).other W82 (Or.inl (Nat.ne_of_lt (Nat.lt_of_lt_of_le Jp1_0.lt (Nat.le_of_eq g24.symm))))).other W83 (Or.inl (Nat.ne_of_lt (Nat.lt_of_lt_of_le Jp1_0.lt (Nat.le_of_eq g24.symm))))).other W84 (Or.inl (Nat.ne_of_lt (Nat.lt_of_lt_of_le Jp1_0.lt (Nat.le_of_eq g24.symm))))).other W85 (Or.inl (Nat.ne_of_lt (Nat.lt_of_lt_of_le Jp1_0.lt (Nat.le_of_eq g24.symm))))).other W86 (Or.inl (Nat.ne_of_lt (Nat.lt_of_lt_of_le Jp1_0.lt (Nat.le_of_eq g24.symm))))).other W87 (Or.inl (Nat.ne_of_lt (Nat.lt_of_lt_of_le Jp1_0.lt (Nat.le_of_eq g24.symm))))).other W88 (Or.inl (Nat.ne_of_lt (Nat.lt_of_lt_of_le Jp1_0.lt (Nat.le_of_eq g24.symm))))).other W89 (Or.inl (Nat.ne_of_lt (Nat.lt_of_lt_of_le Jp1_0.lt (Nat.le_of_eq g24.symm))))).other W90 (Or.inl (Nat.ne_of_lt (Nat.lt_of_lt_of_le Jp1_0.lt (Nat.le_of_eq g24.symm))))).other W92 (Or.inl (Nat.ne_of_lt (Nat.lt_of_lt_of_le Jp1_0.lt (Nat.le_of_eq g24.symm))))).other W93 (Or.inl (Nat.ne_of_lt (Nat.lt_of_lt_of_le Jp1_0.lt (Nat.le_of_eq g24.symm))))).other W94 (Or.inl (Nat.ne_of_lt (Nat.lt_of_lt_of_le Jp1_0.lt (Nat.le_of_eq g24.symm))))).other W95 (Or.inl (Nat.ne_of_lt (Nat.lt_of_lt_of_le Jp1_0.lt (Nat.le_of_eq g24.symm))))).other W96 (Or.inl (Nat.ne_of_lt (Nat.lt_of_lt_of_le Jp1_0.lt (Nat.le_of_eq g24.symm))))).other W97 (Or.inl (Nat.ne_of_lt (Nat.lt_of_lt_of_le Jp1_0.lt (Nat.le_of_eq g24.symm))))).other W98 (Or.inl (Nat.ne_of_lt (Nat.lt_of_lt_of_le Jp1_0.lt (Nat.le_of_eq g24.symm))))).other W99 (Or.inl (Nat.ne_of_lt (Nat.lt_of_lt_of_le Jp1_0.lt (Nat.le_of_eq g24.symm))))).other W100 (Or.inl (Nat.ne_of_lt (Nat.lt_of_lt_of_le Jp1_0.lt (Nat.le_of_eq g24.symm))))).other W101 (Or.inl (Nat.ne_of_lt (Nat.lt_of_lt_of_le Jp1_0.lt (Nat.le_of_eq g24.symm))))).other W103 (Or.inl (Nat.ne_of_lt (Nat.lt_of_lt_of_le Jp1_0.lt (Nat.le_of_eq g24.symm))))).other W104 (Or.inl (Nat.ne_of_lt (Nat.lt_of_lt_of_le Jp1_0.lt (Nat.le_of_eq g24.symm))))).other W105 (Or.inl (Nat.ne_of_lt (Nat.lt_of_lt_of_le Jp1_0.lt (Nat.le_of_eq g24.symm))))).other W106 (Or.inl (Nat.ne_of_lt (Nat.lt_of_lt_of_le Jp1_0.lt (Nat.le_of_eq g24.symm))))).other W107 (Or.inl (Nat.ne_of_lt (Nat.lt_of_lt_of_le Jp1_0.lt (Nat.le_of_eq g24.symm))))).other W108 (Or.inl (Nat.ne_of_lt (Nat.lt_of_lt_of_le Jp1_0.lt (Nat.le_of_eq g24.symm))))).other W109 (Or.inl (Nat.ne_of_lt (Nat.lt_of_lt_of_le Jp1_0.lt (Nat.le_of_eq g24.symm))))).other W110 (Or.inl (Nat.ne_of_lt (Nat.lt_of_lt_of_le Jp1_0.lt (Nat.le_of_eq g24.symm))))).other W111 (Or.inl (Nat.ne_of_lt (Nat.lt_of_lt_of_le Jp1_0.lt (Nat.le_of_eq g24.symm))))).other W112 (Or.inl (Nat.ne_of_lt (Nat.lt_of_lt_of_le Jp1_0.lt (Nat.le_of_eq g24.symm))))).other W114 (Or.inl (Nat.ne_of_lt (Nat.lt_of_lt_of_le Jp1_0.lt (Nat.le_of_eq g24.symm))))).other W115 (Or.inl (Nat.ne_of_lt (Nat.lt_of_lt_of_le Jp1_0.lt (Nat.le_of_eq g24.symm))))).other W116 (Or.inl (Nat.ne_of_lt (Nat.lt_of_lt_of_le Jp1_0.lt (Nat.le_of_eq g24.symm))))).other W117 (Or.inl (Nat.ne_of_lt (Nat.lt_of_lt_of_le Jp1_0.lt (Nat.le_of_eq g24.symm))))).other W118 (Or.inl (Nat.ne_of_lt (Nat.lt_of_lt_of_le Jp1_0.lt (Nat.le_of_eq g24.symm))))).other W119 (Or.inl (Nat.ne_of_lt (Nat.lt_of_lt_of_le Jp1_0.lt (Nat.le_of_eq g24.symm))))).other W120 (Or.inl (Nat.ne_of_lt (Nat.lt_of_lt_of_le Jp1_0.lt (Nat.le_of_eq g24.symm))))).other W121 (Or.inl (Nat.ne_of_lt (Nat.lt_of_lt_of_le Jp1_0.lt (Nat.le_of_eq g24.symm))))).other W122 (Or.inl (Nat.ne_of_lt (Nat.lt_of_lt_of_le Jp1_0.lt (Nat.le_of_eq g24.symm))))).other W123 (Or.inl (Nat.ne_of_lt (Nat.lt_of_lt_of_le Jp1_0.lt (Nat.le_of_eq g24.symm))))).other W125 (Or.inl (Nat.ne_of_lt (Nat.lt_of_lt_of_le Jp1_0.lt (Nat.le_of_eq g24.symm))))).other W126 (Or.inl (Nat.ne_of_lt (Nat.lt_of_lt_of_le Jp1_0.lt (Nat.le_of_eq g24.symm))))).other W127 (Or.inl (Nat.ne_of_lt (Nat.lt_of_lt_of_le Jp1_0.lt (Nat.le_of_eq g24.symm))))).other W128 (Or.inl (Nat.ne_of_lt (Nat.lt_of_lt_of_le Jp1_0.lt (Nat.le_of_eq g24.symm))))).other W129 (Or.inl (Nat.ne_of_lt (Nat.lt_of_lt_of_le Jp1_0.lt (Nat.le_of_eq g24.symm))))).other W130 (Or.inl (Nat.ne_of_lt (Nat.lt_of_lt_of_le Jp1_0.lt (Nat.le_of_eq g24.symm))))).other W131 (Or.inl (Nat.ne_of_lt (Nat.lt_of_lt_of_le Jp1_0.lt (Nat.le_of_eq g24.symm))))).other W132 (Or.inl (Nat.ne_of_lt (Nat.lt_of_lt_of_le Jp1_0.lt (Nat.le_of_eq g24.symm))))).other W133 (Or.inl (Nat.ne_of_lt (Nat.lt_of_lt_of_le Jp1_0.lt (Nat.le_of_eq g24.symm))))).other W134 (Or.inl (Nat.ne_of_lt (Nat.lt_of_lt_of_le Jp1_0.lt (Nat.le_of_eq g24.symm))))).other W136 (Or.inl (Nat.ne_of_lt (Nat.lt_of_lt_of_le Jp1_0.lt (Nat.le_of_eq g24.symm))))).other W137 (Or.inl (Nat.ne_of_lt (Nat.lt_of_lt_of_le Jp1_0.lt (Nat.le_of_eq g24.symm))))).other W138 (Or.inl (Nat.ne_of_lt (Nat.lt_of_lt_of_le Jp1_0.lt (Nat.le_of_eq g24.symm))))).other W139 (Or.inl (Nat.ne_of_lt (Nat.lt_of_lt_of_le Jp1_0.lt (Nat.le_of_eq g24.symm))))).other W140 (Or.inl (Nat.ne_of_lt (Nat.lt_of_lt_of_le Jp1_0.lt (Nat.le_of_eq g24.symm))))).other W141 (Or.inl (Nat.ne_of_lt (Nat.lt_of_lt_of_le Jp1_0.lt (Nat.le_of_eq g24.symm))))).other W142 (Or.inl (Nat.ne_of_lt (Nat.lt_of_lt_of_le Jp1_0.lt (Nat.le_of_eq g24.symm))))).other W143 (Or.inl (Nat.ne_of_lt (Nat.lt_of_lt_of_le Jp1_0.lt (Nat.le_of_eq g24.symm))))).other W144 (Or.inl (Nat.ne_of_lt (Nat.lt_of_lt_of_le Jp1_0.lt (Nat.le_of_eq g24.symm))))).other W145 (Or.inl (Nat.ne_of_lt (Nat.lt_of_lt_of_le Jp1_0.lt (Nat.le_of_eq g24.symm))))).other W147 (Or.inl (Nat.ne_of_lt (Nat.lt_of_lt_of_le Jp1_0.lt (Nat.le_of_eq g24.symm))))).other W148 (Or.inl (Nat.ne_of_lt (Nat.lt_of_lt_of_le Jp1_0.lt (Nat.le_of_eq g24.symm))))).other W149 (Or.inl (Nat.ne_of_lt (Nat.lt_of_lt_of_le Jp1_0.lt (Nat.le_of_eq g24.symm))))).other W150 (Or.inl (Nat.ne_of_lt (Nat.lt_of_lt_of_le Jp1_0.lt (Nat.le_of_eq g24.symm))))).other W151 (Or.inl (Nat.ne_of_lt (Nat.lt_of_lt_of_le Jp1_0.lt (Nat.le_of_eq g24.symm))))).other W152 (Or.inl (Nat.ne_of_lt (Nat.lt_of_lt_of_le Jp1_0.lt (Nat.le_of_eq g24.symm))))).other W153 (Or.inl (Nat.ne_of_lt (Nat.lt_of_lt_of_le Jp1_0.lt (Nat.le_of_eq g24.symm))))).other W154 (Or.inl (Nat.ne_of_lt (Nat.lt_of_lt_of_le Jp1_0.lt (Nat.le_of_eq g24.symm))))).other W155 (Or.inl (Nat.ne_of_lt (Nat.lt_of_lt_of_le Jp1_0.lt (Nat.le_of_eq g24.symm))))).other W156 (Or.inl (Nat.ne_of_lt (Nat.lt_of_lt_of_le Jp1_0.lt (Nat.le_of_eq g24.symm))))).other W158 (Or.inl (Nat.ne_of_lt (Nat.lt_of_lt_of_le Jp1_0.lt (Nat.le_of_eq g24.symm))))).other W159 (Or.inl (Nat.ne_of_lt (Nat.lt_of_lt_of_le Jp1_0.lt (Nat.le_of_eq g24.symm))))).other W160 (Or.inl (Nat.ne_of_lt (Nat.lt_of_lt_of_le Jp1_0.lt (Nat.le_of_eq g24.symm))))).other W161 (Or.inl (Nat.ne_of_lt (Nat.lt_of_lt_of_le Jp1_0.lt (Nat.le_of_eq g24.symm))))).other W162 (Or.inl (Nat.ne_of_lt (Nat.lt_of_lt_of_le Jp1_0.lt (Nat.le_of_eq g24.symm))))).other W163 (Or.inl (Nat.ne_of_lt (Nat.lt_of_lt_of_le Jp1_0.lt (Nat.le_of_eq g24.symm))))).other W164 (Or.inl (Nat.ne_of_lt (Nat.lt_of_lt_of_le Jp1_0.lt (Nat.le_of_eq g24.symm))))).other W165 (Or.inl (Nat.ne_of_lt (Nat.lt_of_lt_of_le Jp1_0.lt (Nat.le_of_eq g24.symm))))).other W166 (Or.inl (Nat.ne_of_lt (Nat.lt_of_lt_of_le Jp1_0.lt (Nat.le_of_eq g24.symm))))).other W167 (Or.inl (Nat.ne_of_lt (Nat.lt_of_lt_of_le Jp1_0.lt (Nat.le_of_eq g24.symm)))))
          exact ⟨(jd_1 + (1 : Int32)), T167, _, _, X167, e167, N167, K167, O167, f183, f184, V167, (own_lb0 Jp1_2).2.2.1, cs182⟩
        · have cs185 : Steps p.tables e below (s₁.setTop (mkF m 0 #[.val (.int p0), .val (.int p1), .val (.int p2), .val (.int p3), .val (.int p4), .val (.int p5), .unset, .unset, .unset, .unset, .unset, .unset, .unset, .unset, .unset, .unset] [])) (T167.setTop (mkF m 951 #[.val (.int p0), .val (.int p1), .val (.int p2), .val (.int p3), .val (.int p4), .val (.int p5), .val (.int ((p0 &&& (2147483647 : Int32)) % (6 : Int32))), .val (.ref jw_1), .val (.int jd_1), .val (.int (48 : Int32)), .val (.ref fa24), .val (.int (p1 &&& (3 : Int32))), .val (.int (((p1.toUInt32 >>> ((2 : Int32) &&& 31).toUInt32).toInt32) % (130 : Int32))), .unset, .unset, .unset] [])) := cs180.trans (by
            refine s_icmpYes X167 hx 942 (D at_930) (feq hc181).2 (of_decide_eq_true rfl) rfl ?_
            refine s_iloadN X167 hx (D at_942) rfl ?_
            refine s_iconst X167 hx (2 : Int32) (D at_943) rfl ?_
            refine s_iushr X167 hx (D at_944) rfl ?_
            refine s_sipush X167 hx (130 : Int32) (D at_945) rfl ?_
            refine s_irem X167 hx (D at_948) (by decide) rfl ?_
            refine s_istore X167 hx (D at_949) (l' := #[.val (.int p0), .val (.int p1), .val (.int p2), .val (.int p3), .val (.int p4), .val (.int p5), .val (.int ((p0 &&& (2147483647 : Int32)) % (6 : Int32))), .val (.ref jw_1), .val (.int jd_1), .val (.int (48 : Int32)), .val (.ref fa24), .val (.int (p1 &&& (3 : Int32))), .val (.int (((p1.toUInt32 >>> ((2 : Int32) &&& 31).toUInt32).toInt32) % (130 : Int32))), .unset, .unset, .unset]) rfl ?_
            exact Steps.refl _)
          have f186 := (((((((((((((((((((((((((((((((((((((((((((((((((((((((((((((((((((((((((((((((((((((((((((((((((((((((((((((((((((((((((((((((((((Jp1_0.ext E24).wr W25).wr W27).wr W28).wr W29).wr W30).wr W31).wr W32).wr W33).wr W34).wr W35).wr W37).wr W38).wr W39).wr W40).wr W41).wr W42).wr W43).wr W44).wr W45).wr W46).wr W48).wr W49).wr W50).wr W51).wr W52).wr W53).wr W54).wr W55).wr W56).wr W57).wr W59).wr W60).wr W61).wr W62).wr W63).wr W64).wr W65).wr W66).wr W67).wr W68).wr W70).wr W71).wr W72).wr W73).wr W74).wr W75).wr W76).wr W77).wr W78).wr W79).wr W81).wr W82).wr W83).wr W84).wr W85).wr W86).wr W87).wr W88).wr W89).wr W90).wr W92).wr W93).wr W94).wr W95).wr W96).wr W97).wr W98).wr W99).wr W100).wr W101).wr W103).wr W104).wr W105).wr W106).wr W107).wr W108).wr W109).wr W110).wr W111).wr W112).wr W114).wr W115).wr W116).wr W117).wr W118).wr W119).wr W120).wr W121).wr W122).wr W123).wr W125).wr W126).wr W127).wr W128).wr W129).wr W130).wr W131).wr W132).wr W133).wr W134).wr W136).wr W137).wr W138).wr W139).wr W140).wr W141).wr W142).wr W143).wr W144).wr W145).wr W147).wr W148).wr W149).wr W150).wr W151).wr W152).wr W153).wr W154).wr W155).wr W156).wr W158).wr W159).wr W160).wr W161).wr W162).wr W163).wr W164).wr W165).wr W166).wr W167)
          have f187 := (((((((((((((((((((((((((((((((((((((((((((((((((((((((((((((((((((((((((((((((((((((((((((((((((((((((((((((((((((((((((((((((((((Jp1_1.ext E24).other W25 (Or.inl (Nat.ne_of_lt (Nat.lt_of_lt_of_le Jp1_0.lt (Nat.le_of_eq g24.symm))))).other W27 (Or.inl (Nat.ne_of_lt (Nat.lt_of_lt_of_le Jp1_0.lt (Nat.le_of_eq g24.symm))))).other W28 (Or.inl (Nat.ne_of_lt (Nat.lt_of_lt_of_le Jp1_0.lt (Nat.le_of_eq g24.symm))))).other W29 (Or.inl (Nat.ne_of_lt (Nat.lt_of_lt_of_le Jp1_0.lt (Nat.le_of_eq g24.symm))))).other W30 (Or.inl (Nat.ne_of_lt (Nat.lt_of_lt_of_le Jp1_0.lt (Nat.le_of_eq g24.symm))))).other W31 (Or.inl (Nat.ne_of_lt (Nat.lt_of_lt_of_le Jp1_0.lt (Nat.le_of_eq g24.symm))))).other W32 (Or.inl (Nat.ne_of_lt (Nat.lt_of_lt_of_le Jp1_0.lt (Nat.le_of_eq g24.symm))))).other W33 (Or.inl (Nat.ne_of_lt (Nat.lt_of_lt_of_le Jp1_0.lt (Nat.le_of_eq g24.symm))))).other W34 (Or.inl (Nat.ne_of_lt (Nat.lt_of_lt_of_le Jp1_0.lt (Nat.le_of_eq g24.symm))))).other W35 (Or.inl (Nat.ne_of_lt (Nat.lt_of_lt_of_le Jp1_0.lt (Nat.le_of_eq g24.symm))))).other W37 (Or.inl (Nat.ne_of_lt (Nat.lt_of_lt_of_le Jp1_0.lt (Nat.le_of_eq g24.symm))))).other W38 (Or.inl (Nat.ne_of_lt (Nat.lt_of_lt_of_le Jp1_0.lt (Nat.le_of_eq g24.symm))))).other W39 (Or.inl (Nat.ne_of_lt (Nat.lt_of_lt_of_le Jp1_0.lt (Nat.le_of_eq g24.symm))))).other W40 (Or.inl (Nat.ne_of_lt (Nat.lt_of_lt_of_le Jp1_0.lt (Nat.le_of_eq g24.symm))))).other W41 (Or.inl (Nat.ne_of_lt (Nat.lt_of_lt_of_le Jp1_0.lt (Nat.le_of_eq g24.symm))))).other W42 (Or.inl (Nat.ne_of_lt (Nat.lt_of_lt_of_le Jp1_0.lt (Nat.le_of_eq g24.symm))))).other W43 (Or.inl (Nat.ne_of_lt (Nat.lt_of_lt_of_le Jp1_0.lt (Nat.le_of_eq g24.symm))))).other W44 (Or.inl (Nat.ne_of_lt (Nat.lt_of_lt_of_le Jp1_0.lt (Nat.le_of_eq g24.symm))))).other W45 (Or.inl (Nat.ne_of_lt (Nat.lt_of_lt_of_le Jp1_0.lt (Nat.le_of_eq g24.symm))))).other W46 (Or.inl (Nat.ne_of_lt (Nat.lt_of_lt_of_le Jp1_0.lt (Nat.le_of_eq g24.symm))))).other W48 (Or.inl (Nat.ne_of_lt (Nat.lt_of_lt_of_le Jp1_0.lt (Nat.le_of_eq g24.symm))))).other W49 (Or.inl (Nat.ne_of_lt (Nat.lt_of_lt_of_le Jp1_0.lt (Nat.le_of_eq g24.symm))))).other W50 (Or.inl (Nat.ne_of_lt (Nat.lt_of_lt_of_le Jp1_0.lt (Nat.le_of_eq g24.symm))))).other W51 (Or.inl (Nat.ne_of_lt (Nat.lt_of_lt_of_le Jp1_0.lt (Nat.le_of_eq g24.symm))))).other W52 (Or.inl (Nat.ne_of_lt (Nat.lt_of_lt_of_le Jp1_0.lt (Nat.le_of_eq g24.symm))))).other W53 (Or.inl (Nat.ne_of_lt (Nat.lt_of_lt_of_le Jp1_0.lt (Nat.le_of_eq g24.symm))))).other W54 (Or.inl (Nat.ne_of_lt (Nat.lt_of_lt_of_le Jp1_0.lt (Nat.le_of_eq g24.symm))))).other W55 (Or.inl (Nat.ne_of_lt (Nat.lt_of_lt_of_le Jp1_0.lt (Nat.le_of_eq g24.symm))))).other W56 (Or.inl (Nat.ne_of_lt (Nat.lt_of_lt_of_le Jp1_0.lt (Nat.le_of_eq g24.symm))))).other W57 (Or.inl (Nat.ne_of_lt (Nat.lt_of_lt_of_le Jp1_0.lt (Nat.le_of_eq g24.symm))))).other W59 (Or.inl (Nat.ne_of_lt (Nat.lt_of_lt_of_le Jp1_0.lt (Nat.le_of_eq g24.symm))))).other W60 (Or.inl (Nat.ne_of_lt (Nat.lt_of_lt_of_le Jp1_0.lt (Nat.le_of_eq g24.symm))))).other W61 (Or.inl (Nat.ne_of_lt (Nat.lt_of_lt_of_le Jp1_0.lt (Nat.le_of_eq g24.symm))))).other W62 (Or.inl (Nat.ne_of_lt (Nat.lt_of_lt_of_le Jp1_0.lt (Nat.le_of_eq g24.symm))))).other W63 (Or.inl (Nat.ne_of_lt (Nat.lt_of_lt_of_le Jp1_0.lt (Nat.le_of_eq g24.symm))))).other W64 (Or.inl (Nat.ne_of_lt (Nat.lt_of_lt_of_le Jp1_0.lt (Nat.le_of_eq g24.symm))))).other W65 (Or.inl (Nat.ne_of_lt (Nat.lt_of_lt_of_le Jp1_0.lt (Nat.le_of_eq g24.symm))))).other W66 (Or.inl (Nat.ne_of_lt (Nat.lt_of_lt_of_le Jp1_0.lt (Nat.le_of_eq g24.symm))))).other W67 (Or.inl (Nat.ne_of_lt (Nat.lt_of_lt_of_le Jp1_0.lt (Nat.le_of_eq g24.symm))))).other W68 (Or.inl (Nat.ne_of_lt (Nat.lt_of_lt_of_le Jp1_0.lt (Nat.le_of_eq g24.symm))))).other W70 (Or.inl (Nat.ne_of_lt (Nat.lt_of_lt_of_le Jp1_0.lt (Nat.le_of_eq g24.symm))))).other W71 (Or.inl (Nat.ne_of_lt (Nat.lt_of_lt_of_le Jp1_0.lt (Nat.le_of_eq g24.symm))))).other W72 (Or.inl (Nat.ne_of_lt (Nat.lt_of_lt_of_le Jp1_0.lt (Nat.le_of_eq g24.symm))))).other W73 (Or.inl (Nat.ne_of_lt (Nat.lt_of_lt_of_le Jp1_0.lt (Nat.le_of_eq g24.symm))))).other W74 (Or.inl (Nat.ne_of_lt (Nat.lt_of_lt_of_le Jp1_0.lt (Nat.le_of_eq g24.symm))))).other W75 (Or.inl (Nat.ne_of_lt (Nat.lt_of_lt_of_le Jp1_0.lt (Nat.le_of_eq g24.symm))))).other W76 (Or.inl (Nat.ne_of_lt (Nat.lt_of_lt_of_le Jp1_0.lt (Nat.le_of_eq g24.symm))))).other W77 (Or.inl (Nat.ne_of_lt (Nat.lt_of_lt_of_le Jp1_0.lt (Nat.le_of_eq g24.symm))))).other W78 (Or.inl (Nat.ne_of_lt (Nat.lt_of_lt_of_le Jp1_0.lt (Nat.le_of_eq g24.symm))))).other W79 (Or.inl (Nat.ne_of_lt (Nat.lt_of_lt_of_le Jp1_0.lt (Nat.le_of_eq g24.symm))))).other W81 (Or.inl (Nat.ne_of_lt (Nat.lt_of_lt_of_le Jp1_0.lt (Nat.le_of_eq g24.symm))))).other W82 (Or.inl (Nat.ne_of_lt (Nat.lt_of_lt_of_le Jp1_0.lt (Nat.le_of_eq g24.symm))))).other W83 (Or.inl (Nat.ne_of_lt (Nat.lt_of_lt_of_le Jp1_0.lt (Nat.le_of_eq g24.symm))))).other W84 (Or.inl (Nat.ne_of_lt (Nat.lt_of_lt_of_le Jp1_0.lt (Nat.le_of_eq g24.symm))))).other W85 (Or.inl (Nat.ne_of_lt (Nat.lt_of_lt_of_le Jp1_0.lt (Nat.le_of_eq g24.symm))))).other W86 (Or.inl (Nat.ne_of_lt (Nat.lt_of_lt_of_le Jp1_0.lt (Nat.le_of_eq g24.symm))))).other W87 (Or.inl (Nat.ne_of_lt (Nat.lt_of_lt_of_le Jp1_0.lt (Nat.le_of_eq g24.symm))))).other W88 (Or.inl (Nat.ne_of_lt (Nat.lt_of_lt_of_le Jp1_0.lt (Nat.le_of_eq g24.symm))))).other W89 (Or.inl (Nat.ne_of_lt (Nat.lt_of_lt_of_le Jp1_0.lt (Nat.le_of_eq g24.symm))))).other W90 (Or.inl (Nat.ne_of_lt (Nat.lt_of_lt_of_le Jp1_0.lt (Nat.le_of_eq g24.symm))))).other W92 (Or.inl (Nat.ne_of_lt (Nat.lt_of_lt_of_le Jp1_0.lt (Nat.le_of_eq g24.symm))))).other W93 (Or.inl (Nat.ne_of_lt (Nat.lt_of_lt_of_le Jp1_0.lt (Nat.le_of_eq g24.symm))))).other W94 (Or.inl (Nat.ne_of_lt (Nat.lt_of_lt_of_le Jp1_0.lt (Nat.le_of_eq g24.symm))))).other W95 (Or.inl (Nat.ne_of_lt (Nat.lt_of_lt_of_le Jp1_0.lt (Nat.le_of_eq g24.symm))))).other W96 (Or.inl (Nat.ne_of_lt (Nat.lt_of_lt_of_le Jp1_0.lt (Nat.le_of_eq g24.symm))))).other W97 (Or.inl (Nat.ne_of_lt (Nat.lt_of_lt_of_le Jp1_0.lt (Nat.le_of_eq g24.symm))))).other W98 (Or.inl (Nat.ne_of_lt (Nat.lt_of_lt_of_le Jp1_0.lt (Nat.le_of_eq g24.symm))))).other W99 (Or.inl (Nat.ne_of_lt (Nat.lt_of_lt_of_le Jp1_0.lt (Nat.le_of_eq g24.symm))))).other W100 (Or.inl (Nat.ne_of_lt (Nat.lt_of_lt_of_le Jp1_0.lt (Nat.le_of_eq g24.symm))))).other W101 (Or.inl (Nat.ne_of_lt (Nat.lt_of_lt_of_le Jp1_0.lt (Nat.le_of_eq g24.symm))))).other W103 (Or.inl (Nat.ne_of_lt (Nat.lt_of_lt_of_le Jp1_0.lt (Nat.le_of_eq g24.symm))))).other W104 (Or.inl (Nat.ne_of_lt (Nat.lt_of_lt_of_le Jp1_0.lt (Nat.le_of_eq g24.symm))))).other W105 (Or.inl (Nat.ne_of_lt (Nat.lt_of_lt_of_le Jp1_0.lt (Nat.le_of_eq g24.symm))))).other W106 (Or.inl (Nat.ne_of_lt (Nat.lt_of_lt_of_le Jp1_0.lt (Nat.le_of_eq g24.symm))))).other W107 (Or.inl (Nat.ne_of_lt (Nat.lt_of_lt_of_le Jp1_0.lt (Nat.le_of_eq g24.symm))))).other W108 (Or.inl (Nat.ne_of_lt (Nat.lt_of_lt_of_le Jp1_0.lt (Nat.le_of_eq g24.symm))))).other W109 (Or.inl (Nat.ne_of_lt (Nat.lt_of_lt_of_le Jp1_0.lt (Nat.le_of_eq g24.symm))))).other W110 (Or.inl (Nat.ne_of_lt (Nat.lt_of_lt_of_le Jp1_0.lt (Nat.le_of_eq g24.symm))))).other W111 (Or.inl (Nat.ne_of_lt (Nat.lt_of_lt_of_le Jp1_0.lt (Nat.le_of_eq g24.symm))))).other W112 (Or.inl (Nat.ne_of_lt (Nat.lt_of_lt_of_le Jp1_0.lt (Nat.le_of_eq g24.symm))))).other W114 (Or.inl (Nat.ne_of_lt (Nat.lt_of_lt_of_le Jp1_0.lt (Nat.le_of_eq g24.symm))))).other W115 (Or.inl (Nat.ne_of_lt (Nat.lt_of_lt_of_le Jp1_0.lt (Nat.le_of_eq g24.symm))))).other W116 (Or.inl (Nat.ne_of_lt (Nat.lt_of_lt_of_le Jp1_0.lt (Nat.le_of_eq g24.symm))))).other W117 (Or.inl (Nat.ne_of_lt (Nat.lt_of_lt_of_le Jp1_0.lt (Nat.le_of_eq g24.symm))))).other W118 (Or.inl (Nat.ne_of_lt (Nat.lt_of_lt_of_le Jp1_0.lt (Nat.le_of_eq g24.symm))))).other W119 (Or.inl (Nat.ne_of_lt (Nat.lt_of_lt_of_le Jp1_0.lt (Nat.le_of_eq g24.symm))))).other W120 (Or.inl (Nat.ne_of_lt (Nat.lt_of_lt_of_le Jp1_0.lt (Nat.le_of_eq g24.symm))))).other W121 (Or.inl (Nat.ne_of_lt (Nat.lt_of_lt_of_le Jp1_0.lt (Nat.le_of_eq g24.symm))))).other W122 (Or.inl (Nat.ne_of_lt (Nat.lt_of_lt_of_le Jp1_0.lt (Nat.le_of_eq g24.symm))))).other W123 (Or.inl (Nat.ne_of_lt (Nat.lt_of_lt_of_le Jp1_0.lt (Nat.le_of_eq g24.symm))))).other W125 (Or.inl (Nat.ne_of_lt (Nat.lt_of_lt_of_le Jp1_0.lt (Nat.le_of_eq g24.symm))))).other W126 (Or.inl (Nat.ne_of_lt (Nat.lt_of_lt_of_le Jp1_0.lt (Nat.le_of_eq g24.symm))))).other W127 (Or.inl (Nat.ne_of_lt (Nat.lt_of_lt_of_le Jp1_0.lt (Nat.le_of_eq g24.symm))))).other W128 (Or.inl (Nat.ne_of_lt (Nat.lt_of_lt_of_le Jp1_0.lt (Nat.le_of_eq g24.symm))))).other W129 (Or.inl (Nat.ne_of_lt (Nat.lt_of_lt_of_le Jp1_0.lt (Nat.le_of_eq g24.symm))))).other W130 (Or.inl (Nat.ne_of_lt (Nat.lt_of_lt_of_le Jp1_0.lt (Nat.le_of_eq g24.symm))))).other W131 (Or.inl (Nat.ne_of_lt (Nat.lt_of_lt_of_le Jp1_0.lt (Nat.le_of_eq g24.symm))))).other W132 (Or.inl (Nat.ne_of_lt (Nat.lt_of_lt_of_le Jp1_0.lt (Nat.le_of_eq g24.symm))))).other W133 (Or.inl (Nat.ne_of_lt (Nat.lt_of_lt_of_le Jp1_0.lt (Nat.le_of_eq g24.symm))))).other W134 (Or.inl (Nat.ne_of_lt (Nat.lt_of_lt_of_le Jp1_0.lt (Nat.le_of_eq g24.symm))))).other W136 (Or.inl (Nat.ne_of_lt (Nat.lt_of_lt_of_le Jp1_0.lt (Nat.le_of_eq g24.symm))))).other W137 (Or.inl (Nat.ne_of_lt (Nat.lt_of_lt_of_le Jp1_0.lt (Nat.le_of_eq g24.symm))))).other W138 (Or.inl (Nat.ne_of_lt (Nat.lt_of_lt_of_le Jp1_0.lt (Nat.le_of_eq g24.symm))))).other W139 (Or.inl (Nat.ne_of_lt (Nat.lt_of_lt_of_le Jp1_0.lt (Nat.le_of_eq g24.symm))))).other W140 (Or.inl (Nat.ne_of_lt (Nat.lt_of_lt_of_le Jp1_0.lt (Nat.le_of_eq g24.symm))))).other W141 (Or.inl (Nat.ne_of_lt (Nat.lt_of_lt_of_le Jp1_0.lt (Nat.le_of_eq g24.symm))))).other W142 (Or.inl (Nat.ne_of_lt (Nat.lt_of_lt_of_le Jp1_0.lt (Nat.le_of_eq g24.symm))))).other W143 (Or.inl (Nat.ne_of_lt (Nat.lt_of_lt_of_le Jp1_0.lt (Nat.le_of_eq g24.symm))))).other W144 (Or.inl (Nat.ne_of_lt (Nat.lt_of_lt_of_le Jp1_0.lt (Nat.le_of_eq g24.symm))))).other W145 (Or.inl (Nat.ne_of_lt (Nat.lt_of_lt_of_le Jp1_0.lt (Nat.le_of_eq g24.symm))))).other W147 (Or.inl (Nat.ne_of_lt (Nat.lt_of_lt_of_le Jp1_0.lt (Nat.le_of_eq g24.symm))))).other W148 (Or.inl (Nat.ne_of_lt (Nat.lt_of_lt_of_le Jp1_0.lt (Nat.le_of_eq g24.symm))))).other W149 (Or.inl (Nat.ne_of_lt (Nat.lt_of_lt_of_le Jp1_0.lt (Nat.le_of_eq g24.symm))))).other W150 (Or.inl (Nat.ne_of_lt (Nat.lt_of_lt_of_le Jp1_0.lt (Nat.le_of_eq g24.symm))))).other W151 (Or.inl (Nat.ne_of_lt (Nat.lt_of_lt_of_le Jp1_0.lt (Nat.le_of_eq g24.symm))))).other W152 (Or.inl (Nat.ne_of_lt (Nat.lt_of_lt_of_le Jp1_0.lt (Nat.le_of_eq g24.symm))))).other W153 (Or.inl (Nat.ne_of_lt (Nat.lt_of_lt_of_le Jp1_0.lt (Nat.le_of_eq g24.symm))))).other W154 (Or.inl (Nat.ne_of_lt (Nat.lt_of_lt_of_le Jp1_0.lt (Nat.le_of_eq g24.symm))))).other W155 (Or.inl (Nat.ne_of_lt (Nat.lt_of_lt_of_le Jp1_0.lt (Nat.le_of_eq g24.symm))))).other W156 (Or.inl (Nat.ne_of_lt (Nat.lt_of_lt_of_le Jp1_0.lt (Nat.le_of_eq g24.symm))))).other W158 (Or.inl (Nat.ne_of_lt (Nat.lt_of_lt_of_le Jp1_0.lt (Nat.le_of_eq g24.symm))))).other W159 (Or.inl (Nat.ne_of_lt (Nat.lt_of_lt_of_le Jp1_0.lt (Nat.le_of_eq g24.symm))))).other W160 (Or.inl (Nat.ne_of_lt (Nat.lt_of_lt_of_le Jp1_0.lt (Nat.le_of_eq g24.symm))))).other W161 (Or.inl (Nat.ne_of_lt (Nat.lt_of_lt_of_le Jp1_0.lt (Nat.le_of_eq g24.symm))))).other W162 (Or.inl (Nat.ne_of_lt (Nat.lt_of_lt_of_le Jp1_0.lt (Nat.le_of_eq g24.symm))))).other W163 (Or.inl (Nat.ne_of_lt (Nat.lt_of_lt_of_le Jp1_0.lt (Nat.le_of_eq g24.symm))))).other W164 (Or.inl (Nat.ne_of_lt (Nat.lt_of_lt_of_le Jp1_0.lt (Nat.le_of_eq g24.symm))))).other W165 (Or.inl (Nat.ne_of_lt (Nat.lt_of_lt_of_le Jp1_0.lt (Nat.le_of_eq g24.symm))))).other W166 (Or.inl (Nat.ne_of_lt (Nat.lt_of_lt_of_le Jp1_0.lt (Nat.le_of_eq g24.symm))))).other W167 (Or.inl (Nat.ne_of_lt (Nat.lt_of_lt_of_le Jp1_0.lt (Nat.le_of_eq g24.symm)))))
          exact ⟨(((p1.toUInt32 >>> ((2 : Int32) &&& 31).toUInt32).toInt32) % (130 : Int32)), T167, _, _, X167, e167, N167, K167, O167, f186, f187, V167, (own_lb3 _), cs185⟩
  obtain ⟨jl_169, Tj169, Lj169, hj169, Xj169, ej169, Nj169, Kj169, Oj169, J169_0, J169_1, J169_2, Jp169_0, cj169⟩ := jn169
  have cs189 : Steps p.tables e below (s₁.setTop (mkF m 0 #[.val (.int p0), .val (.int p1), .val (.int p2), .val (.int p3), .val (.int p4), .val (.int p5), .unset, .unset, .unset, .unset, .unset, .unset, .unset, .unset, .unset, .unset] [])) (Tj169.setTop (mkF m 955 #[.val (.int p0), .val (.int p1), .val (.int p2), .val (.int p3), .val (.int p4), .val (.int p5), .val (.int ((p0 &&& (2147483647 : Int32)) % (6 : Int32))), .val (.ref jw_1), .val (.int jd_1), .val (.int (48 : Int32)), .val (.ref fa24), .val (.int (p1 &&& (3 : Int32))), .val (.int jl_169), .unset, .unset, .unset] [(.int jd_1), (.int jl_169)])) := cj169.trans (by
    refine s_iload Xj169 hx (D at_951) rfl ?_
    refine s_iload Xj169 hx (D at_953) rfl ?_
    exact Steps.refl _)
  have jn188 : ∃ (jx_188 : Int32) (T : State) (L : List Loc) (h : Heap), Stand p l e room_1 s m #[(.int p0), (.int p1), (.int p2), (.int p3), (.int p4), (.int p5)] below meth c T L 1 130 ∧ T.heap = h ∧ Fr n0 L ∧ Keep h0 h [] ∧ Old Z n0 h ∧ Exa Z h jw_1 "com/example/packstone/packstone/model/ChecksumAlgorithm" ∧ Fld Z h jw_1 "com/example/packstone/packstone/model/ChecksumAlgorithm" "hexDigits" "I" (.int jd_1) ∧ ArfC Z h fa24 fk24 (130 : Int32) (ZF 130) ∧ ((jx_188 = 1 ∧ jl_169 = jd_1) ∨ (jx_188 = 0 ∧ ¬ jl_169 = jd_1)) ∧ Steps p.tables e below (s₁.setTop (mkF m 0 #[.val (.int p0), .val (.int p1), .val (.int p2), .val (.int p3), .val (.int p4), .val (.int p5), .unset, .unset, .unset, .unset, .unset, .unset, .unset, .unset, .unset, .unset] [])) (T.setTop (mkF m 965 #[.val (.int p0), .val (.int p1), .val (.int p2), .val (.int p3), .val (.int p4), .val (.int p5), .val (.int ((p0 &&& (2147483647 : Int32)) % (6 : Int32))), .val (.ref jw_1), .val (.int jd_1), .val (.int (48 : Int32)), .val (.ref fa24), .val (.int (p1 &&& (3 : Int32))), .val (.int jl_169), .val (.int jx_188), .unset, .unset] [])) := by
    by_cases hc190 : jl_169 = jd_1
    · have cs191 : Steps p.tables e below (s₁.setTop (mkF m 0 #[.val (.int p0), .val (.int p1), .val (.int p2), .val (.int p3), .val (.int p4), .val (.int p5), .unset, .unset, .unset, .unset, .unset, .unset, .unset, .unset, .unset, .unset] [])) (Tj169.setTop (mkF m 965 #[.val (.int p0), .val (.int p1), .val (.int p2), .val (.int p3), .val (.int p4), .val (.int p5), .val (.int ((p0 &&& (2147483647 : Int32)) % (6 : Int32))), .val (.ref jw_1), .val (.int jd_1), .val (.int (48 : Int32)), .val (.ref fa24), .val (.int (p1 &&& (3 : Int32))), .val (.int jl_169), .val (.int (1 : Int32)), .unset, .unset] [])) := cs189.trans (by
        refine s_icmpNo Xj169 hx (D at_955) (teq hc190).2 ?_
        refine s_iconst Xj169 hx (1 : Int32) (D at_958) rfl ?_
        refine s_goto Xj169 hx 963 (D at_959) (of_decide_eq_true rfl) rfl ?_
        refine s_istore Xj169 hx (D at_963) (l' := #[.val (.int p0), .val (.int p1), .val (.int p2), .val (.int p3), .val (.int p4), .val (.int p5), .val (.int ((p0 &&& (2147483647 : Int32)) % (6 : Int32))), .val (.ref jw_1), .val (.int jd_1), .val (.int (48 : Int32)), .val (.ref fa24), .val (.int (p1 &&& (3 : Int32))), .val (.int jl_169), .val (.int (1 : Int32)), .unset, .unset]) rfl ?_
        exact Steps.refl _)
      exact ⟨(1 : Int32), Tj169, _, _, Xj169, ej169, Nj169, Kj169, Oj169, J169_0, J169_1, J169_2, (Or.inl ⟨rfl, hc190⟩), cs191⟩
    · have cs192 : Steps p.tables e below (s₁.setTop (mkF m 0 #[.val (.int p0), .val (.int p1), .val (.int p2), .val (.int p3), .val (.int p4), .val (.int p5), .unset, .unset, .unset, .unset, .unset, .unset, .unset, .unset, .unset, .unset] [])) (Tj169.setTop (mkF m 965 #[.val (.int p0), .val (.int p1), .val (.int p2), .val (.int p3), .val (.int p4), .val (.int p5), .val (.int ((p0 &&& (2147483647 : Int32)) % (6 : Int32))), .val (.ref jw_1), .val (.int jd_1), .val (.int (48 : Int32)), .val (.ref fa24), .val (.int (p1 &&& (3 : Int32))), .val (.int jl_169), .val (.int (0 : Int32)), .unset, .unset] [])) := cs189.trans (by
        refine s_icmpYes Xj169 hx 962 (D at_955) (feq hc190).2 (of_decide_eq_true rfl) rfl ?_
        refine s_iconst Xj169 hx (0 : Int32) (D at_962) rfl ?_
        refine s_istore Xj169 hx (D at_963) (l' := #[.val (.int p0), .val (.int p1), .val (.int p2), .val (.int p3), .val (.int p4), .val (.int p5), .val (.int ((p0 &&& (2147483647 : Int32)) % (6 : Int32))), .val (.ref jw_1), .val (.int jd_1), .val (.int (48 : Int32)), .val (.ref fa24), .val (.int (p1 &&& (3 : Int32))), .val (.int jl_169), .val (.int (0 : Int32)), .unset, .unset]) rfl ?_
        exact Steps.refl _)
      exact ⟨(0 : Int32), Tj169, _, _, Xj169, ej169, Nj169, Kj169, Oj169, J169_0, J169_1, J169_2, (Or.inr ⟨rfl, hc190⟩), cs192⟩
  obtain ⟨jx_188, Tj188, Lj188, hj188, Xj188, ej188, Nj188, Kj188, Oj188, J188_0, J188_1, J188_2, Jp188_0, cj188⟩ := jn188
  have cs194 : Steps p.tables e below (s₁.setTop (mkF m 0 #[.val (.int p0), .val (.int p1), .val (.int p2), .val (.int p3), .val (.int p4), .val (.int p5), .unset, .unset, .unset, .unset, .unset, .unset, .unset, .unset, .unset, .unset] [])) (Tj188.setTop (mkF m 967 #[.val (.int p0), .val (.int p1), .val (.int p2), .val (.int p3), .val (.int p4), .val (.int p5), .val (.int ((p0 &&& (2147483647 : Int32)) % (6 : Int32))), .val (.ref jw_1), .val (.int jd_1), .val (.int (48 : Int32)), .val (.ref fa24), .val (.int (p1 &&& (3 : Int32))), .val (.int jl_169), .val (.int jx_188), .unset, .unset] [(.int jl_169)])) := cj188.trans (by
    refine s_iload Xj188 hx (D at_965) rfl ?_
    exact Steps.refl _)
  have jn193 : ∃ (jF_193 : Nat → Int32) (jz_193 : Int32) (zs14_193 : Slot) (zs15_193 : Slot) (T : State) (L : List Loc) (h : Heap), Stand p l e room_1 s m #[(.int p0), (.int p1), (.int p2), (.int p3), (.int p4), (.int p5)] below meth c T L 1 130 ∧ T.heap = h ∧ Fr n0 L ∧ Keep h0 h [] ∧ Old Z n0 h ∧ Exa Z h jw_1 "com/example/packstone/packstone/model/ChecksumAlgorithm" ∧ Fld Z h jw_1 "com/example/packstone/packstone/model/ChecksumAlgorithm" "hexDigits" "I" (.int jd_1) ∧ ArfC Z h fa24 fk24 (130 : Int32) jF_193 ∧ (∀ k, ¬ jF_193 k < 0 ∧ ¬ (255 : Int32) < jF_193 k) ∧ EXP jz_193 jl_169 jd_1 jF_193 ∧ (zs14_193 = .unset ∨ ∃ a : Int32, zs14_193 = .val (.int a)) ∧ (zs15_193 = .unset ∨ ∃ a : Int32, zs15_193 = .val (.int a)) ∧ Steps p.tables e below (s₁.setTop (mkF m 0 #[.val (.int p0), .val (.int p1), .val (.int p2), .val (.int p3), .val (.int p4), .val (.int p5), .unset, .unset, .unset, .unset, .unset, .unset, .unset, .unset, .unset, .unset] [])) (T.setTop (mkF m 1046 #[.val (.int p0), .val (.int p1), .val (.int p2), .val (.int p3), .val (.int p4), .val (.int p5), .val (.int ((p0 &&& (2147483647 : Int32)) % (6 : Int32))), .val (.ref jw_1), .val (.int jd_1), .val (.int (48 : Int32)), .val (.ref fa24), .val (.int (p1 &&& (3 : Int32))), .val (.int jl_169), .val (.int jz_193), zs14_193, zs15_193] [])) := by
    by_cases hc195 : (0 : Int32) < jl_169
    · obtain ⟨cl196, Ar196, q196, S196, Nn196, H196, G196⟩ := id J188_2
      have hin196 : ¬ (((p2 &&& (2147483647 : Int32)) % jl_169) < 0 ∨ cl196.slots.size ≤ (((p2 &&& (2147483647 : Int32)) % jl_169)).toNatClampNeg) := inb_of S196 (own_remb Jp169_0 hc195)
      obtain ⟨T196, h196, X196, e196, W196, st196⟩ := stC Xj188 hx hZ ej188 Ar196 (j := ((p2 &&& (2147483647 : Int32)) % jl_169)) hin196 (g := (mkF m 999 #[.val (.int p0), .val (.int p1), .val (.int p2), .val (.int p3), .val (.int p4), .val (.int p5), .val (.int ((p0 &&& (2147483647 : Int32)) % (6 : Int32))), .val (.ref jw_1), .val (.int jd_1), .val (.int (48 : Int32)), .val (.ref fa24), .val (.int (p1 &&& (3 : Int32))), .val (.int jl_169), .val (.int jx_188), .val (.int ((p2 &&& (2147483647 : Int32)) % jl_169)), .val (.int ((p4 &&& (2147483647 : Int32)) % jl_169))] [(.int ((p3 &&& (255 : Int32)).toUInt32.toUInt16.toUInt32.toInt32)), (.int ((p2 &&& (2147483647 : Int32)) % jl_169)), (.ref fa24)])) rfl rfl (D at_999)
      have V196 : ArfC Z h196 fa24 fk24 (130 : Int32) (upd (ZF 130) (((p2 &&& (2147483647 : Int32)) % jl_169)).toNatClampNeg (nar .char ((p3 &&& (255 : Int32)).toUInt32.toUInt16.toUInt32.toInt32))) := ArfC.set Ar196 q196 S196 Nn196 H196 W196
      have N196 := Fr.snoc X196 Nj188 gn_fa24
      have Zn196 : n0 ≤ h196.size := Nat.le_trans (own_oldsz Oj188) (Keep.of_wr W196).1
      have K196 : Keep h0 h196 [] := Kj188.wr W196 (Or.inr gh_fa24)
      have O196 := Oj188.wr W196 gn_fa24
      obtain ⟨cl197, Ar197, q197, S197, Nn197, H197, G197⟩ := id V196
      have hin197 : ¬ (((p4 &&& (2147483647 : Int32)) % jl_169) < 0 ∨ cl197.slots.size ≤ (((p4 &&& (2147483647 : Int32)) % jl_169)).toNatClampNeg) := inb_of S197 (own_remb Jp169_0 hc195)
      obtain ⟨T197, h197, X197, e197, W197, st197⟩ := stC X196 hx hZ e196 Ar197 (j := ((p4 &&& (2147483647 : Int32)) % jl_169)) hin197 (g := (mkF m 1011 #[.val (.int p0), .val (.int p1), .val (.int p2), .val (.int p3), .val (.int p4), .val (.int p5), .val (.int ((p0 &&& (2147483647 : Int32)) % (6 : Int32))), .val (.ref jw_1), .val (.int jd_1), .val (.int (48 : Int32)), .val (.ref fa24), .val (.int (p1 &&& (3 : Int32))), .val (.int jl_169), .val (.int jx_188), .val (.int ((p2 &&& (2147483647 : Int32)) % jl_169)), .val (.int ((p4 &&& (2147483647 : Int32)) % jl_169))] [(.int ((p5 &&& (255 : Int32)).toUInt32.toUInt16.toUInt32.toInt32)), (.int ((p4 &&& (2147483647 : Int32)) % jl_169)), (.ref fa24)])) rfl rfl (D at_1011)
      have V197 : ArfC Z h197 fa24 fk24 (130 : Int32) (upd (upd (ZF 130) (((p2 &&& (2147483647 : Int32)) % jl_169)).toNatClampNeg (nar .char ((p3 &&& (255 : Int32)).toUInt32.toUInt16.toUInt32.toInt32))) (((p4 &&& (2147483647 : Int32)) % jl_169)).toNatClampNeg (nar .char ((p5 &&& (255 : Int32)).toUInt32.toUInt16.toUInt32.toInt32))) := ArfC.set Ar197 q197 S197 Nn197 H197 W197
      have N197 := Fr.snoc X197 N196 gn_fa24
      have Zn197 : n0 ≤ h197.size := Nat.le_trans Zn196 (Keep.of_wr W197).1
      have K197 : Keep h0 h197 [] := K196.wr W197 (Or.inr gh_fa24)
      have O197 := O196.wr W197 gn_fa24
      have cs198 : Steps p.tables e below (s₁.setTop (mkF m 0 #[.val (.int p0), .val (.int p1), .val (.int p2), .val (.int p3), .val (.int p4), .val (.int p5), .unset, .unset, .unset, .unset, .unset, .unset, .unset, .unset, .unset, .unset] [])) (T197.setTop (mkF m 1014 #[.val (.int p0), .val (.int p1), .val (.int p2), .val (.int p3), .val (.int p4), .val (.int p5), .val (.int ((p0 &&& (2147483647 : Int32)) % (6 : Int32))), .val (.ref jw_1), .val (.int jd_1), .val (.int (48 : Int32)), .val (.ref fa24), .val (.int (p1 &&& (3 : Int32))), .val (.int jl_169), .val (.int jx_188), .val (.int ((p2 &&& (2147483647 : Int32)) % jl_169)), .val (.int ((p4 &&& (2147483647 : Int32)) % jl_169))] [(.int jx_188)])) := cs194.trans (by
        refine s_ifNo Xj188 hx (D at_967) ((if0 _ _).trans (tlt hc195).2.2.2) ?_
        refine s_iloadN Xj188 hx (D at_970) rfl ?_
        refine Xj188.ldcInt hx hown (mvT hZ (wd 0 rfl)) (g := (mkF m 971 #[.val (.int p0), .val (.int p1), .val (.int p2), .val (.int p3), .val (.int p4), .val (.int p5), .val (.int ((p0 &&& (2147483647 : Int32)) % (6 : Int32))), .val (.ref jw_1), .val (.int jd_1), .val (.int (48 : Int32)), .val (.ref fa24), .val (.int (p1 &&& (3 : Int32))), .val (.int jl_169), .val (.int jx_188), .unset, .unset] [(.int p2)])) rfl (D at_971) _ ?_
        refine s_iand Xj188 hx (D at_973) rfl ?_
        refine s_iload Xj188 hx (D at_974) rfl ?_
        refine s_irem Xj188 hx (D at_976) (own_nz0 hc195) rfl ?_
        refine s_istore Xj188 hx (D at_977) (l' := #[.val (.int p0), .val (.int p1), .val (.int p2), .val (.int p3), .val (.int p4), .val (.int p5), .val (.int ((p0 &&& (2147483647 : Int32)) % (6 : Int32))), .val (.ref jw_1), .val (.int jd_1), .val (.int (48 : Int32)), .val (.ref fa24), .val (.int (p1 &&& (3 : Int32))), .val (.int jl_169), .val (.int jx_188), .val (.int ((p2 &&& (2147483647 : Int32)) % jl_169)), .unset]) rfl ?_
        refine s_iload Xj188 hx (D at_979) rfl ?_
        refine Xj188.ldcInt hx hown (mvT hZ (wd 0 rfl)) (g := (mkF m 981 #[.val (.int p0), .val (.int p1), .val (.int p2), .val (.int p3), .val (.int p4), .val (.int p5), .val (.int ((p0 &&& (2147483647 : Int32)) % (6 : Int32))), .val (.ref jw_1), .val (.int jd_1), .val (.int (48 : Int32)), .val (.ref fa24), .val (.int (p1 &&& (3 : Int32))), .val (.int jl_169), .val (.int jx_188), .val (.int ((p2 &&& (2147483647 : Int32)) % jl_169)), .unset] [(.int p4)])) rfl (D at_981) _ ?_
        refine s_iand Xj188 hx (D at_983) rfl ?_
        refine s_iload Xj188 hx (D at_984) rfl ?_
        refine s_irem Xj188 hx (D at_986) (own_nz0 hc195) rfl ?_
        refine s_istore Xj188 hx (D at_987) (l' := #[.val (.int p0), .val (.int p1), .val (.int p2), .val (.int p3), .val (.int p4), .val (.int p5), .val (.int ((p0 &&& (2147483647 : Int32)) % (6 : Int32))), .val (.ref jw_1), .val (.int jd_1), .val (.int (48 : Int32)), .val (.ref fa24), .val (.int (p1 &&& (3 : Int32))), .val (.int jl_169), .val (.int jx_188), .val (.int ((p2 &&& (2147483647 : Int32)) % jl_169)), .val (.int ((p4 &&& (2147483647 : Int32)) % jl_169))]) rfl ?_
        refine s_aload Xj188 hx (D at_989) rfl rfl ?_
        refine s_iload Xj188 hx (D at_991) rfl ?_
        refine s_iloadN Xj188 hx (D at_993) rfl ?_
        refine s_sipush Xj188 hx (255 : Int32) (D at_994) rfl ?_
        refine s_iand Xj188 hx (D at_997) rfl ?_
        refine s_i2c Xj188 hx (D at_998) rfl ?_
        refine st196 _ ?_
        refine s_aload X196 hx (D at_1000) rfl rfl ?_
        refine s_iload X196 hx (D at_1002) rfl ?_
        refine s_iload X196 hx (D at_1004) rfl ?_
        refine s_sipush X196 hx (255 : Int32) (D at_1006) rfl ?_
        refine s_iand X196 hx (D at_1009) rfl ?_
        refine s_i2c X196 hx (D at_1010) rfl ?_
        refine st197 _ ?_
        refine s_iload X197 hx (D at_1012) rfl ?_
        exact Steps.refl _)
      by_cases hc199 : jx_188 = (0 : Int32)
      · have cs200 : Steps p.tables e below (s₁.setTop (mkF m 0 #[.val (.int p0), .val (.int p1), .val (.int p2), .val (.int p3), .val (.int p4), .val (.int p5), .unset, .unset, .unset, .unset, .unset, .unset, .unset, .unset, .unset, .unset] [])) (T197.setTop (mkF m 1046 #[.val (.int p0), .val (.int p1), .val (.int p2), .val (.int p3), .val (.int p4), .val (.int p5), .val (.int ((p0 &&& (2147483647 : Int32)) % (6 : Int32))), .val (.ref jw_1), .val (.int jd_1), .val (.int (48 : Int32)), .val (.ref fa24), .val (.int (p1 &&& (3 : Int32))), .val (.int jl_169), .val (.int (0 : Int32)), .val (.int ((p2 &&& (2147483647 : Int32)) % jl_169)), .val (.int ((p4 &&& (2147483647 : Int32)) % jl_169))] [])) := cs198.trans (by
          refine s_ifYes X197 hx 1043 (D at_1014) ((if0 _ _).trans (teq hc199).1) (of_decide_eq_true rfl) rfl ?_
          refine s_iconst X197 hx (0 : Int32) (D at_1043) rfl ?_
          refine s_istore X197 hx (D at_1044) (l' := #[.val (.int p0), .val (.int p1), .val (.int p2), .val (.int p3), .val (.int p4), .val (.int p5), .val (.int ((p0 &&& (2147483647 : Int32)) % (6 : Int32))), .val (.ref jw_1), .val (.int jd_1), .val (.int (48 : Int32)), .val (.ref fa24), .val (.int (p1 &&& (3 : Int32))), .val (.int jl_169), .val (.int (0 : Int32)), .val (.int ((p2 &&& (2147483647 : Int32)) % jl_169)), .val (.int ((p4 &&& (2147483647 : Int32)) % jl_169))]) rfl ?_
          exact Steps.refl _)
        have f201 := ((J188_0.wr W196).wr W197)
        have f202 := ((J188_1.other W196 (Or.inl (Nat.ne_of_lt (Nat.lt_of_lt_of_le Jp1_0.lt (Nat.le_of_eq g24.symm))))).other W197 (Or.inl (Nat.ne_of_lt (Nat.lt_of_lt_of_le Jp1_0.lt (Nat.le_of_eq g24.symm)))))
        exact ⟨(upd (upd (ZF 130) (((p2 &&& (2147483647 : Int32)) % jl_169)).toNatClampNeg (nar .char ((p3 &&& (255 : Int32)).toUInt32.toUInt16.toUInt32.toInt32))) (((p4 &&& (2147483647 : Int32)) % jl_169)).toNatClampNeg (nar .char ((p5 &&& (255 : Int32)).toUInt32.toUInt16.toUInt32.toInt32))), (0 : Int32), _, _, T197, _, _, X197, e197, N197, K197, O197, f201, f202, V197, (own_cf own_zc (own_c255 _) (own_c255 _)), (own_exa Jp188_0 hc199), (Or.inr ⟨_, rfl⟩), (Or.inr ⟨_, rfl⟩), cs200⟩
      · have cf203 := own_cf (i := (((p2 &&& (2147483647 : Int32)) % jl_169)).toNatClampNeg) (j := (((p4 &&& (2147483647 : Int32)) % jl_169)).toNatClampNeg) own_zc (own_c255 p3) (own_c255 p5)
        obtain ⟨cl204, Ar204, q204, S204, Nn204, H204, G204⟩ := id V197
        have hin204 : ¬ (((p2 &&& (2147483647 : Int32)) % jl_169) < 0 ∨ cl204.slots.size ≤ (((p2 &&& (2147483647 : Int32)) % jl_169)).toNatClampNeg) := inb_of S204 (own_remb Jp169_0 hc195)
        obtain ⟨y204, hy204⟩ : ∃ y, y = (upd (upd (ZF 130) (((p2 &&& (2147483647 : Int32)) % jl_169)).toNatClampNeg (nar .char ((p3 &&& (255 : Int32)).toUInt32.toUInt16.toUInt32.toInt32))) (((p4 &&& (2147483647 : Int32)) % jl_169)).toNatClampNeg (nar .char ((p5 &&& (255 : Int32)).toUInt32.toUInt16.toUInt32.toInt32))) (((p2 &&& (2147483647 : Int32)) % jl_169)).toNatClampNeg := ⟨_, rfl⟩
        have hat204 := ArfC.get H204 hin204 hy204
        obtain ⟨_, _, ⟨T205, L205, k205, n205⟩, -, X205, ⟨Lc205, hQ205, l205, y205, z205⟩, st205⟩ := Jvm.LawKit.callS X197 hx (y := (⟨"com/example/packstone/packstone/model/ChecksumAlgorithmIsChecksumPinLaw", "isHex", "(C)Z"⟩ : MethodName)) hown (mvT hZ (wd 71 rfl)) (mvT hZ (wd 72 rfl)) (mvT hZ (wd 73 rfl)) (mvT hZ (wd 74 rfl)) (by decide) (backOf (W := 0) (rm_isHex l Z a0 hw [] y204 w_MD5 w_SHA384 w_SHA256 w_SHA1 w_SHA224 w_SHA512 cs sf h197 n0 O197 WZ (by rw [hy204]; exact cf203 _)) hZ (wd 74 rfl) (wd 73 rfl) (by decide) (by decide)) (g := (mkF m 1022 #[.val (.int p0), .val (.int p1), .val (.int p2), .val (.int p3), .val (.int p4), .val (.int p5), .val (.int ((p0 &&& (2147483647 : Int32)) % (6 : Int32))), .val (.ref jw_1), .val (.int jd_1), .val (.int (48 : Int32)), .val (.ref fa24), .val (.int (p1 &&& (3 : Int32))), .val (.int jl_169), .val (.int jx_188), .val (.int ((p2 &&& (2147483647 : Int32)) % jl_169)), .val (.int ((p4 &&& (2147483647 : Int32)) % jl_169))] [(.int y204)])) rfl (by rw [hml]; rfl) (argsL := [(.int y204)]) (rest := []) (lenOf pd_14 rfl) rfl (by show 2 * 0 + _ ≤ _; exact Nat.le_of_eq rfl) (D at_1022) (fun _ _ => ⟨rfl, e197, (by decide : 1 + 0 ≤ _), (by decide : 130 + 0 ≤ _)⟩)
        dsimp only [Pt.U, Pt.locs, Pt.cells, Pt.slots] at X205 l205 y205 z205 st205 hQ205
        subst l205 y205 z205
        obtain ⟨rfl, N205q, e205⟩ := hQ205
        have N205 := Fr.app N197 N205q
        have cs206 : Steps p.tables e below (s₁.setTop (mkF m 0 #[.val (.int p0), .val (.int p1), .val (.int p2), .val (.int p3), .val (.int p4), .val (.int p5), .unset, .unset, .unset, .unset, .unset, .unset, .unset, .unset, .unset, .unset] [])) (T205.setTop (mkF m 1025 #[.val (.int p0), .val (.int p1), .val (.int p2), .val (.int p3), .val (.int p4), .val (.int p5), .val (.int ((p0 &&& (2147483647 : Int32)) % (6 : Int32))), .val (.ref jw_1), .val (.int jd_1), .val (.int (48 : Int32)), .val (.ref fa24), .val (.int (p1 &&& (3 : Int32))), .val (.int jl_169), .val (.int jx_188), .val (.int ((p2 &&& (2147483647 : Int32)) % jl_169)), .val (.int ((p4 &&& (2147483647 : Int32)) % jl_169))] [(.int (if HXb y204 then (1 : Int32) else (0 : Int32)))])) := cs198.trans (by
          refine s_ifNo X197 hx (D at_1014) ((if0 _ _).trans (feq hc199).1) ?_
          refine s_aload X197 hx (D at_1017) rfl rfl ?_
          refine s_iload X197 hx (D at_1019) rfl ?_
          refine X197.caload hx (j := ((p2 &&& (2147483647 : Int32)) % jl_169)) (v := (.int y204)) (by rw [e197]; exact (Ar204).1) (State.isArrayOf_alike hZ.alike (Ar204).2.1) (Ar204).2.2 hin204 hat204 (g := (mkF m 1021 #[.val (.int p0), .val (.int p1), .val (.int p2), .val (.int p3), .val (.int p4), .val (.int p5), .val (.int ((p0 &&& (2147483647 : Int32)) % (6 : Int32))), .val (.ref jw_1), .val (.int jd_1), .val (.int (48 : Int32)), .val (.ref fa24), .val (.int (p1 &&& (3 : Int32))), .val (.int jl_169), .val (.int jx_188), .val (.int ((p2 &&& (2147483647 : Int32)) % jl_169)), .val (.int ((p4 &&& (2147483647 : Int32)) % jl_169))] [(.int ((p2 &&& (2147483647 : Int32)) % jl_169)), (.ref fa24)])) rfl rfl (D at_1021) _ ?_
          refine st205 _ ?_
          exact Steps.refl _)
        by_cases hc207 : (if HXb y204 then (1 : Int32) else (0 : Int32)) = (0 : Int32)
        · have cs208 : Steps p.tables e below (s₁.setTop (mkF m 0 #[.val (.int p0), .val (.int p1), .val (.int p2), .val (.int p3), .val (.int p4), .val (.int p5), .unset, .unset, .unset, .unset, .unset, .unset, .unset, .unset, .unset, .unset] [])) (T205.setTop (mkF m 1046 #[.val (.int p0), .val (.int p1), .val (.int p2), .val (.int p3), .val (.int p4), .val (.int p5), .val (.int ((p0 &&& (2147483647 : Int32)) % (6 : Int32))), .val (.ref jw_1), .val (.int jd_1), .val (.int (48 : Int32)), .val (.ref fa24), .val (.int (p1 &&& (3 : Int32))), .val (.int jl_169), .val (.int (0 : Int32)), .val (.int ((p2 &&& (2147483647 : Int32)) % jl_169)), .val (.int ((p4 &&& (2147483647 : Int32)) % jl_169))] [])) := cs206.trans (by
            refine s_ifYes X205 hx 1043 (D at_1025) ((if0 _ _).trans (teq hc207).1) (of_decide_eq_true rfl) rfl ?_
            refine s_iconst X205 hx (0 : Int32) (D at_1043) rfl ?_
            refine s_istore X205 hx (D at_1044) (l' := #[.val (.int p0), .val (.int p1), .val (.int p2), .val (.int p3), .val (.int p4), .val (.int p5), .val (.int ((p0 &&& (2147483647 : Int32)) % (6 : Int32))), .val (.ref jw_1), .val (.int jd_1), .val (.int (48 : Int32)), .val (.ref fa24), .val (.int (p1 &&& (3 : Int32))), .val (.int jl_169), .val (.int (0 : Int32)), .val (.int ((p2 &&& (2147483647 : Int32)) % jl_169)), .val (.int ((p4 &&& (2147483647 : Int32)) % jl_169))]) rfl ?_
            exact Steps.refl _)
          have f209 := ((J188_0.wr W196).wr W197)
          have f210 := ((J188_1.other W196 (Or.inl (Nat.ne_of_lt (Nat.lt_of_lt_of_le Jp1_0.lt (Nat.le_of_eq g24.symm))))).other W197 (Or.inl (Nat.ne_of_lt (Nat.lt_of_lt_of_le Jp1_0.lt (Nat.le_of_eq g24.symm)))))
          exact ⟨(upd (upd (ZF 130) (((p2 &&& (2147483647 : Int32)) % jl_169)).toNatClampNeg (nar .char ((p3 &&& (255 : Int32)).toUInt32.toUInt16.toUInt32.toInt32))) (((p4 &&& (2147483647 : Int32)) % jl_169)).toNatClampNeg (nar .char ((p5 &&& (255 : Int32)).toUInt32.toUInt16.toUInt32.toInt32))), (0 : Int32), _, _, T205, _, _, X205, e205, N205, K197, O197, f209, f210, V197, (own_cf own_zc (own_c255 _) (own_c255 _)), (own_exb (own_remn Jp169_0 hc195) (own_itb.mp hc207) hy204), (Or.inr ⟨_, rfl⟩), (Or.inr ⟨_, rfl⟩), cs208⟩
        · obtain ⟨cl211, Ar211, q211, S211, Nn211, H211, G211⟩ := id V197
          have hin211 : ¬ (((p4 &&& (2147483647 : Int32)) % jl_169) < 0 ∨ cl211.slots.size ≤ (((p4 &&& (2147483647 : Int32)) % jl_169)).toNatClampNeg) := inb_of S211 (own_remb Jp169_0 hc195)
          obtain ⟨y211, hy211⟩ : ∃ y, y = (upd (upd (ZF 130) (((p2 &&& (2147483647 : Int32)) % jl_169)).toNatClampNeg (nar .char ((p3 &&& (255 : Int32)).toUInt32.toUInt16.toUInt32.toInt32))) (((p4 &&& (2147483647 : Int32)) % jl_169)).toNatClampNeg (nar .char ((p5 &&& (255 : Int32)).toUInt32.toUInt16.toUInt32.toInt32))) (((p4 &&& (2147483647 : Int32)) % jl_169)).toNatClampNeg := ⟨_, rfl⟩
          have hat211 := ArfC.get H211 hin211 hy211
          obtain ⟨_, _, ⟨T212, L212, k212, n212⟩, -, X212, ⟨Lc212, hQ212, l212, y212, z212⟩, st212⟩ := Jvm.LawKit.callS X205 hx (y := (⟨"com/example/packstone/packstone/model/ChecksumAlgorithmIsChecksumPinLaw", "isHex", "(C)Z"⟩ : MethodName)) hown (mvT hZ (wd 71 rfl)) (mvT hZ (wd 72 rfl)) (mvT hZ (wd 73 rfl)) (mvT hZ (wd 74 rfl)) (by decide) (backOf (W := 0) (rm_isHex l Z a0 hw [] y211 w_MD5 w_SHA384 w_SHA256 w_SHA1 w_SHA224 w_SHA512 cs sf h197 n0 O197 WZ (by rw [hy211]; exact cf203 _)) hZ (wd 74 rfl) (wd 73 rfl) (by decide) (by decide)) (g := (mkF m 1033 #[.val (.int p0), .val (.int p1), .val (.int p2), .val (.int p3), .val (.int p4), .val (.int p5), .val (.int ((p0 &&& (2147483647 : Int32)) % (6 : Int32))), .val (.ref jw_1), .val (.int jd_1), .val (.int (48 : Int32)), .val (.ref fa24), .val (.int (p1 &&& (3 : Int32))), .val (.int jl_169), .val (.int jx_188), .val (.int ((p2 &&& (2147483647 : Int32)) % jl_169)), .val (.int ((p4 &&& (2147483647 : Int32)) % jl_169))] [(.int y211)])) rfl (by rw [hml]; rfl) (argsL := [(.int y211)]) (rest := []) (lenOf pd_14 rfl) rfl (by show 2 * 0 + _ ≤ _; exact Nat.le_of_eq rfl) (D at_1033) (fun _ _ => ⟨rfl, e205, (by decide : 1 + 0 ≤ _), (by decide : 130 + 0 ≤ _)⟩)
          dsimp only [Pt.U, Pt.locs, Pt.cells, Pt.slots] at X212 l212 y212 z212 st212 hQ212
          subst l212 y212 z212
          obtain ⟨rfl, N212q, e212⟩ := hQ212
          have N212 := Fr.app N205 N212q
          have cs213 : Steps p.tables e below (s₁.setTop (mkF m 0 #[.val (.int p0), .val (.int p1), .val (.int p2), .val (.int p3), .val (.int p4), .val (.int p5), .unset, .unset, .unset, .unset, .unset, .unset, .unset, .unset, .unset, .unset] [])) (T212.setTop (mkF m 1036 #[.val (.int p0), .val (.int p1), .val (.int p2), .val (.int p3), .val (.int p4), .val (.int p5), .val (.int ((p0 &&& (2147483647 : Int32)) % (6 : Int32))), .val (.ref jw_1), .val (.int jd_1), .val (.int (48 : Int32)), .val (.ref fa24), .val (.int (p1 &&& (3 : Int32))), .val (.int jl_169), .val (.int jx_188), .val (.int ((p2 &&& (2147483647 : Int32)) % jl_169)), .val (.int ((p4 &&& (2147483647 : Int32)) % jl_169))] [(.int (if HXb y211 then (1 : Int32) else (0 : Int32)))])) := cs206.trans (by
            refine s_ifNo X205 hx (D at_1025) ((if0 _ _).trans (feq hc207).1) ?_
            refine s_aload X205 hx (D at_1028) rfl rfl ?_
            refine s_iload X205 hx (D at_1030) rfl ?_
            refine X205.caload hx (j := ((p4 &&& (2147483647 : Int32)) % jl_169)) (v := (.int y211)) (by rw [e205]; exact (Ar211).1) (State.isArrayOf_alike hZ.alike (Ar211).2.1) (Ar211).2.2 hin211 hat211 (g := (mkF m 1032 #[.val (.int p0), .val (.int p1), .val (.int p2), .val (.int p3), .val (.int p4), .val (.int p5), .val (.int ((p0 &&& (2147483647 : Int32)) % (6 : Int32))), .val (.ref jw_1), .val (.int jd_1), .val (.int (48 : Int32)), .val (.ref fa24), .val (.int (p1 &&& (3 : Int32))), .val (.int jl_169), .val (.int jx_188), .val (.int ((p2 &&& (2147483647 : Int32)) % jl_169)), .val (.int ((p4 &&& (2147483647 : Int32)) % jl_169))] [(.int ((p4 &&& (2147483647 : Int32)) % jl_169)), (.ref fa24)])) rfl rfl (D at_1032) _ ?_
            refine st212 _ ?_
            exact Steps.refl _)
          by_cases hc214 : (if HXb y211 then (1 : Int32) else (0 : Int32)) = (0 : Int32)
          · have cs215 : Steps p.tables e below (s₁.setTop (mkF m 0 #[.val (.int p0), .val (.int p1), .val (.int p2), .val (.int p3), .val (.int p4), .val (.int p5), .unset, .unset, .unset, .unset, .unset, .unset, .unset, .unset, .unset, .unset] [])) (T212.setTop (mkF m 1046 #[.val (.int p0), .val (.int p1), .val (.int p2), .val (.int p3), .val (.int p4), .val (.int p5), .val (.int ((p0 &&& (2147483647 : Int32)) % (6 : Int32))), .val (.ref jw_1), .val (.int jd_1), .val (.int (48 : Int32)), .val (.ref fa24), .val (.int (p1 &&& (3 : Int32))), .val (.int jl_169), .val (.int (0 : Int32)), .val (.int ((p2 &&& (2147483647 : Int32)) % jl_169)), .val (.int ((p4 &&& (2147483647 : Int32)) % jl_169))] [])) := cs213.trans (by
              refine s_ifYes X212 hx 1043 (D at_1036) ((if0 _ _).trans (teq hc214).1) (of_decide_eq_true rfl) rfl ?_
              refine s_iconst X212 hx (0 : Int32) (D at_1043) rfl ?_
              refine s_istore X212 hx (D at_1044) (l' := #[.val (.int p0), .val (.int p1), .val (.int p2), .val (.int p3), .val (.int p4), .val (.int p5), .val (.int ((p0 &&& (2147483647 : Int32)) % (6 : Int32))), .val (.ref jw_1), .val (.int jd_1), .val (.int (48 : Int32)), .val (.ref fa24), .val (.int (p1 &&& (3 : Int32))), .val (.int jl_169), .val (.int (0 : Int32)), .val (.int ((p2 &&& (2147483647 : Int32)) % jl_169)), .val (.int ((p4 &&& (2147483647 : Int32)) % jl_169))]) rfl ?_
              exact Steps.refl _)
            have f216 := ((J188_0.wr W196).wr W197)
            have f217 := ((J188_1.other W196 (Or.inl (Nat.ne_of_lt (Nat.lt_of_lt_of_le Jp1_0.lt (Nat.le_of_eq g24.symm))))).other W197 (Or.inl (Nat.ne_of_lt (Nat.lt_of_lt_of_le Jp1_0.lt (Nat.le_of_eq g24.symm)))))
            exact ⟨(upd (upd (ZF 130) (((p2 &&& (2147483647 : Int32)) % jl_169)).toNatClampNeg (nar .char ((p3 &&& (255 : Int32)).toUInt32.toUInt16.toUInt32.toInt32))) (((p4 &&& (2147483647 : Int32)) % jl_169)).toNatClampNeg (nar .char ((p5 &&& (255 : Int32)).toUInt32.toUInt16.toUInt32.toInt32))), (0 : Int32), _, _, T212, _, _, X212, e212, N212, K197, O197, f216, f217, V197, (own_cf own_zc (own_c255 _) (own_c255 _)), (own_exb (own_remn Jp169_0 hc195) (own_itb.mp hc214) hy211), (Or.inr ⟨_, rfl⟩), (Or.inr ⟨_, rfl⟩), cs215⟩
          · have cs218 : Steps p.tables e below (s₁.setTop (mkF m 0 #[.val (.int p0), .val (.int p1), .val (.int p2), .val (.int p3), .val (.int p4), .val (.int p5), .unset, .unset, .unset, .unset, .unset, .unset, .unset, .unset, .unset, .unset] [])) (T212.setTop (mkF m 1046 #[.val (.int p0), .val (.int p1), .val (.int p2), .val (.int p3), .val (.int p4), .val (.int p5), .val (.int ((p0 &&& (2147483647 : Int32)) % (6 : Int32))), .val (.ref jw_1), .val (.int jd_1), .val (.int (48 : Int32)), .val (.ref fa24), .val (.int (p1 &&& (3 : Int32))), .val (.int jl_169), .val (.int (1 : Int32)), .val (.int ((p2 &&& (2147483647 : Int32)) % jl_169)), .val (.int ((p4 &&& (2147483647 : Int32)) % jl_169))] [])) := cs213.trans (by
              refine s_ifNo X212 hx (D at_1036) ((if0 _ _).trans (feq hc214).1) ?_
              refine s_iconst X212 hx (1 : Int32) (D at_1039) rfl ?_
              refine s_goto X212 hx 1044 (D at_1040) (of_decide_eq_true rfl) rfl ?_
              refine s_istore X212 hx (D at_1044) (l' := #[.val (.int p0), .val (.int p1), .val (.int p2), .val (.int p3), .val (.int p4), .val (.int p5), .val (.int ((p0 &&& (2147483647 : Int32)) % (6 : Int32))), .val (.ref jw_1), .val (.int jd_1), .val (.int (48 : Int32)), .val (.ref fa24), .val (.int (p1 &&& (3 : Int32))), .val (.int jl_169), .val (.int (1 : Int32)), .val (.int ((p2 &&& (2147483647 : Int32)) % jl_169)), .val (.int ((p4 &&& (2147483647 : Int32)) % jl_169))]) rfl ?_
              exact Steps.refl _)
            have f219 := ((J188_0.wr W196).wr W197)
            have f220 := ((J188_1.other W196 (Or.inl (Nat.ne_of_lt (Nat.lt_of_lt_of_le Jp1_0.lt (Nat.le_of_eq g24.symm))))).other W197 (Or.inl (Nat.ne_of_lt (Nat.lt_of_lt_of_le Jp1_0.lt (Nat.le_of_eq g24.symm)))))
            exact ⟨(upd (upd (ZF 130) (((p2 &&& (2147483647 : Int32)) % jl_169)).toNatClampNeg (nar .char ((p3 &&& (255 : Int32)).toUInt32.toUInt16.toUInt32.toInt32))) (((p4 &&& (2147483647 : Int32)) % jl_169)).toNatClampNeg (nar .char ((p5 &&& (255 : Int32)).toUInt32.toUInt16.toUInt32.toInt32))), (1 : Int32), _, _, T212, _, _, X212, e212, N212, K197, O197, f219, f220, V197, (own_cf own_zc (own_c255 _) (own_c255 _)), (own_exc Jp188_0 (own_le130 (own_lbn Jp169_0).2) hc199 hc207 hy204 hc214 hy211), (Or.inr ⟨_, rfl⟩), (Or.inr ⟨_, rfl⟩), cs218⟩
    · have cs221 : Steps p.tables e below (s₁.setTop (mkF m 0 #[.val (.int p0), .val (.int p1), .val (.int p2), .val (.int p3), .val (.int p4), .val (.int p5), .unset, .unset, .unset, .unset, .unset, .unset, .unset, .unset, .unset, .unset] [])) (Tj188.setTop (mkF m 1046 #[.val (.int p0), .val (.int p1), .val (.int p2), .val (.int p3), .val (.int p4), .val (.int p5), .val (.int ((p0 &&& (2147483647 : Int32)) % (6 : Int32))), .val (.ref jw_1), .val (.int jd_1), .val (.int (48 : Int32)), .val (.ref fa24), .val (.int (p1 &&& (3 : Int32))), .val (.int jl_169), .val (.int jx_188), .unset, .unset] [])) := cs194.trans (by
        refine s_ifYes Xj188 hx 1046 (D at_967) ((if0 _ _).trans (flt hc195).2.2.2) (of_decide_eq_true rfl) rfl ?_
        exact Steps.refl _)
      exact ⟨(ZF 130), jx_188, _, _, Tj188, _, _, Xj188, ej188, Nj188, Kj188, Oj188, J188_0, J188_1, J188_2, own_zc, (own_ex0 Jp1_2 Jp169_0 hc195 Jp188_0), (Or.inl rfl), (Or.inl rfl), cs221⟩
  obtain ⟨jF_193, jz_193, zs14_193, zs15_193, Tj193, Lj193, hj193, Xj193, ej193, Nj193, Kj193, Oj193, J193_0, J193_1, J193_2, Jp193_0, Jp193_1, Jp193_2, Jp193_3, cj193⟩ := jn193
  obtain ⟨T222, h222, X222, e222, E222, A222, D222, -, st222⟩ := newO Xj193 hx hZ hown (wd 5 rfl) (wd 6 rfl) (wd 7 rfl) ej193 (g := (mkF m 1046 #[.val (.int p0), .val (.int p1), .val (.int p2), .val (.int p3), .val (.int p4), .val (.int p5), .val (.int ((p0 &&& (2147483647 : Int32)) % (6 : Int32))), .val (.ref jw_1), .val (.int jd_1), .val (.int (48 : Int32)), .val (.ref fa24), .val (.int (p1 &&& (3 : Int32))), .val (.int jl_169), .val (.int jz_193), zs14_193, zs15_193] [])) rfl (D at_1046) (by decide) (by decide)
  obtain ⟨fa222, g222⟩ : ∃ z, z = hj193.size := ⟨_, rfl⟩
  rw [← g222] at A222 D222 st222
  have gn_fa222 : n0 ≤ fa222 := Nat.le_trans (own_oldsz Oj193) (Nat.le_of_eq g222.symm)
  have gh_fa222 : h0.size ≤ fa222 := Nat.le_trans Kj193.1 (Nat.le_of_eq g222.symm)
  have Zn222 : n0 ≤ h222.size := Nat.le_trans (own_oldsz Oj193) E222.1
  have K222 : Keep h0 h222 [] := Kj193.ext E222
  have O222 := Oj193.ext E222
  have F222_value : Fld Z h222 fa222 "java/lang/String" "value" "[B" .null := D222 (Or.inr (wd 31 rfl)) (ty := (.array .byte)) (by decide)
  have F222_coder : Fld Z h222 fa222 "java/lang/String" "coder" "B" (.int (0 : Int32)) := D222 (Or.inr (wd 32 rfl)) (ty := .byte) (by decide)
  have f223 := (J193_2.ext E222)
  have cs225 : Steps p.tables e below (s₁.setTop (mkF m 0 #[.val (.int p0), .val (.int p1), .val (.int p2), .val (.int p3), .val (.int p4), .val (.int p5), .unset, .unset, .unset, .unset, .unset, .unset, .unset, .unset, .unset, .unset] [])) (T222.setTop (mkF m 1055 #[.val (.int p0), .val (.int p1), .val (.int p2), .val (.int p3), .val (.int p4), .val (.int p5), .val (.int ((p0 &&& (2147483647 : Int32)) % (6 : Int32))), .val (.ref jw_1), .val (.int jd_1), .val (.int (48 : Int32)), .val (.ref fa24), .val (.int (p1 &&& (3 : Int32))), .val (.int jl_169), .val (.int jz_193), zs14_193, zs15_193] [(.int jl_169), (.int (0 : Int32)), (.ref fa24), (.ref fa222), (.ref fa222)])) := cj193.trans (by
    refine st222 _ ?_
    refine s_dup X222 hx (D at_1049) rfl ?_
    refine s_aload X222 hx (D at_1050) rfl rfl ?_
    refine s_iconst X222 hx (0 : Int32) (D at_1052) rfl ?_
    refine s_iload X222 hx (D at_1053) rfl ?_
    exact Steps.refl _)
  obtain ⟨_, _, ⟨T224, L224, k224, n224⟩, -, X224, hS224, hg224, ⟨Lc224, hQ224, l224, y224, z224⟩, st224⟩ := X222.specialBackS hx (y := (⟨"java/lang/String", "<init>", "([CII)V"⟩ : MethodName)) rfl hown (mvT hZ (wd 8 rfl)) (mvT hZ (wd 9 rfl)) (mvT hZ (wd 10 rfl)) (by decide) (own_backSH (W := 1) (rm_ctor3 l Z a0 hw [] fa222 fa24 jl_169 fk24 jF_193 w_MD5 w_SHA384 w_SHA256 w_SHA1 w_SHA224 w_SHA512 cs sf h222 n0 O222 WZ A222 F222_coder F222_value gn_fa222 Jp193_0 hcw ((own_lbn Jp169_0).1) ((own_lbn Jp169_0).2) f223) hZH (wd 10 rfl) (wd 7 rfl) (by decide) (by decide)) (g := (mkF m 1055 #[.val (.int p0), .val (.int p1), .val (.int p2), .val (.int p3), .val (.int p4), .val (.int p5), .val (.int ((p0 &&& (2147483647 : Int32)) % (6 : Int32))), .val (.ref jw_1), .val (.int jd_1), .val (.int (48 : Int32)), .val (.ref fa24), .val (.int (p1 &&& (3 : Int32))), .val (.int jl_169), .val (.int jz_193), zs14_193, zs15_193] [(.int jl_169), (.int (0 : Int32)), (.ref fa24), (.ref fa222), (.ref fa222)])) rfl (by rw [hml]; rfl) (Steps.refl _) (a := fa222) (argsL := [(.ref fa24), (.int (0 : Int32)), (.int jl_169)]) (rest := [(.ref fa222)]) (lenOf pd_15 rfl) rfl (by show 2 * 0 + _ ≤ _; exact Nat.le_of_eq rfl) (D at_1055) (fun _ _ => ⟨rfl, e222, (by decide : 2 + 2 ≤ _), (by decide : 134 + 130 ≤ _)⟩)
  dsimp only [Pt.U, Pt.locs, Pt.cells, Pt.slots] at X224 l224 y224 z224 st224 hQ224 hS224 hg224
  subst l224 y224 z224
  have hZ := State.Warmed39.trans hZ hS224.1
  have hown : (s.setVm T224.vm).vm.findClass "com/example/packstone/packstone/model/ChecksumAlgorithmIsChecksumPinLaw" = some m.cls := by rw [show (s.setVm T224.vm).vm = T224.vm from rfl, hS224.1.alike.findClass]; exact hown
  obtain ⟨r_224, kr_224, rfl, N224q, K224, Q224_0, Q224_1, Q224_2, Q224_3⟩ := hQ224
  have O224 := O222.keep K224 (allS gn_fa222 all0)
  have KK224 : Keep h0 T224.heap [] := K222.trans K224 (allS (Or.inr gh_fa222) all0)
  have N224 := Fr.app Nj193 N224q
  have f226 := ((J193_0.ext E222).keep K224)
  have f227 := ((J193_1.ext E222).keep K224 (ninS (Nat.ne_of_lt (Nat.lt_of_lt_of_le J193_0.lt (Nat.le_of_eq g222.symm))) nin0))
  obtain ⟨cq228, kq228, q228a, q228b, q228c⟩ := isOf hZ rfl f226
  obtain ⟨_, _, ⟨T228, L228, k228, n228⟩, -, X228, ⟨Lc228, hQ228, l228, y228, z228⟩, st228⟩ := X224.virtualBack hx (y := (⟨"com/example/packstone/packstone/model/ChecksumAlgorithm", "isChecksum", "(Ljava/lang/String;)Z"⟩ : MethodName)) (z := (⟨"com/example/packstone/packstone/model/ChecksumAlgorithm", "isChecksum", "(Ljava/lang/String;)Z"⟩ : MethodName)) hown (mvT hZ (wd 37 rfl)) (mvT hZ (wd 38 rfl)) (notFace_of_selects (args := #[]) (mvT hZ (wd 40 rfl))) (mvT hZ (wd 40 rfl)) (mvT hZ (wd 39 rfl)) (by decide) (backOf (W := 0) (rm_isck l Z a0 hw [] jw_1 fa222 jd_1 r_224 kr_224 jl_169 (BF jF_193 jl_169.toNatClampNeg) w_MD5 w_SHA384 w_SHA256 w_SHA1 w_SHA224 w_SHA512 cs sf T224.heap n0 O224 WZ f226 f227 Q224_0 Q224_1 Q224_2 Q224_3) hZ (wd 41 rfl) (wd 2 rfl) (by decide) (by decide)) q228a q228c (g := (mkF m 1064 #[.val (.int p0), .val (.int p1), .val (.int p2), .val (.int p3), .val (.int p4), .val (.int p5), .val (.int ((p0 &&& (2147483647 : Int32)) % (6 : Int32))), .val (.ref jw_1), .val (.int jd_1), .val (.int (48 : Int32)), .val (.ref fa24), .val (.int (p1 &&& (3 : Int32))), .val (.int jl_169), .val (.int jz_193), .val (.ref fa222), zs15_193] [(.ref fa222), (.ref jw_1)])) rfl (by rw [hml]; rfl) (Steps.refl _) (argsL := [(.ref fa222)]) (rest := []) (lenOf pd_16 rfl) rfl (by show 2 * 0 + _ ≤ _; exact Nat.le_of_eq rfl) (D at_1064) (fun _ _ => ⟨rfl, rfl, (by decide : 4 + 0 ≤ _), (by decide : 264 + 0 ≤ _)⟩)
  dsimp only [Pt.U, Pt.locs, Pt.cells, Pt.slots] at X228 l228 y228 z228 st228 hQ228
  subst l228 y228 z228
  obtain ⟨r__228, rfl, N228q, K228, Q228_0⟩ := hQ228
  have O228 := O224.keep K228 all0
  have KK228 : Keep h0 T228.heap [] := KK224.trans K228 all0
  have N228 := Fr.app N224 N228q
  obtain ⟨fs, hr, hrun, hended, hRW⟩ := X228.leaveW hS224 (Nat.le_trans (Nat.le_refl _) K228.1) (v := some (.int (1 : Int32))) (fun h => by rw [Bd.returns] at h; cases h)
  refine ⟨_, _, pre0 _ ?_, hrun, hended, _, _, rfl, ?_, hRW.1, hRW.2.1, hRW.2.2.1, hRW.2.2.2.mono (by decide) (by decide)⟩
  · refine cs225.trans ?_
    refine st224.trans ?_
    refine s_astore X224 hx (D at_1058) rfl (l' := #[.val (.int p0), .val (.int p1), .val (.int p2), .val (.int p3), .val (.int p4), .val (.int p5), .val (.int ((p0 &&& (2147483647 : Int32)) % (6 : Int32))), .val (.ref jw_1), .val (.int jd_1), .val (.int (48 : Int32)), .val (.ref fa24), .val (.int (p1 &&& (3 : Int32))), .val (.int jl_169), .val (.int jz_193), .val (.ref fa222), zs15_193]) (by rcases Jp193_2 with h | ⟨a, h⟩ <;> subst h <;> rfl) ?_
    refine s_aload X224 hx (D at_1060) rfl rfl ?_
    refine s_aload X224 hx (D at_1062) rfl rfl ?_
    refine st228.trans ?_
    refine s_iload X228 hx (D at_1067) rfl ?_
    refine s_icmpNo X228 hx (D at_1069) (teq (own_fin Jp193_0 Q228_0 Jp193_1 : r__228 = jz_193)).2 ?_
    refine s_iconst X228 hx (1 : Int32) (D at_1072) rfl ?_
    refine s_goto X228 hx 1077 (D at_1073) (of_decide_eq_true rfl) rfl ?_
    exact retN X228 hx (t := .boolean) Bd.returns (by simp) (D at_1077) hr
  · show Q_rm0 Z p0 p1 p2 p3 p4 p5 w_MD5 w_SHA384 w_SHA256 w_SHA1 w_SHA224 w_SHA512 cs sf h0 n0 _ T228.heap _
    exact ⟨rfl, N228, KK228⟩
theorem own_ne0 {t : Term} {args : Array Value} {s : State} {z : Int32} (ev : t.eval args s none [] s = some (.int z)) (h : (Jvm.Cond.not (Jvm.Cond.eq t (Term.int 0))).value args s none s [] = some true) : ¬ (z = (0 : Int32)) := by
  have h' := not_v h
  simp only [Cond.value, ev, Term.int_eval] at h'
  intro e; subst e; simp at h'
set_option maxRecDepth 65536 in
set_option maxHeartbeats 40000000 in
theorem comes_1 {Post : Tables → Env → Array Value → State → Outcome → State → Prop} (hpost : ∀ tb e args s v u, (limb_1_1.after args s (.returned v) u = true ∧ limb_1_2.after args s (.returned v) u = true ∧ True) → ReturnedEndW s (.returned v) u (Jvm.fieldLocs frame_1_writes args s ++ Jvm.arrayLocs frame_1_arrays args s ++ Jvm.staticLocs frame_1_statics s) 16 1664 → Post tb e args s (.returned v) u) :
    ArmFor flags0 classFile x code maxLocals ret World_1 tables_1 room_1 Calls_1 rest_1 Pre_1 Post := by
  intro l hfl _ _ p e ha hc hk s m args below hf hA hF happ hP
  obtain ⟨hcalls, hrest, hpre⟩ := hP
  obtain ⟨-, -, -, hnamed, -, -, -, hat⟩ := (Spec.applies_iff hf).mp happ
  obtain ⟨hg, hn⟩ := and_e (Cond.before_iff.mp (show (Jvm.Cond.and given_1 narrow_1).before args s = true from hpre))
  obtain ⟨hg1a, hg1b⟩ := and_e hg
  obtain ⟨hg2a, hg2b⟩ := and_e hg1b
  obtain ⟨hg3a, hg3b⟩ := and_e hg2b
  obtain ⟨hg4a, hg4b⟩ := and_e hg3b
  obtain ⟨hg5a, hg5b⟩ := and_e hg4b
  obtain ⟨hg6a, hg6b⟩ := and_e hg5b
  obtain ⟨w0, w1, w2, w3, w4, w5, rfl⟩ : ∃ w0 w1 w2 w3 w4 w5 : Value, args = #[w0, w1, w2, w3, w4, w5] := by
    have hs : args.size = 6 := by simpa [Cond.value, given_1] using hg1a
    obtain ⟨L⟩ := args
    match L, hs with
    | [w0, w1, w2, w3, w4, w5], _ => exact ⟨w0, w1, w2, w3, w4, w5, rfl⟩
  have hw := fun d (hd : d ∈ tables_1) => atoms_spec (ws := Jvm.Cond.code x code maxLocals ret :: tables_1) hat d (List.mem_cons_of_mem _ hd)
  have hfit : Fit s := fun {y c} hc i hi => by
    obtain ⟨ha, rfl⟩ := Array.getElem?_eq_some_iff.mp hc
    have q := List.all_eq_true.mp ((Array.all_eq_true_iff_forall_mem.mp hF) _ (Array.getElem_mem ha)) i (List.mem_range.mpr hi)
    simpa [Array.getElem?_eq_getElem hi] using q
  obtain ⟨hsets, hown0⟩ := atoms_of _ (rest_1_c_eq ▸ (show rest_1_c.before _ s = true from hrest))
  have hr0 := Cond.before_iff.mp hown0
  obtain ⟨i0, ei0⟩ := is_v hg2a
  obtain rfl : w0 = (.int i0) := Option.some.inj ei0
  obtain ⟨i1, ei1⟩ := is_v hg3a
  obtain rfl : w1 = (.int i1) := Option.some.inj ei1
  obtain ⟨i2, ei2⟩ := is_v hg4a
  obtain rfl : w2 = (.int i2) := Option.some.inj ei2
  obtain ⟨i3, ei3⟩ := is_v hg5a
  obtain rfl : w3 = (.int i3) := Option.some.inj ei3
  obtain ⟨i4, ei4⟩ := is_v hg6a
  obtain rfl : w4 = (.int i4) := Option.some.inj ei4
  obtain ⟨i5, ei5⟩ := is_v hg6b
  obtain rfl : w5 = (.int i5) := Option.some.inj ei5
  have wd := fun {d : Jvm.Cond} (i : Nat) (h : tables_1[i]? = some d) => hw d (List.mem_of_getElem? h)
  obtain ⟨hn1a, hn1b⟩ := and_e hn
  obtain ⟨hn2a, hn2b⟩ := and_e hn1b
  obtain ⟨hn3a, hn3b⟩ := and_e hn2b
  obtain ⟨hn4a, hn4b⟩ := and_e hn3b
  obtain ⟨hn5a, hn5b⟩ := and_e hn4b
  obtain ⟨hn6a, hn6b⟩ := and_e hn5b
  obtain ⟨hn7a, hn7b⟩ := and_e hn6b
  obtain ⟨hn8a, hn8b⟩ := and_e hn7b
  obtain ⟨hn9a, hn9b⟩ := and_e hn8b
  obtain ⟨hn10a, hn10b⟩ := and_e hn9b
  obtain ⟨hn11a, hn11b⟩ := and_e hn10b
  obtain ⟨w_MD5, evw_MD5⟩ := exa_v hn1a
  have E_MD5 := Exa.start evw_MD5 hn1a
  have S_MD5 := Sta.start evw_MD5 (Or.inr ⟨(wd 2 rfl), (wd 3 rfl)⟩)
  obtain ⟨w_SHA384, evw_SHA384⟩ := exa_v hn3a
  have E_SHA384 := Exa.start evw_SHA384 hn3a
  have S_SHA384 := Sta.start evw_SHA384 (Or.inr ⟨(wd 2 rfl), (wd 56 rfl)⟩)
  obtain ⟨w_SHA256, evw_SHA256⟩ := exa_v hn5a
  have E_SHA256 := Exa.start evw_SHA256 hn5a
  have S_SHA256 := Sta.start evw_SHA256 (Or.inr ⟨(wd 2 rfl), (wd 68 rfl)⟩)
  obtain ⟨w_SHA1, evw_SHA1⟩ := exa_v hn7a
  have E_SHA1 := Exa.start evw_SHA1 hn7a
  have S_SHA1 := Sta.start evw_SHA1 (Or.inr ⟨(wd 2 rfl), (wd 70 rfl)⟩)
  obtain ⟨w_SHA224, evw_SHA224⟩ := exa_v hn9a
  have E_SHA224 := Exa.start evw_SHA224 hn9a
  have S_SHA224 := Sta.start evw_SHA224 (Or.inr ⟨(wd 2 rfl), (wd 96 rfl)⟩)
  obtain ⟨w_SHA512, evw_SHA512⟩ := exa_v hn11a
  have E_SHA512 := Exa.start evw_SHA512 hn11a
  have S_SHA512 := Sta.start evw_SHA512 (Or.inr ⟨(wd 2 rfl), (wd 98 rfl)⟩)
  have F_MD5_hexDigits := own_fldI evw_MD5 hn2a
  have F_SHA384_hexDigits := own_fldI evw_SHA384 hn4a
  have F_SHA256_hexDigits := own_fldI evw_SHA256 hn6a
  have F_SHA1_hexDigits := own_fldI evw_SHA1 hn8a
  have F_SHA224_hexDigits := own_fldI evw_SHA224 hn10a
  have F_SHA512_hexDigits := own_fldI evw_SHA512 hn11b
  obtain ⟨cs, ecs⟩ := is_v (Cond.before_iff.mp (hsets _ (List.mem_of_getElem? (i := 1) rfl)))
  have S_cs := Sta.start ecs (Or.inl (hsets _ (List.mem_of_getElem? (i := 0) rfl)))
  have hcs : ¬ (cs = (0 : Int32)) := own_ne0 ecs (Cond.before_iff.mp (hsets _ (List.mem_of_getElem? (i := 2) rfl)))
  obtain ⟨sf, esf, hsf⟩ := isR_v (Cond.before_iff.mp (hsets _ (List.mem_of_getElem? (i := 8) rfl)))
  have S_sf := Sta.start esf (Or.inl (hsets _ (List.mem_of_getElem? (i := 7) rfl)))
  have hch : Jvm.Lit.constHeld s "java/lang/String" 7 := hcalls.1 ("java/lang/String", 7) (List.mem_of_getElem? (i := 0) rfl)
  have WZ : OWorld s s.heap w_MD5 w_SHA384 w_SHA256 w_SHA1 w_SHA224 w_SHA512 cs sf := ⟨S_MD5, E_MD5, F_MD5_hexDigits, S_SHA384, E_SHA384, F_SHA384_hexDigits, S_SHA256, E_SHA256, F_SHA256_hexDigits, S_SHA1, E_SHA1, F_SHA1_hexDigits, S_SHA224, E_SHA224, F_SHA224_hexDigits, S_SHA512, E_SHA512, F_SHA512_hexDigits, S_cs, hcs, S_sf, hsf, hch⟩
  obtain ⟨n, o, h1, h2, h3, _, L, rfl, ⟨rfl, N, -⟩, hq⟩ := rm0 l s _ hw tables_1 i0 i1 i2 i3 i4 i5 w_MD5 w_SHA384 w_SHA256 w_SHA1 w_SHA224 w_SHA512 cs sf s.heap s.heap.size (Old.start s) WZ (hsets _ (List.mem_of_getElem? (i := 2) rfl)) p e ha hc hk s m _ below hf ((Spec.applies_iff_loose hf).mp happ).1 ⟨rfl, State.WarmedH.refl s, rfl⟩ trivial
  refine ⟨n, _, h1, h2, h3, hpost _ _ _ _ _ _ ⟨Cond.after_iff.mpr rfl, Cond.after_iff.mpr (eq_i res_at (Term.int_eval (1)) rfl), trivial⟩ ⟨hq.1, hq.2.1, hq.2.2.1, (hq.2.2.2.sift fun y hy => Or.inr (N y hy)).mono (by decide) (by decide)⟩⟩
theorem main_1_1 : Claimed_1_1 := comes_1 fun _ _ _ _ _ _ h hF => ⟨h.1, hF⟩
theorem main_1_2 : Claimed_1_2 := comes_1 fun _ _ _ _ _ _ h hF => ⟨h.2.1, hF⟩
end Jvm.Pilot.@@N@@
namespace Jvm.Pilot.@@N@@
open Jvm Jvm.ClassFile Sem Op Lib Jvm.Free Jvm.Stand Jvm.Pilot.@@N@@.Jvm.D
/-! MADE BY PROGRAM (witnessworld.py) out of the Statement's table words and the real class files: 21 classes; the members and pool entries that the words name. The judged class is class 1, her method 2. -/
namespace start1
open Jvm.ClassFile
def u (s : String) : CpInfo := .utf8 (stringToUtf16 s)
/-- a pool by its gaps: so many unusable entries, then the entry; so many at the end -/
def gap : Nat → List CpInfo → List CpInfo
  | 0, r => r
  | n + 1, r => .unusable :: gap n r
def poolList (es : List (Nat × CpInfo)) (last : Nat) : List CpInfo := es.foldr (fun e r => gap e.1 (e.2 :: r)) (gap last [])
def pool (es : List (Nat × CpInfo)) (last : Nat) : Array CpInfo := ⟨poolList es last⟩
def fileOf (pool : Array CpInfo) (this : Nat) (attrs : Array Attribute := #[]) (ms : Array MethodInfo := #[]) (fl : Nat := 33) (sup : Nat := 0) (ifs : Array Nat := #[]) (fds : Array FieldInfo := #[]) : ClassFile where
  minorVersion := 0
  majorVersion := 65
  constantPool := pool
  accessFlags := fl
  thisClass := this
  superClass := sup
  interfaces := ifs
  fields := fds
  methods := ms
  attributes := attrs
def plain (name : String) (sup : Option ClassId) : Class where
  name := name
  kind := .ordinary
  loader := none
  accessFlags := 33
  super := sup
  interfaces := #[]
  cf := none
  fields := #[]
  methods := #[]
  instanceTypes := #[]
  staticTypes := #[]
  resolved := #[]
  callSites := []
  init := .initialized
  statics := none
  mirror := none

def pool0 : Array CpInfo := pool [(5, u "<init>"), (0, u "()V"), (1, .class_ 10), (1, u "java/lang/Object")] 113

def k0c0 : Code := { maxStack := 0, maxLocals := 1, code := object_method_1_code, exceptionTable := #[], attributes := #[] }
def k0m0 : Method := { name := "<init>", desc := "()V", sig := { parameters := [], returnType := none }, accessFlags := 1, code := some k0c0 }
/-- java/lang/Object -/
def k0 : Class := { plain "java/lang/Object" none with
  accessFlags := 33
  interfaces := #[]
  cf := some (fileOf pool0 8 #[] #[{ accessFlags := 1, nameIndex := 5, descriptorIndex := 6, attributes := #[] }] 33 0 #[] #[])
  fields := #[]
  methods := #[k0m0]
  instanceTypes := #[]
  staticTypes := #[]
  resolved := Array.replicate 124 none
  statics := none }

def pool1 : Array CpInfo := pool [(2, .class_ 4), (1, u "java/lang/Object"), (0, u "<init>"), (0, u "()V"), (0, .integer 2147483647), (0, .fieldref 9 10), (0, .class_ 11), (0, .nameAndType 12 13), (0, u "com/example/packstone/packstone/model/ChecksumAlgorithm"), (0, u "MD5"), (0, u "Lcom/example/packstone/packstone/model/ChecksumAlgorithm;"), (0, .fieldref 9 15), (0, .nameAndType 16 13), (0, u "SHA1"), (0, .fieldref 9 18), (0, .nameAndType 19 13), (0, u "SHA224"), (0, .fieldref 9 21), (0, .nameAndType 22 13), (0, u "SHA256"), (0, .fieldref 9 24), (0, .nameAndType 25 13), (0, u "SHA384"), (0, .fieldref 9 27), (0, .nameAndType 28 13), (0, u "SHA512"), (0, .methodref 30 31), (0, .class_ 32), (0, .nameAndType 33 34), (0, u "com/example/packstone/packstone/model/ChecksumAlgorithmIsChecksumPinLaw"), (0, u "isHex"), (0, u "(C)Z"), (0, .class_ 36), (0, u "java/lang/String"), (0, .methodref 35 38), (0, .nameAndType 5 39), (0, u "([CII)V"), (0, .methodref 9 41), (0, .nameAndType 42 43), (0, u "isChecksum"), (0, u "(Ljava/lang/String;)Z"), (3, u "law"), (0, u "(IIIIII)Z")] 4

def k1m0 : Method := { name := "<init>", desc := "()V", sig := { parameters := [], returnType := none }, accessFlags := 1, code := none }
def k1c1 : Code := { maxStack := 2, maxLocals := 3, code := method_2_code, exceptionTable := #[], attributes := #[] }
def k1m1 : Method := { name := "isHex", desc := "(C)Z", sig := { parameters := [.char], returnType := some .boolean }, accessFlags := 10, code := some k1c1 }
def k1c2 : Code := { maxStack := 5, maxLocals := 16, code := code, exceptionTable := #[], attributes := #[] }
def k1m2 : Method := { name := "law", desc := "(IIIIII)Z", sig := { parameters := [.int, .int, .int, .int, .int, .int], returnType := some .boolean }, accessFlags := 9, code := some k1c2 }
/-- com/example/packstone/packstone/model/ChecksumAlgorithmIsChecksumPinLaw -/
def k1 : Class := { plain "com/example/packstone/packstone/model/ChecksumAlgorithmIsChecksumPinLaw" (some 0) with
  accessFlags := 49
  interfaces := #[]
  cf := some (fileOf pool1 30 #[] #[{ accessFlags := 1, nameIndex := 5, descriptorIndex := 6, attributes := #[] }, { accessFlags := 10, nameIndex := 33, descriptorIndex := 34, attributes := #[] }, { accessFlags := 9, nameIndex := 47, descriptorIndex := 48, attributes := #[] }] 49 2 #[] #[])
  fields := #[]
  methods := #[k1m0, k1m1, k1m2]
  instanceTypes := #[]
  staticTypes := #[]
  resolved := Array.replicate 53 none
  statics := none }

def pool2 : Array CpInfo := pool [(1, .class_ 2), (0, u "java/lang/constant/Constable"), (0, .class_ 4), (0, u "java/lang/Object")] 6

/-- java/lang/constant/Constable -/
def k2 : Class := { plain "java/lang/constant/Constable" (some 0) with
  accessFlags := 1537
  interfaces := #[]
  cf := some (fileOf pool2 1 #[] #[] 1537 3 #[] #[])
  fields := #[]
  methods := #[]
  instanceTypes := #[]
  staticTypes := #[]
  resolved := Array.replicate 11 none
  statics := none }

def pool3 : Array CpInfo := pool [(1, .class_ 2), (0, u "java/lang/Comparable"), (0, .class_ 4), (0, u "java/lang/Object")] 7

/-- java/lang/Comparable -/
def k3 : Class := { plain "java/lang/Comparable" (some 0) with
  accessFlags := 1537
  interfaces := #[]
  cf := some (fileOf pool3 1 #[] #[] 1537 3 #[] #[])
  fields := #[]
  methods := #[]
  instanceTypes := #[]
  staticTypes := #[]
  resolved := Array.replicate 12 none
  statics := none }

def pool4 : Array CpInfo := pool [(1, .class_ 2), (0, u "java/io/Serializable"), (0, .class_ 4), (0, u "java/lang/Object")] 2

/-- java/io/Serializable -/
def k4 : Class := { plain "java/io/Serializable" (some 0) with
  accessFlags := 1537
  interfaces := #[]
  cf := some (fileOf pool4 1 #[] #[] 1537 3 #[] #[])
  fields := #[]
  methods := #[]
  instanceTypes := #[]
  staticTypes := #[]
  resolved := Array.replicate 7 none
  statics := none }

def pool5 : Array CpInfo := pool [(2, .class_ 4), (1, u "java/lang/Enum"), (0, u "name"), (0, u "Ljava/lang/String;"), (2, u "ordinal"), (0, u "I"), (1, .class_ 14), (1, u "java/lang/Object"), (4, u "hash"), (86, .class_ 108), (1, u "java/lang/Enum$EnumDesc"), (2, .class_ 112), (0, u "java/lang/constant/Constable"), (0, .class_ 114), (0, u "java/lang/Comparable"), (0, .class_ 116), (0, u "java/io/Serializable")] 87

/-- java/lang/Enum -/
def k5 : Class := { plain "java/lang/Enum" (some 0) with
  accessFlags := 1057
  interfaces := #[2, 3, 4]
  cf := some (fileOf pool5 2 #[.nestMembers #[106]] #[] 1057 12 #[111, 113, 115] #[{ accessFlags := 18, nameIndex := 5, descriptorIndex := 6, attributes := #[] }, { accessFlags := 18, nameIndex := 9, descriptorIndex := 10, attributes := #[] }, { accessFlags := 2, nameIndex := 19, descriptorIndex := 10, attributes := #[] }])
  fields := #[{ name := "name", type := (.object "java/lang/String"), accessFlags := 18, slot := 0, constantValue := 0 }, { name := "ordinal", type := .int, accessFlags := 18, slot := 1, constantValue := 0 }, { name := "hash", type := .int, accessFlags := 2, slot := 2, constantValue := 0 }]
  methods := #[]
  instanceTypes := #[(.object "java/lang/String"), .int, .int]
  staticTypes := #[]
  resolved := Array.replicate 204 none
  statics := none }

def pool6 : Array CpInfo := pool [(1, .class_ 2), (0, u "com/example/packstone/packstone/model/ChecksumAlgorithm"), (2, u "MD5"), (0, u "Lcom/example/packstone/packstone/model/ChecksumAlgorithm;"), (2, u "SHA1"), (2, u "SHA224"), (2, u "SHA256"), (2, u "SHA384"), (2, u "SHA512"), (2, u "$VALUES"), (0, u "[Lcom/example/packstone/packstone/model/ChecksumAlgorithm;"), (6, .class_ 34), (1, u "java/lang/Enum"), (8, u "standardName"), (0, u "Ljava/lang/String;"), (0, .fieldref 1 46), (0, .nameAndType 47 48), (0, u "hexDigits"), (0, u "I"), (17, .methodref 67 68), (0, .class_ 69), (0, .nameAndType 70 71), (0, u "java/lang/String"), (0, u "length"), (0, u "()I"), (0, .methodref 67 73), (0, .nameAndType 74 75), (0, u "charAt"), (0, u "(I)C"), (32, u "isChecksum"), (0, u "(Ljava/lang/String;)Z")] 20

def k6c0 : Code := { maxStack := 2, maxLocals := 4, code := prog_50_method_5_code, exceptionTable := #[], attributes := #[] }
def k6m0 : Method := { name := "isChecksum", desc := "(Ljava/lang/String;)Z", sig := { parameters := [(.object "java/lang/String")], returnType := some .boolean }, accessFlags := 1, code := some k6c0 }
/-- com/example/packstone/packstone/model/ChecksumAlgorithm -/
def k6 : Class := { plain "com/example/packstone/packstone/model/ChecksumAlgorithm" (some 5) with
  accessFlags := 16433
  interfaces := #[]
  cf := some (fileOf pool6 1 #[] #[{ accessFlags := 1, nameIndex := 108, descriptorIndex := 109, attributes := #[] }] 16433 32 #[] #[{ accessFlags := 16409, nameIndex := 5, descriptorIndex := 6, attributes := #[] }, { accessFlags := 16409, nameIndex := 9, descriptorIndex := 6, attributes := #[] }, { accessFlags := 16409, nameIndex := 12, descriptorIndex := 6, attributes := #[] }, { accessFlags := 16409, nameIndex := 15, descriptorIndex := 6, attributes := #[] }, { accessFlags := 16409, nameIndex := 18, descriptorIndex := 6, attributes := #[] }, { accessFlags := 16409, nameIndex := 21, descriptorIndex := 6, attributes := #[] }, { accessFlags := 18, nameIndex := 43, descriptorIndex := 44, attributes := #[] }, { accessFlags := 18, nameIndex := 47, descriptorIndex := 48, attributes := #[] }, { accessFlags := 4122, nameIndex := 24, descriptorIndex := 25, attributes := #[] }])
  fields := #[{ name := "MD5", type := (.object "com/example/packstone/packstone/model/ChecksumAlgorithm"), accessFlags := 16409, slot := 0, constantValue := 0 }, { name := "SHA1", type := (.object "com/example/packstone/packstone/model/ChecksumAlgorithm"), accessFlags := 16409, slot := 1, constantValue := 0 }, { name := "SHA224", type := (.object "com/example/packstone/packstone/model/ChecksumAlgorithm"), accessFlags := 16409, slot := 2, constantValue := 0 }, { name := "SHA256", type := (.object "com/example/packstone/packstone/model/ChecksumAlgorithm"), accessFlags := 16409, slot := 3, constantValue := 0 }, { name := "SHA384", type := (.object "com/example/packstone/packstone/model/ChecksumAlgorithm"), accessFlags := 16409, slot := 4, constantValue := 0 }, { name := "SHA512", type := (.object "com/example/packstone/packstone/model/ChecksumAlgorithm"), accessFlags := 16409, slot := 5, constantValue := 0 }, { name := "standardName", type := (.object "java/lang/String"), accessFlags := 18, slot := 3, constantValue := 0 }, { name := "hexDigits", type := .int, accessFlags := 18, slot := 4, constantValue := 0 }, { name := "$VALUES", type := (.array (.object "com/example/packstone/packstone/model/ChecksumAlgorithm")), accessFlags := 4122, slot := 6, constantValue := 0 }]
  methods := #[k6m0]
  instanceTypes := #[(.object "java/lang/String"), .int, .int, (.object "java/lang/String"), .int]
  staticTypes := #[(.object "com/example/packstone/packstone/model/ChecksumAlgorithm"), (.object "com/example/packstone/packstone/model/ChecksumAlgorithm"), (.object "com/example/packstone/packstone/model/ChecksumAlgorithm"), (.object "com/example/packstone/packstone/model/ChecksumAlgorithm"), (.object "com/example/packstone/packstone/model/ChecksumAlgorithm"), (.object "com/example/packstone/packstone/model/ChecksumAlgorithm"), (.array (.object "com/example/packstone/packstone/model/ChecksumAlgorithm"))]
  resolved := Array.replicate 130 none
  statics := some 0 }

def pool7 : Array CpInfo := pool [(2, .class_ 4), (1, u "java/lang/CharSequence"), (42, .class_ 48), (0, u "java/lang/CharSequence$1CodePointIterator"), (10, .class_ 60), (0, u "java/lang/CharSequence$1CharIterator"), (5, .class_ 67), (0, u "java/lang/Object")] 63

/-- java/lang/CharSequence -/
def k7 : Class := { plain "java/lang/CharSequence" (some 0) with
  accessFlags := 1537
  interfaces := #[]
  cf := some (fileOf pool7 2 #[.nestMembers #[47, 59]] #[] 1537 66 #[] #[])
  fields := #[]
  methods := #[]
  instanceTypes := #[]
  staticTypes := #[]
  resolved := Array.replicate 131 none
  statics := none }

def pool8 : Array CpInfo := pool [(1, .class_ 2), (0, u "java/lang/constant/ConstantDesc"), (0, .class_ 4), (0, u "java/lang/Object")] 32

/-- java/lang/constant/ConstantDesc -/
def k8 : Class := { plain "java/lang/constant/ConstantDesc" (some 0) with
  accessFlags := 1537
  interfaces := #[]
  cf := some (fileOf pool8 1 #[] #[] 1537 3 #[] #[])
  fields := #[]
  methods := #[]
  instanceTypes := #[]
  staticTypes := #[]
  resolved := Array.replicate 37 none
  statics := none }

def pool9 : Array CpInfo := pool [(1, .methodref 2 3), (0, .class_ 4), (0, .nameAndType 5 6), (0, u "java/lang/Object"), (0, u "<init>"), (0, u "()V"), (0, .string 8), (0, u ""), (0, .fieldref 10 11), (0, .class_ 12), (0, .nameAndType 13 14), (0, u "java/lang/String"), (0, u "value"), (0, u "[B"), (0, .fieldref 10 16), (0, .nameAndType 17 18), (0, u "coder"), (0, u "B"), (2, u "hash"), (0, u "I"), (2, u "hashIsZero"), (0, u "Z"), (0, .methodref 10 28), (0, .nameAndType 5 29), (0, u "([CIILjava/lang/Void;)V"), (0, .methodref 10 31), (0, .nameAndType 32 33), (0, u "rangeCheck"), (0, u "([CII)Ljava/lang/Void;"), (0, .methodref 10 35), (0, .nameAndType 36 37), (0, u "checkBoundsOffCount"), (0, u "(III)I"), (0, .fieldref 10 39), (0, .nameAndType 40 26), (0, u "COMPACT_STRINGS"), (1, .class_ 44), (1, u "java/lang/StringUTF16"), (0, u "compress"), (1, .methodref 42 48), (0, .nameAndType 49 50), (0, u "coderFromArrayLen"), (0, u "([BI)B"), (56, .class_ 109), (1, u "java/lang/StringLatin1"), (32, u "()Z"), (34, .methodref 42 178), (0, .nameAndType 45 179), (0, u "([CII)[B"), (154, u "()I"), (0, .methodref 10 336), (0, .nameAndType 17 337), (0, u "()B"), (25, u "([BI)C"), (27, u "(II)V"), (35, u "(I)C"), (64, .methodref 10 493), (0, .nameAndType 494 142), (0, u "isLatin1"), (0, .methodref 107 496), (0, .nameAndType 497 363), (0, u "charAt"), (3, u "checkIndex"), (5, u "length"), (67, .class_ 576), (0, u "java/lang/CharSequence"), (22, u "CASE_INSENSITIVE_ORDER"), (0, u "Ljava/util/Comparator;"), (371, u "([CII)V"), (80, .fieldref 1054 1055), (0, .class_ 1056), (0, .nameAndType 1057 1058), (0, u "jdk/internal/util/Preconditions"), (0, u "SIOOBE_FORMATTER"), (0, u "Ljava/util/function/BiFunction;"), (0, .methodref 1054 1060), (0, .nameAndType 501 1061), (0, u "(IILjava/util/function/BiFunction;)I"), (2, u "(IIILjava/util/function/BiFunction;)I"), (0, .methodref 1054 1066), (0, .nameAndType 1067 1064), (0, u "checkFromIndexSize"), (33, u "serialPersistentFields"), (0, u "[Ljava/io/ObjectStreamField;"), (0, .class_ 1104), (0, u "java/lang/String$CaseInsensitiveComparator"), (1, .class_ 1107), (0, u "java/io/Serializable"), (0, .class_ 1109), (0, u "java/lang/Comparable"), (0, .class_ 1111), (0, u "java/lang/constant/Constable"), (0, .class_ 1113), (0, u "java/lang/constant/ConstantDesc"), (2, u "serialVersionUID"), (0, u "J"), (3, u "REPL"), (0, u "C"), (2, u "LATIN1"), (1, u "UTF16")] 323

def k9m0 : Method := { name := "<init>", desc := "()V", sig := { parameters := [], returnType := none }, accessFlags := 1, code := none }
def k9c1 : Code := { maxStack := 7, maxLocals := 4, code := jdk_42_method_4_code, exceptionTable := #[], attributes := #[] }
def k9m1 : Method := { name := "<init>", desc := "([CII)V", sig := { parameters := [(.array .char), .int, .int], returnType := none }, accessFlags := 1, code := some k9c1 }
def k9c2 : Code := { maxStack := 3, maxLocals := 3, code := jdk_42_method_5_code, exceptionTable := #[], attributes := #[] }
def k9m2 : Method := { name := "rangeCheck", desc := "([CII)Ljava/lang/Void;", sig := { parameters := [(.array .char), .int, .int], returnType := some (.object "java/lang/Void") }, accessFlags := 10, code := some k9c2 }
def k9c3 : Code := { maxStack := 2, maxLocals := 1, code := jdk_42_method_54_code, exceptionTable := #[], attributes := #[] }
def k9m3 : Method := { name := "length", desc := "()I", sig := { parameters := [], returnType := some .int }, accessFlags := 1, code := some k9c3 }
def k9c4 : Code := { maxStack := 2, maxLocals := 2, code := jdk_42_method_56_code, exceptionTable := #[], attributes := #[] }
def k9m4 : Method := { name := "charAt", desc := "(I)C", sig := { parameters := [.int], returnType := some .char }, accessFlags := 1, code := some k9c4 }
def k9c5 : Code := { maxStack := 4, maxLocals := 6, code := jdk_42_method_149_code, exceptionTable := #[], attributes := #[] }
def k9m5 : Method := { name := "<init>", desc := "([CIILjava/lang/Void;)V", sig := { parameters := [(.array .char), .int, .int, (.object "java/lang/Void")], returnType := none }, accessFlags := 2, code := some k9c5 }
def k9c6 : Code := { maxStack := 1, maxLocals := 1, code := jdk_42_method_152_code, exceptionTable := #[], attributes := #[] }
def k9m6 : Method := { name := "coder", desc := "()B", sig := { parameters := [], returnType := some .byte }, accessFlags := 0, code := some k9c6 }
def k9c7 : Code := { maxStack := 1, maxLocals := 1, code := jdk_42_method_154_code, exceptionTable := #[], attributes := #[] }
def k9m7 : Method := { name := "isLatin1", desc := "()Z", sig := { parameters := [], returnType := some .boolean }, accessFlags := 0, code := some k9c7 }
def k9c8 : Code := { maxStack := 3, maxLocals := 2, code := jdk_42_method_155_code, exceptionTable := #[], attributes := #[] }
def k9m8 : Method := { name := "checkIndex", desc := "(II)V", sig := { parameters := [.int, .int], returnType := none }, accessFlags := 8, code := some k9c8 }
def k9c9 : Code := { maxStack := 4, maxLocals := 3, code := jdk_42_method_157_code, exceptionTable := #[], attributes := #[] }
def k9m9 : Method := { name := "checkBoundsOffCount", desc := "(III)I", sig := { parameters := [.int, .int, .int], returnType := some .int }, accessFlags := 8, code := some k9c9 }
/-- java/lang/String -/
def k9 : Class := { plain "java/lang/String" (some 0) with
  accessFlags := 49
  interfaces := #[4, 3, 7, 2, 8]
  cf := some (fileOf pool9 10 #[.nestMembers #[1103]] #[{ accessFlags := 1, nameIndex := 5, descriptorIndex := 6, attributes := #[] }, { accessFlags := 1, nameIndex := 5, descriptorIndex := 972, attributes := #[] }, { accessFlags := 10, nameIndex := 32, descriptorIndex := 33, attributes := #[] }, { accessFlags := 1, nameIndex := 507, descriptorIndex := 334, attributes := #[] }, { accessFlags := 1, nameIndex := 497, descriptorIndex := 427, attributes := #[] }, { accessFlags := 2, nameIndex := 5, descriptorIndex := 29, attributes := #[] }, { accessFlags := 0, nameIndex := 17, descriptorIndex := 337, attributes := #[] }, { accessFlags := 0, nameIndex := 494, descriptorIndex := 142, attributes := #[] }, { accessFlags := 8, nameIndex := 501, descriptorIndex := 391, attributes := #[] }, { accessFlags := 8, nameIndex := 36, descriptorIndex := 37, attributes := #[] }] 49 2 #[1106, 1108, 575, 1110, 1112] #[{ accessFlags := 18, nameIndex := 13, descriptorIndex := 14, attributes := #[] }, { accessFlags := 18, nameIndex := 17, descriptorIndex := 18, attributes := #[] }, { accessFlags := 2, nameIndex := 21, descriptorIndex := 22, attributes := #[] }, { accessFlags := 2, nameIndex := 25, descriptorIndex := 26, attributes := #[] }, { accessFlags := 26, nameIndex := 1116, descriptorIndex := 1117, attributes := #[] }, { accessFlags := 24, nameIndex := 40, descriptorIndex := 26, attributes := #[] }, { accessFlags := 26, nameIndex := 1101, descriptorIndex := 1102, attributes := #[] }, { accessFlags := 26, nameIndex := 1121, descriptorIndex := 1122, attributes := #[] }, { accessFlags := 25, nameIndex := 599, descriptorIndex := 600, attributes := #[] }, { accessFlags := 24, nameIndex := 1125, descriptorIndex := 18, attributes := #[] }, { accessFlags := 24, nameIndex := 1127, descriptorIndex := 18, attributes := #[] }])
  fields := #[{ name := "value", type := (.array .byte), accessFlags := 18, slot := 0, constantValue := 0 }, { name := "coder", type := .byte, accessFlags := 18, slot := 1, constantValue := 0 }, { name := "hash", type := .int, accessFlags := 2, slot := 2, constantValue := 0 }, { name := "hashIsZero", type := .boolean, accessFlags := 2, slot := 3, constantValue := 0 }, { name := "serialVersionUID", type := .long, accessFlags := 26, slot := 0, constantValue := 0 }, { name := "COMPACT_STRINGS", type := .boolean, accessFlags := 24, slot := 1, constantValue := 0 }, { name := "serialPersistentFields", type := (.array (.object "java/io/ObjectStreamField")), accessFlags := 26, slot := 2, constantValue := 0 }, { name := "REPL", type := .char, accessFlags := 26, slot := 3, constantValue := 0 }, { name := "CASE_INSENSITIVE_ORDER", type := (.object "java/util/Comparator"), accessFlags := 25, slot := 4, constantValue := 0 }, { name := "LATIN1", type := .byte, accessFlags := 24, slot := 5, constantValue := 0 }, { name := "UTF16", type := .byte, accessFlags := 24, slot := 6, constantValue := 0 }]
  methods := #[k9m0, k9m1, k9m2, k9m3, k9m4, k9m5, k9m6, k9m7, k9m8, k9m9]
  instanceTypes := #[(.array .byte), .byte, .int, .boolean]
  staticTypes := #[.long, .boolean, (.array (.object "java/io/ObjectStreamField")), .char, (.object "java/util/Comparator"), .byte, .byte]
  resolved := Array.replicate 1451 none
  statics := some 1 }

def pool10 : Array CpInfo := pool [(2, .class_ 4), (1, u "java/lang/Object"), (0, u "<init>"), (0, u "()V"), (17, .class_ 26), (1, u "jdk/internal/util/Preconditions"), (6, u "checkIndex"), (15, u "checkFromIndexSize"), (5, .class_ 56), (0, u "jdk/internal/util/Preconditions$4"), (57, .class_ 115), (0, u "jdk/internal/util/Preconditions$1"), (7, u "SIOOBE_FORMATTER"), (0, u "Ljava/util/function/BiFunction;"), (0, .class_ 126), (0, u "jdk/internal/util/Preconditions$2"), (3, u "AIOOBE_FORMATTER"), (0, .class_ 132), (0, u "jdk/internal/util/Preconditions$3"), (3, u "IOOBE_FORMATTER"), (41, u "(IILjava/util/function/BiFunction;)I"), (4, u "(IIILjava/util/function/BiFunction;)I")] 10

def k10m0 : Method := { name := "<init>", desc := "()V", sig := { parameters := [], returnType := none }, accessFlags := 1, code := none }
def k10c1 : Code := { maxStack := 3, maxLocals := 3, code := jdk_41_method_11_code, exceptionTable := #[], attributes := #[] }
def k10m1 : Method := { name := "checkIndex", desc := "(IILjava/util/function/BiFunction;)I", sig := { parameters := [.int, .int, (.object "java/util/function/BiFunction")], returnType := some .int }, accessFlags := 9, code := some k10c1 }
def k10c2 : Code := { maxStack := 4, maxLocals := 4, code := jdk_41_method_13_code, exceptionTable := #[], attributes := #[] }
def k10m2 : Method := { name := "checkFromIndexSize", desc := "(IIILjava/util/function/BiFunction;)I", sig := { parameters := [.int, .int, .int, (.object "java/util/function/BiFunction")], returnType := some .int }, accessFlags := 9, code := some k10c2 }
/-- jdk/internal/util/Preconditions -/
def k10 : Class := { plain "jdk/internal/util/Preconditions" (some 0) with
  accessFlags := 33
  interfaces := #[]
  cf := some (fileOf pool10 24 #[.nestMembers #[55, 131, 125, 114]] #[{ accessFlags := 1, nameIndex := 5, descriptorIndex := 6, attributes := #[] }, { accessFlags := 9, nameIndex := 33, descriptorIndex := 178, attributes := #[] }, { accessFlags := 9, nameIndex := 49, descriptorIndex := 183, attributes := #[] }] 33 2 #[] #[{ accessFlags := 25, nameIndex := 123, descriptorIndex := 124, attributes := #[] }, { accessFlags := 25, nameIndex := 130, descriptorIndex := 124, attributes := #[] }, { accessFlags := 25, nameIndex := 136, descriptorIndex := 124, attributes := #[] }])
  fields := #[{ name := "SIOOBE_FORMATTER", type := (.object "java/util/function/BiFunction"), accessFlags := 25, slot := 0, constantValue := 0 }, { name := "AIOOBE_FORMATTER", type := (.object "java/util/function/BiFunction"), accessFlags := 25, slot := 1, constantValue := 0 }, { name := "IOOBE_FORMATTER", type := (.object "java/util/function/BiFunction"), accessFlags := 25, slot := 2, constantValue := 0 }]
  methods := #[k10m0, k10m1, k10m2]
  instanceTypes := #[]
  staticTypes := #[(.object "java/util/function/BiFunction"), (.object "java/util/function/BiFunction"), (.object "java/util/function/BiFunction")]
  resolved := Array.replicate 194 none
  statics := some 2 }

def pool11 : Array CpInfo := pool [(6, .class_ 8), (1, u "java/lang/Object"), (0, u "<init>"), (0, u "()V"), (1, .class_ 14), (1, u "java/lang/StringUTF16"), (31, u "$assertionsDisabled"), (0, u "Z"), (13, u "HI_BYTE_SHIFT"), (0, u "I"), (2, u "LO_BYTE_SHIFT"), (49, .methodref 12 116), (0, .nameAndType 117 118), (0, u "compress"), (0, u "([CI[BII)I"), (3, u "([CII)[B"), (138, u "coderFromArrayLen"), (0, u "([BI)B"), (106, .class_ 371), (1, u "java/lang/StringUTF16$LinesSpliterator"), (58, u "MAX_LENGTH"), (196, .class_ 628), (0, u "java/lang/StringUTF16$CodePointsSpliterator"), (0, .class_ 630), (0, u "java/lang/StringUTF16$CharsSpliterator")] 4

def k11m0 : Method := { name := "<init>", desc := "()V", sig := { parameters := [], returnType := none }, accessFlags := 0, code := none }
def k11c1 : Code := { maxStack := 2, maxLocals := 2, code := jdk_52_method_15_code, exceptionTable := #[], attributes := #[] }
def k11m1 : Method := { name := "coderFromArrayLen", desc := "([BI)B", sig := { parameters := [(.array .byte), .int], returnType := some .byte }, accessFlags := 8, code := some k11c1 }
def k11c2 : Code := { maxStack := 5, maxLocals := 6, code := jdk_52_method_16_code, exceptionTable := #[], attributes := #[] }
def k11m2 : Method := { name := "compress", desc := "([CII)[B", sig := { parameters := [(.array .char), .int, .int], returnType := some (.array .byte) }, accessFlags := 9, code := some k11c2 }
def k11c3 : Code := { maxStack := 3, maxLocals := 7, code := jdk_52_method_21_code, exceptionTable := #[], attributes := #[] }
def k11m3 : Method := { name := "compress", desc := "([CI[BII)I", sig := { parameters := [(.array .char), .int, (.array .byte), .int, .int], returnType := some .int }, accessFlags := 9, code := some k11c3 }
/-- java/lang/StringUTF16 -/
def k11 : Class := { plain "java/lang/StringUTF16" (some 0) with
  accessFlags := 48
  interfaces := #[]
  cf := some (fileOf pool11 12 #[.nestMembers #[627, 629, 369]] #[{ accessFlags := 0, nameIndex := 9, descriptorIndex := 10, attributes := #[] }, { accessFlags := 8, nameIndex := 261, descriptorIndex := 262, attributes := #[] }, { accessFlags := 9, nameIndex := 117, descriptorIndex := 122, attributes := #[] }, { accessFlags := 9, nameIndex := 117, descriptorIndex := 118, attributes := #[] }] 48 6 #[] #[{ accessFlags := 26, nameIndex := 61, descriptorIndex := 62, attributes := #[] }, { accessFlags := 26, nameIndex := 65, descriptorIndex := 62, attributes := #[] }, { accessFlags := 24, nameIndex := 430, descriptorIndex := 62, attributes := #[] }, { accessFlags := 4120, nameIndex := 46, descriptorIndex := 47, attributes := #[] }])
  fields := #[{ name := "HI_BYTE_SHIFT", type := .int, accessFlags := 26, slot := 0, constantValue := 0 }, { name := "LO_BYTE_SHIFT", type := .int, accessFlags := 26, slot := 1, constantValue := 0 }, { name := "MAX_LENGTH", type := .int, accessFlags := 24, slot := 2, constantValue := 0 }, { name := "$assertionsDisabled", type := .boolean, accessFlags := 4120, slot := 3, constantValue := 0 }]
  methods := #[k11m0, k11m1, k11m2, k11m3]
  instanceTypes := #[]
  staticTypes := #[.int, .int, .int, .boolean]
  resolved := Array.replicate 635 none
  statics := none }

def pool12 : Array CpInfo := pool [(1, .class_ 2), (0, u "java/lang/String"), (1, .class_ 6), (1, u "java/lang/Object"), (0, u "<init>"), (0, u "()V"), (0, .methodref 1 10), (0, .nameAndType 11 12), (0, u "checkIndex"), (0, u "(II)V"), (1, .class_ 16), (1, u "java/lang/StringLatin1"), (36, u "([BI)C"), (67, u "$assertionsDisabled"), (0, u "Z"), (98, .class_ 223), (1, u "java/lang/StringLatin1$LinesSpliterator"), (28, u "charAt"), (137, .class_ 391), (0, u "java/lang/StringLatin1$CharsSpliterator")] 3

def k12m0 : Method := { name := "<init>", desc := "()V", sig := { parameters := [], returnType := none }, accessFlags := 0, code := none }
def k12c1 : Code := { maxStack := 2, maxLocals := 2, code := jdk_43_method_2_code, exceptionTable := #[], attributes := #[] }
def k12m1 : Method := { name := "charAt", desc := "([BI)C", sig := { parameters := [(.array .byte), .int], returnType := some .char }, accessFlags := 9, code := some k12c1 }
/-- java/lang/StringLatin1 -/
def k12 : Class := { plain "java/lang/StringLatin1" (some 0) with
  accessFlags := 48
  interfaces := #[]
  cf := some (fileOf pool12 14 #[.nestMembers #[390, 221]] #[{ accessFlags := 0, nameIndex := 7, descriptorIndex := 8, attributes := #[] }, { accessFlags := 9, nameIndex := 252, descriptorIndex := 53, attributes := #[] }] 48 4 #[] #[{ accessFlags := 4120, nameIndex := 121, descriptorIndex := 122, attributes := #[] }])
  fields := #[{ name := "$assertionsDisabled", type := .boolean, accessFlags := 4120, slot := 0, constantValue := 0 }]
  methods := #[k12m0, k12m1]
  instanceTypes := #[]
  staticTypes := #[.boolean]
  resolved := Array.replicate 395 none
  statics := none }

def pool13 : Array CpInfo := pool [(9, u "<init>"), (6, .class_ 18), (1, u "java/lang/Object"), (0, u "()V"), (1, .class_ 23), (1, u "jdk/internal/util/ArraysSupport"), (0, u "LOG2_ARRAY_LONG_INDEX_SCALE"), (0, u "I"), (2, u "U"), (0, u "Ljdk/internal/misc/Unsafe;"), (8, u "BIG_ENDIAN"), (0, u "Z"), (8, u "LOG2_BYTE_BIT_SIZE"), (4, u "LOG2_ARRAY_INT_INDEX_SCALE"), (54, u "JLA"), (0, u "Ljdk/internal/access/JavaLangAccess;"), (11, u "LOG2_ARRAY_BOOLEAN_INDEX_SCALE"), (9, u "LOG2_ARRAY_BYTE_INDEX_SCALE"), (5, u "LOG2_ARRAY_CHAR_INDEX_SCALE"), (5, u "LOG2_ARRAY_SHORT_INDEX_SCALE"), (18, u "LOG2_ARRAY_FLOAT_INDEX_SCALE"), (24, u "LOG2_ARRAY_DOUBLE_INDEX_SCALE"), (89, u "T_BOOLEAN"), (2, u "T_CHAR"), (1, u "T_FLOAT"), (1, u "T_DOUBLE"), (1, u "T_BYTE"), (1, u "T_SHORT"), (1, u "T_INT"), (1, u "T_LONG"), (1, u "SOFT_MAX_ARRAY_LENGTH")] 83

def k13m0 : Method := { name := "<init>", desc := "()V", sig := { parameters := [], returnType := none }, accessFlags := 2, code := none }
/-- jdk/internal/util/ArraysSupport -/
def k13 : Class := { plain "jdk/internal/util/ArraysSupport" (some 0) with
  accessFlags := 33
  interfaces := #[]
  cf := some (fileOf pool13 21 #[] #[{ accessFlags := 2, nameIndex := 9, descriptorIndex := 19, attributes := #[] }] 33 16 #[] #[{ accessFlags := 24, nameIndex := 28, descriptorIndex := 29, attributes := #[] }, { accessFlags := 26, nameIndex := 38, descriptorIndex := 39, attributes := #[] }, { accessFlags := 25, nameIndex := 121, descriptorIndex := 25, attributes := #[] }, { accessFlags := 25, nameIndex := 131, descriptorIndex := 25, attributes := #[] }, { accessFlags := 25, nameIndex := 137, descriptorIndex := 25, attributes := #[] }, { accessFlags := 25, nameIndex := 143, descriptorIndex := 25, attributes := #[] }, { accessFlags := 25, nameIndex := 53, descriptorIndex := 25, attributes := #[] }, { accessFlags := 25, nameIndex := 24, descriptorIndex := 25, attributes := #[] }, { accessFlags := 25, nameIndex := 162, descriptorIndex := 25, attributes := #[] }, { accessFlags := 25, nameIndex := 187, descriptorIndex := 25, attributes := #[] }, { accessFlags := 26, nameIndex := 48, descriptorIndex := 25, attributes := #[] }, { accessFlags := 25, nameIndex := 277, descriptorIndex := 25, attributes := #[] }, { accessFlags := 25, nameIndex := 280, descriptorIndex := 25, attributes := #[] }, { accessFlags := 25, nameIndex := 282, descriptorIndex := 25, attributes := #[] }, { accessFlags := 25, nameIndex := 284, descriptorIndex := 25, attributes := #[] }, { accessFlags := 25, nameIndex := 286, descriptorIndex := 25, attributes := #[] }, { accessFlags := 25, nameIndex := 288, descriptorIndex := 25, attributes := #[] }, { accessFlags := 25, nameIndex := 290, descriptorIndex := 25, attributes := #[] }, { accessFlags := 25, nameIndex := 292, descriptorIndex := 25, attributes := #[] }, { accessFlags := 26, nameIndex := 108, descriptorIndex := 109, attributes := #[] }, { accessFlags := 25, nameIndex := 294, descriptorIndex := 25, attributes := #[] }])
  fields := #[{ name := "U", type := (.object "jdk/internal/misc/Unsafe"), accessFlags := 24, slot := 0, constantValue := 0 }, { name := "BIG_ENDIAN", type := .boolean, accessFlags := 26, slot := 1, constantValue := 0 }, { name := "LOG2_ARRAY_BOOLEAN_INDEX_SCALE", type := .int, accessFlags := 25, slot := 2, constantValue := 0 }, { name := "LOG2_ARRAY_BYTE_INDEX_SCALE", type := .int, accessFlags := 25, slot := 3, constantValue := 0 }, { name := "LOG2_ARRAY_CHAR_INDEX_SCALE", type := .int, accessFlags := 25, slot := 4, constantValue := 0 }, { name := "LOG2_ARRAY_SHORT_INDEX_SCALE", type := .int, accessFlags := 25, slot := 5, constantValue := 0 }, { name := "LOG2_ARRAY_INT_INDEX_SCALE", type := .int, accessFlags := 25, slot := 6, constantValue := 0 }, { name := "LOG2_ARRAY_LONG_INDEX_SCALE", type := .int, accessFlags := 25, slot := 7, constantValue := 0 }, { name := "LOG2_ARRAY_FLOAT_INDEX_SCALE", type := .int, accessFlags := 25, slot := 8, constantValue := 0 }, { name := "LOG2_ARRAY_DOUBLE_INDEX_SCALE", type := .int, accessFlags := 25, slot := 9, constantValue := 0 }, { name := "LOG2_BYTE_BIT_SIZE", type := .int, accessFlags := 26, slot := 10, constantValue := 0 }, { name := "T_BOOLEAN", type := .int, accessFlags := 25, slot := 11, constantValue := 0 }, { name := "T_CHAR", type := .int, accessFlags := 25, slot := 12, constantValue := 0 }, { name := "T_FLOAT", type := .int, accessFlags := 25, slot := 13, constantValue := 0 }, { name := "T_DOUBLE", type := .int, accessFlags := 25, slot := 14, constantValue := 0 }, { name := "T_BYTE", type := .int, accessFlags := 25, slot := 15, constantValue := 0 }, { name := "T_SHORT", type := .int, accessFlags := 25, slot := 16, constantValue := 0 }, { name := "T_INT", type := .int, accessFlags := 25, slot := 17, constantValue := 0 }, { name := "T_LONG", type := .int, accessFlags := 25, slot := 18, constantValue := 0 }, { name := "JLA", type := (.object "jdk/internal/access/JavaLangAccess"), accessFlags := 26, slot := 19, constantValue := 0 }, { name := "SOFT_MAX_ARRAY_LENGTH", type := .int, accessFlags := 25, slot := 20, constantValue := 0 }]
  methods := #[k13m0]
  instanceTypes := #[]
  staticTypes := #[(.object "jdk/internal/misc/Unsafe"), .boolean, .int, .int, .int, .int, .int, .int, .int, .int, .int, .int, .int, .int, .int, .int, .int, .int, .int, (.object "jdk/internal/access/JavaLangAccess"), .int]
  resolved := Array.replicate 378 none
  statics := none }

def pool14 : Array CpInfo := pool [(1, u "java/lang/Cloneable"), (0, .class_ 1), (0, u "java/lang/Object"), (0, .class_ 3)] 3

/-- java/lang/Cloneable -/
def k14 : Class := { plain "java/lang/Cloneable" (some 0) with
  accessFlags := 1537
  interfaces := #[]
  cf := some (fileOf pool14 2 #[] #[] 1537 4 #[] #[])
  fields := #[]
  methods := #[]
  instanceTypes := #[]
  staticTypes := #[]
  resolved := Array.replicate 8 none
  statics := none }

/-- the primitive byte -/
def k15 : Class := { plain "byte" none with kind := .primitive 'B', accessFlags := 0x411 }
/-- [B -/
def k16 : Class := { plain "[B" (some 0) with kind := .array 15 .byte, interfaces := #[14, 4], accessFlags := 1041 }

/-- the primitive char -/
def k17 : Class := { plain "char" none with kind := .primitive 'C', accessFlags := 0x411 }
/-- [C -/
def k18 : Class := { plain "[C" (some 0) with kind := .array 17 .char, interfaces := #[14, 4], accessFlags := 1041 }

/-- the primitive int -/
def k19 : Class := { plain "int" none with kind := .primitive 'I', accessFlags := 0x411 }
/-- [I -/
def k20 : Class := { plain "[I" (some 0) with kind := .array 19 .int, interfaces := #[14, 4], accessFlags := 1041 }

def heap : Heap := #[{ cls := 6, slots := #[.ref 3, .ref 6, .ref 7, .ref 5, .ref 4, .ref 8, .null], vm := .statics 6 },
  { cls := 9, slots := #[.long 0, .int 1, .null, .int 0, .null, .int 0, .int 0], vm := .statics 9 },
  { cls := 10, slots := #[.null, .null, .null], vm := .statics 10 },
  { cls := 6, slots := #[.null, .int 0, .int 0, .null, .int 32], vm := .none },
  { cls := 6, slots := #[.null, .int 0, .int 0, .null, .int 96], vm := .none },
  { cls := 6, slots := #[.null, .int 0, .int 0, .null, .int 64], vm := .none },
  { cls := 6, slots := #[.null, .int 0, .int 0, .null, .int 40], vm := .none },
  { cls := 6, slots := #[.null, .int 0, .int 0, .null, .int 56], vm := .none },
  { cls := 6, slots := #[.null, .int 0, .int 0, .null, .int 128], vm := .none }]
def classes : Array Class := #[k0, k1, k2, k3, k4, k5, k6, k7, k8, k9, k10, k11, k12, k13, k14, k15, k16, k17, k18, k19, k20]
def interned : List (Array UInt16 × Addr) := []
def slotsUsed : Nat := 47
def theMethod : MethodId := ⟨1, 2⟩
def args0 : Array Value := #[.int 5, .int 6, .int 7, .int 8, .int 9, .int 10]
def aboutOver (below : List Frame) : State where
  vm := { classes := classes, interned := interned.toArray }
  heap := heap
  slotsUsed := slotsUsed
  threads := #[{ frames := .invoking theMethod args0 :: below }]
def below0 : List Frame := [.native { method := ⟨0, 0⟩, args := #[] }]
def about1 : State := aboutOver below0
def p0 : Program := .bare "" "" ""
def e0 : Env := launch0.env 0 0 0
theorem w_frames : about1.frames = Frame.invoking theMethod args0 :: below0 := rfl
set_option maxRecDepth 65536 in
theorem w_args : argsFit about1.vm theMethod args0 = true := by decide +kernel
set_option maxRecDepth 65536 in
theorem w_heap : heapFits about1 = true := by decide +kernel
set_option maxRecDepth 65536 in
theorem w_runnable : about1.curStatus? = some .runnable := by decide +kernel
set_option maxRecDepth 65536 in
theorem w_alone : about1.alone = true := by decide +kernel
set_option maxRecDepth 65536 in
theorem w_named : about1.methodNamed? x = some theMethod := by decide +kernel
set_option maxRecDepth 65536 in
theorem w_hears : about1.hears theMethod below0 = true := by decide +kernel
set_option maxRecDepth 65536 in
theorem w_ripe : about1.ripe theMethod args0 below0 = true := by decide +kernel
theorem w_running : about1.status = .running := rfl
set_option maxRecDepth 65536 in
theorem w_room : about1.hasRoom e0.platform room_1 = true :=
  launch0.hasRoom_least _ room_1 (by decide +kernel) (by decide +kernel) (by decide +kernel) (by decide +kernel) (by decide +kernel) (by decide +kernel)
theorem allAtoms_all (ts : List Jvm.Cond) (a : Array Jvm.Value) (st : Jvm.State) : (allAtoms ts).before a st = ts.all (fun c => c.before a st) := by
  induction ts with
  | nil => rfl
  | cons c t ih =>
    show (Jvm.Cond.and c (allAtoms t)).before a st = _
    rw [Jvm.Cond.before_and, ih, List.all_cons]
def words1 : List Jvm.Cond := Jvm.Cond.code x code maxLocals ret :: tables_1
/-- a 'code' word, met by the world's own term for the bytes: nothing is compared byte by byte -/
theorem code_word {y : MethodName} {bytes : ByteArray} {mx : Nat} {rt : Option FieldType} {a : Array Value} {s : State} {m : MethodId} {meth : Method} {c : Code} (h1 : s.methodNamed? y = some m) (h2 : s.vm.method? m = some meth) (h3 : meth.code = some c) (h4 : c.code = bytes)
    (h5 : (c.maxLocals == mx && c.exceptionTable.isEmpty && decide (c.maxStack ≤ mostOperands) && decide (meth.sig.returnType = rt) && !meth.locks && decide (parseMethodDescriptor y.desc = some meth.sig)) = true) : (Jvm.Cond.code y bytes mx rt).before a s = true := by
  simp only [Bool.and_eq_true, beq_iff_eq, Bool.not_eq_true', decide_eq_true_eq] at h5
  obtain ⟨⟨⟨⟨⟨g1, g2⟩, g3⟩, g4⟩, g5⟩, g6⟩ := h5
  simp [Cond.before, Cond.holds, Cond.value, h1, h2, h3, h4, g1, g2, g3, g4, g5, g6]
def isCode : Jvm.Cond → Bool
  | .code _ _ _ _ => true
  | _ => false
theorem all_split {L : List Jvm.Cond} {P : Jvm.Cond → Bool} (h1 : L.all (fun c => isCode c || P c) = true) (h2 : ∀ c ∈ L.filter isCode, P c = true) : L.all P = true := by
  refine List.all_eq_true.mpr fun c hc => ?_
  have h := List.all_eq_true.mp h1 c hc
  rcases Bool.eq_false_or_eq_true (isCode c) with hi | hi
  · exact h2 c (List.mem_filter.mpr ⟨hc, hi⟩)
  · simpa [hi] using h
set_option maxRecDepth 65536 in
theorem w_c0 : (Jvm.Cond.code x code maxLocals ret).before args0 about1 = true := code_word (m := ⟨1, 2⟩) (meth := k1m2) (c := k1c2) (by decide +kernel) rfl rfl rfl (by decide +kernel)
set_option maxRecDepth 65536 in
theorem w_c1 : (Jvm.Cond.code ({ cls := "java/lang/String", name := "<init>", desc := "([CII)V" } : Jvm.MethodName) jdk_42_method_4_code (4 : Nat) (Option.none : Option Jvm.ClassFile.FieldType)).before args0 about1 = true := code_word (m := ⟨9, 1⟩) (meth := k9m1) (c := k9c1) (by decide +kernel) rfl rfl rfl (by decide +kernel)
set_option maxRecDepth 65536 in
theorem w_c2 : (Jvm.Cond.code ({ cls := "java/lang/String", name := "rangeCheck", desc := "([CII)Ljava/lang/Void;" } : Jvm.MethodName) jdk_42_method_5_code (3 : Nat) (Option.some (Jvm.ClassFile.FieldType.object "java/lang/Void"))).before args0 about1 = true := code_word (m := ⟨9, 2⟩) (meth := k9m2) (c := k9c2) (by decide +kernel) rfl rfl rfl (by decide +kernel)
set_option maxRecDepth 65536 in
theorem w_c3 : (Jvm.Cond.code ({ cls := "java/lang/String", name := "checkBoundsOffCount", desc := "(III)I" } : Jvm.MethodName) jdk_42_method_157_code (3 : Nat) (Option.some Jvm.ClassFile.FieldType.int)).before args0 about1 = true := code_word (m := ⟨9, 9⟩) (meth := k9m9) (c := k9c9) (by decide +kernel) rfl rfl rfl (by decide +kernel)
set_option maxRecDepth 65536 in
theorem w_c4 : (Jvm.Cond.code ({ cls := "jdk/internal/util/Preconditions", name := "checkFromIndexSize", desc := "(IIILjava/util/function/BiFunction;)I" } : Jvm.MethodName) jdk_41_method_13_code (4 : Nat) (Option.some Jvm.ClassFile.FieldType.int)).before args0 about1 = true := code_word (m := ⟨10, 2⟩) (meth := k10m2) (c := k10c2) (by decide +kernel) rfl rfl rfl (by decide +kernel)
set_option maxRecDepth 65536 in
theorem w_c5 : (Jvm.Cond.code ({ cls := "java/lang/String", name := "<init>", desc := "([CIILjava/lang/Void;)V" } : Jvm.MethodName) jdk_42_method_149_code (6 : Nat) (Option.none : Option Jvm.ClassFile.FieldType)).before args0 about1 = true := code_word (m := ⟨9, 5⟩) (meth := k9m5) (c := k9c5) (by decide +kernel) rfl rfl rfl (by decide +kernel)
set_option maxRecDepth 65536 in
theorem w_c6 : (Jvm.Cond.code ({ cls := "java/lang/Object", name := "<init>", desc := "()V" } : Jvm.MethodName) object_method_1_code (1 : Nat) (Option.none : Option Jvm.ClassFile.FieldType)).before args0 about1 = true := code_word (m := ⟨0, 0⟩) (meth := k0m0) (c := k0c0) (by decide +kernel) rfl rfl rfl (by decide +kernel)
set_option maxRecDepth 65536 in
theorem w_c7 : (Jvm.Cond.code ({ cls := "com/example/packstone/packstone/model/ChecksumAlgorithm", name := "isChecksum", desc := "(Ljava/lang/String;)Z" } : Jvm.MethodName) prog_50_method_5_code (4 : Nat) (Option.some Jvm.ClassFile.FieldType.boolean)).before args0 about1 = true := code_word (m := ⟨6, 0⟩) (meth := k6m0) (c := k6c0) (by decide +kernel) rfl rfl rfl (by decide +kernel)
set_option maxRecDepth 65536 in
theorem w_c8 : (Jvm.Cond.code ({ cls := "java/lang/String", name := "length", desc := "()I" } : Jvm.MethodName) jdk_42_method_54_code (1 : Nat) (Option.some Jvm.ClassFile.FieldType.int)).before args0 about1 = true := code_word (m := ⟨9, 3⟩) (meth := k9m3) (c := k9c3) (by decide +kernel) rfl rfl rfl (by decide +kernel)
set_option maxRecDepth 65536 in
theorem w_c9 : (Jvm.Cond.code ({ cls := "java/lang/String", name := "coder", desc := "()B" } : Jvm.MethodName) jdk_42_method_152_code (1 : Nat) (Option.some Jvm.ClassFile.FieldType.byte)).before args0 about1 = true := code_word (m := ⟨9, 6⟩) (meth := k9m6) (c := k9c6) (by decide +kernel) rfl rfl rfl (by decide +kernel)
set_option maxRecDepth 65536 in
theorem w_c10 : (Jvm.Cond.code ({ cls := "java/lang/StringUTF16", name := "compress", desc := "([CII)[B" } : Jvm.MethodName) jdk_52_method_16_code (6 : Nat) (Option.some (Jvm.ClassFile.FieldType.array Jvm.ClassFile.FieldType.byte))).before args0 about1 = true := code_word (m := ⟨11, 2⟩) (meth := k11m2) (c := k11c2) (by decide +kernel) rfl rfl rfl (by decide +kernel)
set_option maxRecDepth 65536 in
theorem w_c11 : (Jvm.Cond.code ({ cls := "java/lang/StringUTF16", name := "compress", desc := "([CI[BII)I" } : Jvm.MethodName) jdk_52_method_21_code (7 : Nat) (Option.some Jvm.ClassFile.FieldType.int)).before args0 about1 = true := code_word (m := ⟨11, 3⟩) (meth := k11m3) (c := k11c3) (by decide +kernel) rfl rfl rfl (by decide +kernel)
set_option maxRecDepth 65536 in
theorem w_c12 : (Jvm.Cond.code ({ cls := "java/lang/StringUTF16", name := "coderFromArrayLen", desc := "([BI)B" } : Jvm.MethodName) jdk_52_method_15_code (2 : Nat) (Option.some Jvm.ClassFile.FieldType.byte)).before args0 about1 = true := code_word (m := ⟨11, 1⟩) (meth := k11m1) (c := k11c1) (by decide +kernel) rfl rfl rfl (by decide +kernel)
set_option maxRecDepth 65536 in
theorem w_c13 : (Jvm.Cond.code ({ cls := "com/example/packstone/packstone/model/ChecksumAlgorithmIsChecksumPinLaw", name := "isHex", desc := "(C)Z" } : Jvm.MethodName) method_2_code (3 : Nat) (Option.some Jvm.ClassFile.FieldType.boolean)).before args0 about1 = true := code_word (m := ⟨1, 1⟩) (meth := k1m1) (c := k1c1) (by decide +kernel) rfl rfl rfl (by decide +kernel)
set_option maxRecDepth 65536 in
theorem w_c14 : (Jvm.Cond.code ({ cls := "java/lang/String", name := "charAt", desc := "(I)C" } : Jvm.MethodName) jdk_42_method_56_code (2 : Nat) (Option.some Jvm.ClassFile.FieldType.char)).before args0 about1 = true := code_word (m := ⟨9, 4⟩) (meth := k9m4) (c := k9c4) (by decide +kernel) rfl rfl rfl (by decide +kernel)
set_option maxRecDepth 65536 in
theorem w_c15 : (Jvm.Cond.code ({ cls := "java/lang/String", name := "isLatin1", desc := "()Z" } : Jvm.MethodName) jdk_42_method_154_code (1 : Nat) (Option.some Jvm.ClassFile.FieldType.boolean)).before args0 about1 = true := code_word (m := ⟨9, 7⟩) (meth := k9m7) (c := k9c7) (by decide +kernel) rfl rfl rfl (by decide +kernel)
set_option maxRecDepth 65536 in
theorem w_c16 : (Jvm.Cond.code ({ cls := "java/lang/StringLatin1", name := "charAt", desc := "([BI)C" } : Jvm.MethodName) jdk_43_method_2_code (2 : Nat) (Option.some Jvm.ClassFile.FieldType.char)).before args0 about1 = true := code_word (m := ⟨12, 1⟩) (meth := k12m1) (c := k12c1) (by decide +kernel) rfl rfl rfl (by decide +kernel)
set_option maxRecDepth 65536 in
theorem w_c17 : (Jvm.Cond.code ({ cls := "java/lang/String", name := "checkIndex", desc := "(II)V" } : Jvm.MethodName) jdk_42_method_155_code (2 : Nat) (Option.none : Option Jvm.ClassFile.FieldType)).before args0 about1 = true := code_word (m := ⟨9, 8⟩) (meth := k9m8) (c := k9c8) (by decide +kernel) rfl rfl rfl (by decide +kernel)
set_option maxRecDepth 65536 in
theorem w_c18 : (Jvm.Cond.code ({ cls := "jdk/internal/util/Preconditions", name := "checkIndex", desc := "(IILjava/util/function/BiFunction;)I" } : Jvm.MethodName) jdk_41_method_11_code (3 : Nat) (Option.some Jvm.ClassFile.FieldType.int)).before args0 about1 = true := code_word (m := ⟨10, 1⟩) (meth := k10m1) (c := k10c1) (by decide +kernel) rfl rfl rfl (by decide +kernel)
def codes1 : List Jvm.Cond := [Jvm.Cond.code x code maxLocals ret, Jvm.Cond.code ({ cls := "java/lang/String", name := "<init>", desc := "([CII)V" } : Jvm.MethodName) jdk_42_method_4_code (4 : Nat) (Option.none : Option Jvm.ClassFile.FieldType), Jvm.Cond.code ({ cls := "java/lang/String", name := "rangeCheck", desc := "([CII)Ljava/lang/Void;" } : Jvm.MethodName) jdk_42_method_5_code (3 : Nat) (Option.some (Jvm.ClassFile.FieldType.object "java/lang/Void")), Jvm.Cond.code ({ cls := "java/lang/String", name := "checkBoundsOffCount", desc := "(III)I" } : Jvm.MethodName) jdk_42_method_157_code (3 : Nat) (Option.some Jvm.ClassFile.FieldType.int), Jvm.Cond.code ({ cls := "jdk/internal/util/Preconditions", name := "checkFromIndexSize", desc := "(IIILjava/util/function/BiFunction;)I" } : Jvm.MethodName) jdk_41_method_13_code (4 : Nat) (Option.some Jvm.ClassFile.FieldType.int), Jvm.Cond.code ({ cls := "java/lang/String", name := "<init>", desc := "([CIILjava/lang/Void;)V" } : Jvm.MethodName) jdk_42_method_149_code (6 : Nat) (Option.none : Option Jvm.ClassFile.FieldType), Jvm.Cond.code ({ cls := "java/lang/Object", name := "<init>", desc := "()V" } : Jvm.MethodName) object_method_1_code (1 : Nat) (Option.none : Option Jvm.ClassFile.FieldType), Jvm.Cond.code ({ cls := "com/example/packstone/packstone/model/ChecksumAlgorithm", name := "isChecksum", desc := "(Ljava/lang/String;)Z" } : Jvm.MethodName) prog_50_method_5_code (4 : Nat) (Option.some Jvm.ClassFile.FieldType.boolean), Jvm.Cond.code ({ cls := "java/lang/String", name := "length", desc := "()I" } : Jvm.MethodName) jdk_42_method_54_code (1 : Nat) (Option.some Jvm.ClassFile.FieldType.int), Jvm.Cond.code ({ cls := "java/lang/String", name := "coder", desc := "()B" } : Jvm.MethodName) jdk_42_method_152_code (1 : Nat) (Option.some Jvm.ClassFile.FieldType.byte), Jvm.Cond.code ({ cls := "java/lang/StringUTF16", name := "compress", desc := "([CII)[B" } : Jvm.MethodName) jdk_52_method_16_code (6 : Nat) (Option.some (Jvm.ClassFile.FieldType.array Jvm.ClassFile.FieldType.byte)), Jvm.Cond.code ({ cls := "java/lang/StringUTF16", name := "compress", desc := "([CI[BII)I" } : Jvm.MethodName) jdk_52_method_21_code (7 : Nat) (Option.some Jvm.ClassFile.FieldType.int), Jvm.Cond.code ({ cls := "java/lang/StringUTF16", name := "coderFromArrayLen", desc := "([BI)B" } : Jvm.MethodName) jdk_52_method_15_code (2 : Nat) (Option.some Jvm.ClassFile.FieldType.byte), Jvm.Cond.code ({ cls := "com/example/packstone/packstone/model/ChecksumAlgorithmIsChecksumPinLaw", name := "isHex", desc := "(C)Z" } : Jvm.MethodName) method_2_code (3 : Nat) (Option.some Jvm.ClassFile.FieldType.boolean), Jvm.Cond.code ({ cls := "java/lang/String", name := "charAt", desc := "(I)C" } : Jvm.MethodName) jdk_42_method_56_code (2 : Nat) (Option.some Jvm.ClassFile.FieldType.char), Jvm.Cond.code ({ cls := "java/lang/String", name := "isLatin1", desc := "()Z" } : Jvm.MethodName) jdk_42_method_154_code (1 : Nat) (Option.some Jvm.ClassFile.FieldType.boolean), Jvm.Cond.code ({ cls := "java/lang/StringLatin1", name := "charAt", desc := "([BI)C" } : Jvm.MethodName) jdk_43_method_2_code (2 : Nat) (Option.some Jvm.ClassFile.FieldType.char), Jvm.Cond.code ({ cls := "java/lang/String", name := "checkIndex", desc := "(II)V" } : Jvm.MethodName) jdk_42_method_155_code (2 : Nat) (Option.none : Option Jvm.ClassFile.FieldType), Jvm.Cond.code ({ cls := "jdk/internal/util/Preconditions", name := "checkIndex", desc := "(IILjava/util/function/BiFunction;)I" } : Jvm.MethodName) jdk_41_method_11_code (3 : Nat) (Option.some Jvm.ClassFile.FieldType.int)]
set_option maxRecDepth 65536 in
theorem codes_eq : words1.filter isCode = codes1 := rfl
theorem w_codes : ∀ c ∈ words1.filter isCode, c.before args0 about1 = true := by
  rw [codes_eq]
  intro c hc
  simp only [codes1, List.mem_cons, List.not_mem_nil, or_false] at hc
  rcases hc with rfl | rfl | rfl | rfl | rfl | rfl | rfl | rfl | rfl | rfl | rfl | rfl | rfl | rfl | rfl | rfl | rfl | rfl | rfl
  · exact w_c0
  · exact w_c1
  · exact w_c2
  · exact w_c3
  · exact w_c4
  · exact w_c5
  · exact w_c6
  · exact w_c7
  · exact w_c8
  · exact w_c9
  · exact w_c10
  · exact w_c11
  · exact w_c12
  · exact w_c13
  · exact w_c14
  · exact w_c15
  · exact w_c16
  · exact w_c17
  · exact w_c18
set_option maxRecDepth 65536 in
theorem w_t1 : (words1.take 24).all (fun c => isCode c || c.before args0 about1) = true := by decide +kernel
set_option maxRecDepth 65536 in
theorem w_t2 : ((words1.drop 24).take 24).all (fun c => isCode c || c.before args0 about1) = true := by decide +kernel
set_option maxRecDepth 65536 in
theorem w_t3 : (((words1.drop 24).drop 24).take 24).all (fun c => isCode c || c.before args0 about1) = true := by decide +kernel
set_option maxRecDepth 65536 in
theorem w_t4 : ((((words1.drop 24).drop 24).drop 24).take 24).all (fun c => isCode c || c.before args0 about1) = true := by decide +kernel
set_option maxRecDepth 65536 in
theorem w_t5 : ((((words1.drop 24).drop 24).drop 24).drop 24).all (fun c => isCode c || c.before args0 about1) = true := by decide +kernel
theorem w_tables : (allAtoms (Jvm.Cond.code x code maxLocals ret :: tables_1)).before args0 about1 = true := by
  rw [allAtoms_all]
  show words1.all (fun c => c.before args0 about1) = true
  refine all_split ?_ w_codes
  rw [← List.take_append_drop 24 words1, List.all_append, w_t1, ← List.take_append_drop 24 (words1.drop 24), List.all_append, w_t2, ← List.take_append_drop 24 ((words1.drop 24).drop 24), List.all_append, w_t3, ← List.take_append_drop 24 (((words1.drop 24).drop 24).drop 24), List.all_append, w_t4, w_t5]
  rfl
set_option maxRecDepth 65536 in
theorem w_rest : rest_1_c.before args0 about1 = true := by decide +kernel
set_option maxRecDepth 65536 in
theorem w_case : (Jvm.Cond.and given_1 narrow_1).before args0 about1 = true := by decide +kernel
set_option maxRecDepth 65536 in
theorem w_consts : constsHeld consts_1 about1 := Jvm.Lit.constsHeldB_iff.mp (by decide +kernel)
theorem w_applies : (headSpec (Jvm.Cond.code x code maxLocals ret :: tables_1) room_1).applies x e0.platform about1 = true :=
  (Spec.applies_iff w_frames).mpr ⟨w_running, w_runnable, w_alone, w_named, w_hears, w_ripe, w_room, w_tables⟩
theorem atStart : AtStart classFile x code maxLocals ret World_1 tables_1 room_1 Calls_1 rest_1 Pre_1 launch0 p0 e0 about1 theMethod args0 below0 :=
  ⟨lists_1, trivial, launch0.admits_env _ _ _, launch0.least_env, fairChoices_fair.cas, fairChoices_fair.clock, w_frames, w_args, w_heap, w_applies, ⟨w_consts, trivial⟩, w_rest, w_case⟩
end start1
theorem witness_1 : WitnessClaimed_1 := ⟨start1.p0, start1.e0, start1.about1, start1.theMethod, start1.args0, start1.below0, start1.atStart⟩
end Jvm.Pilot.@@N@@
