import JvmDerived
import JvmDerived.Pilot.@@N@@Statement
import JvmDerived.Pilot.@@N@@Code
set_option linter.unusedVariables false
set_option linter.unusedSimpArgs false
@@BLOCK:LamKit.lean.txt@@
namespace Jvm.RoadKit
open Sem ClassFile Op Lib Jvm.Stand Jvm.Free Jvm.LawKit
section New
variable {p : Program} {l : Launch} {e : Env} {R : Room} {s : State} {m : MethodId} {args : Array Value} {below : List Frame} {meth : Method} {c : Code} {T : State} {locs : List Loc} {cells slots : Nat}
theorem retI (X : Stand p l e R s m args below meth c T locs cells slots) (hx : p.tables.exec = Jvm.exec) {pc : Nat} {Ls : Array Slot} {z : Int32} {rest : List Value} (hret : meth.sig.returnType = some .int) (hd : decode c.code pc = .ok (.ireturn, 1)) {fs : List Frame}
    (hl : ∀ (f : JFrame) (acts : List Action), f.method = m → f.locked = none → f.entered = [] → (doReturn e (T.setTop f) acts (some (.int z))).1 = T.setFrames fs) : Steps p.tables e below (T.setTop (mkF m pc Ls (.int z :: rest))) (T.setFrames fs) := by
  have hm' : T.vm.method? m = some meth := X.method'
  have hn : narrow .int (.int z) = .int z := rfl
  show Steps p.tables e below (T.setTop { method := m, pc := pc, locals := Ls, stack := _ :: rest, locked := none }) _
  jvm_step X.here [X.here.top, hx, hd, hm', hret, hn]
  first | (intro acts; rw [hl _ acts rfl rfl rfl]) | rw [hl _ _ rfl rfl rfl]
  exact Steps.refl _
end New
end Jvm.RoadKit
namespace Jvm.RoadKit
open Sem ClassFile Op Lib Jvm.Stand Jvm.Free Jvm.LawKit Jvm.LamKit Jvm.Lambda
section OwnLam
variable {p : Program} {l : Launch} {e : Env} {R : Room} {s : State} {m : MethodId} {args : Array Value} {below : List Frame} {meth : Method} {c : Code} {T : State} {locs : List Loc} {cells slots : Nat} {Z : State} {a0 : Array Value} {h : Heap}
/-- backOf, the tables warmed in the narrow sense -/
theorem own_backH {y : MethodName} {bytes : ByteArray} {maxL : Nat} {ret : Option FieldType} {rm : Room} {len W : Nat} {as' : Array Value} {Q : Option Value → Heap → List Loc → Prop}
    (hM : MetFree l y (head1 [Cond.code y bytes maxL ret] rm) (fun a U => a = as' ∧ Z.WarmedH U.vm ∧ U.heap = h) (fun _ _ _ _ _ => True) (fun _ U o U' => ∃ v L, o = .returned v ∧ Q v U'.heap L ∧ FrameEnd U o U' L rm.cells rm.slots))
    (hZ : Z.WarmedH s.vm) (wc : (Cond.code y bytes maxL ret).before a0 Z = true) (wz : (Cond.initialized y.cls).before a0 Z = true) (hf : rm.frames + 1 ≤ R.frames) (hl : W + (maxL + 11) + rm.locals ≤ R.locals) :
    Back l R p e below s args y len W (fun A a => a = as' ∧ A.U.heap = h ∧ A.cells + rm.cells ≤ R.cells ∧ A.slots + rm.slots ≤ R.slots)
      (fun A _ v B => ∃ L, Q v B.U.heap L ∧ B.locs = A.locs ++ L ∧ B.cells = A.cells + rm.cells ∧ B.slots = A.slots + rm.slots) :=
  Back.of_free (bytes := bytes) (maxL := maxL) (ret := ret) (E := fun _ _ o t L k n => k = rm.cells ∧ n = rm.slots ∧ ∃ v, o = .returned v ∧ Q v t.heap L) hM hf hl
    (fun m meth c A a Y hp => have hU : Z.Warmed39 A.U.vm := wtrans hZ.wide Y.warmed
      ⟨by show (Cond.and _ .tt).before a A.U = true; rw [Cond.before_and, mv hU wc]; rfl, mv hU wc, mv hU wz, hp.2.2.1, hp.2.2.2⟩)
    (fun m meth c A a g mk Y hp => ⟨hp.1, State.WarmedH.trans hZ Y.warmed, hp.2.1⟩) (fun _ _ _ _ _ _ _ _ _ => trivial)
    (fun _ _ _ _ ⟨v, L, h1, h2, h3⟩ => ⟨L, _, _, h3, rfl, rfl, v, h1, h2⟩)
    (fun m meth c A a g mk v t L k n Y hp _ _ ⟨e1, e2, v', e3, e4⟩ => by cases e3; subst e1 e2; exact ⟨L, e4, rfl, rfl, rfl⟩)
theorem own_made {host : String} {σ : Lambda.Shape} {cK : ClassId} (hZ : Z.WarmedH s.vm) (hm : LamKit.Made Z host σ cK) : LamKit.Made s host σ cK := by
  obtain ⟨d, dk, hd, hn, hmade, hcan⟩ := hm
  obtain ⟨dk', hd', he⟩ := hZ.alike.2.2 _ _ hd
  refine ⟨d, dk', hd', by rw [he]; exact hn, isMade_warmer hZ hmade, ?_⟩
  have hA := hZ.alike
  simp only [State.lambdaCallable, hA.findClass, hA.assignable, hA.superclasses, hA.declaredIn] at hcan ⊢
  exact hcan
/-- an interface call on a function object: into its forwarder, and out of it -/
theorem own_enter (X : Stand p l e R s m args below meth c T locs cells slots) (hexec : p.tables.exec = Jvm.exec) (hZ : Z.WarmedH s.vm) {own host : String} {index count : Nat} {xi : MethodName} {σ : Lambda.Shape}
    (hown : s.vm.findClass own = some m.cls) (hlink : (Cond.methodLink own index xi).before a0 Z = true) (hdecl : (Cond.declares xi).before a0 Z = true) (hface' : (Cond.interfaceMethod xi.cls xi.cls xi.name xi.desc).before args s = true)
    (hxi : xi.cls = σ.iface ∧ xi.name = σ.name ∧ xi.desc = σ.sam.toString) (hpoly : xi.cls ≠ "java/lang/invoke/MethodHandle" ∧ xi.cls ≠ "java/lang/invoke/VarHandle")
    {a : Addr} {cK : ClassId} (hmdZ : LamKit.Made Z host σ cK) (hfn : FnAt T.heap a cK)
    {fcode : ByteArray} {fml idx ci : Nat} {fret : Option FieldType} (hok : fwdOK σ host fcode fml fret idx ci = true)
    {g : JFrame} (hg : g.method = m) (hsize : g.locals.size = c.maxLocals) {argsL rest : List Value} {L0 : Array Slot}
    (hlen : ∀ sig, parseMethodDescriptor xi.desc = some sig → argsL.length = sig.parameters.length)
    (hstack : g.stack = argsL.reverse ++ .ref a :: rest) (hdg : decode c.code g.pc = .ok (.invokeinterface index count, 5))
    (hL0 : ∀ mk, entryFrame mk (Value.ref a :: argsL).toArray fml = mkF mk 0 L0 [])
    {R' : Room} (hfr : R'.frames + 1 ≤ R.frames) (hlo : 2 * g.monitorRoom + (rest.map fun v => v.category).sum + (fml + 11) + R'.locals ≤ R.locals) (hcells : cells + R'.cells ≤ R.cells) (hslots : slots + R'.slots ≤ R.slots) :
    ∃ (methk : Method) (ck : Code) (U s' : State), Stand p l e R' s' ⟨cK, 1⟩ (Value.ref a :: argsL).toArray (.java { g with stack := rest } :: below) methk ck U [] 0 0 ∧ ck.code = fcode ∧ ck.maxLocals = fml ∧ methk.sig.returnType = fret ∧ Z.WarmedH s'.vm ∧ U.heap = T.heap ∧
      ∀ (U' : State) (ls : List Loc) (cc sl : Nat) (v : Option Value) (pcR : Nat) (Ls : Array Slot) (op : Instr), Stand p l e R' s' ⟨cK, 1⟩ (Value.ref a :: argsL).toArray (.java { g with stack := rest } :: below) methk ck U' ls cc sl →
        decode ck.code pcR = .ok (op, 1) → RetOK fret op v → Steps p.tables e (.java { g with stack := rest } :: below) (U.setTop (mkF ⟨cK, 1⟩ 0 L0 [])) (U'.setTop (mkF ⟨cK, 1⟩ pcR Ls v.toList)) →
        ∃ T', Stand p l e R s m args below meth c T' (locs ++ ls) (cells + cc) (slots + sl) ∧ T'.heap = U'.heap ∧
          ∀ target, Steps p.tables e below (T'.setTop { g with pc := g.pc + 5, stack := v.toList ++ rest }) target → Steps p.tables e below (T.setTop g) target := by
  have hZs : Z.Warmed39 s.vm := hZ.wide
  have hmd : LamKit.Made s host σ cK := own_made hZ hmdZ
  have hlink' : (Cond.methodLink own index xi).before args s = true := mv hZs hlink
  have hdecl' : (Cond.declares xi).before args s = true := mv hZs hdecl
  obtain ⟨cell, hcell, rfl, hvmc⟩ := hfn
  obtain ⟨kK, methk, hkK, hmk, hpub, habs, hsel⟩ := madeSelects hmd hok hface' hxi
  obtain ⟨r0, r, hn, hrm, hstR, hsigR⟩ := Cond.declares_spec hdecl'
  obtain ⟨cL, kL, r1, hcL, hkL, hiL, -, -⟩ := Cond.interfaceMethod_spec hface'
  have hr0cls : r0.cls = cL := Option.some.inj ((findClass_of_methodNamed hn).symm.trans hcL)
  obtain ⟨hasg, hsel', hway⟩ := hsel r0 r hn hrm
  obtain ⟨vm₁, X₁, hstep₁⟩ := X.invokeinterface hexec hown hlink' hn hrm hstR (by rw [hr0cls]; exact hkL) hiL hpoly (a := a) (cell := cell) (kcell := kK) hcell (fun z h => by rw [hvmc] at h; cases h) hkK hasg
    (m' := ⟨cell.cls, 1⟩) (meth' := methk) (by rw [Launch.admits_selectMethod X.admits]; exact hsel') hmk hway hpub habs hg (hlen _ hsigR) hstack hdg
  obtain ⟨d, dk, hd, hdn, hmade, -⟩ := id hmd
  have hW₁ : s.WarmedH (T.setVm vm₁).vm := X₁.warmed
  obtain ⟨kD₁, hkD₁, heD₁⟩ := hW₁.alike.2.2 _ _ hd
  obtain ⟨kK₁, tk₁, file₁, methk₁, ck₁, toy₁, t₁, nt, hkK₁, hpn₁, hfile₁, hidx₁, hnt₁, hmk₁, hck₁, hbytes₁, hml₁, hlk₁, -, hretk₁, -⟩ := made_static hok hkD₁ (by rw [heD₁]; exact hdn) (Lambda.isMade_warmer hW₁ hmade)
  have hpk : (T.setVm vm₁).plainMethod ⟨cell.cls, 1⟩ := State.plainMethod.of_name (fun k' hk' => by cases hkK₁.symm.trans hk'; exact hpn₁)
  obtain ⟨Y₀, hin⟩ := X₁.into (g := { g with stack := rest }) hg hsize hdg (Value.ref a :: argsL).toArray (R' := R') hmk₁ hck₁ hlk₁ hpk hfr (by rw [hml₁]; exact hlo) hcells hslots
  rw [hml₁, hL0] at Y₀ hin
  refine ⟨methk₁, ck₁, _, _, Y₀, hbytes₁, hml₁, hretk₁, State.WarmedH.trans hZ hW₁, rfl, ?_⟩
  intro U' ls cc sl v pcR Ls op Y₁ hdR hro hsteps
  obtain ⟨fs, hleave, -, hended, hWe, hsame⟩ := Y₁.leave (v := v) (fun h => by
    rw [hretk₁] at h
    rcases hro with ⟨t, w, e', -⟩ | ⟨w, e', -⟩ | ⟨t, w, e', -⟩ | ⟨-, -, e'⟩
    · rw [e'] at h; cases h
    · rw [e'] at h; cases h
    · rw [e'] at h; cases h
    · exact e') hlk₁
  obtain ⟨T', X', -, -, ht⟩ := X₁.outOf (g := { g with stack := rest }) hg hdg hended hWe hsame
  have hheap' : T'.heap = U'.heap := by
    have q : (U'.setFrames fs).heap = (T'.setTop { g with pc := g.pc + 5, stack := v.toList ++ rest }).heap := congrArg State.heap ht
    exact (show T'.heap = U'.heap from q.symm)
  refine ⟨T', X', hheap', fun target k => hstep₁ _ fun acts => ?_⟩
  rw [hin acts]
  refine Steps.trans ?_ k
  have hfin := Jvm.LamKit.retOut Y₁ hexec (pc := pcR) (Ls := Ls) hretk₁ hro hdR hleave
  have ht' : U'.setFrames fs = T'.setTop { g with pc := g.pc + 5, stack := v.toList ++ rest } := ht
  rw [← ht']
  exact Steps.weaken (mid := [.java { g with stack := rest }]) (hsteps.trans hfin)
/-- the entry idx of the class that the rule makes names the method y -/
def refOK (σ : Lambda.Shape) (host : String) (idx ci : Nat) (y : MethodName) : Bool :=
  match σ.file host with
  | none => false
  | some D =>
    match D.constantPool[idx]?, D.constantPool[ci]? with
    | some (.methodref ci' nt), some (.class_ n) =>
      decide (ci' = ci) && decide (D.constantPool.className? ci = some y.cls) && decide (D.constantPool.nameAndType? nt = some (y.name, y.desc)) && decide (D.constantPool.string? n = some y.cls) && decide (ci ≠ D.thisClass)
    | _, _ => false
theorem made_ref {vm : Vm} {host : String} {d cK : ClassId} {dk : Class} {σ : Lambda.Shape} {idx ci : Nat} {y : MethodName} {toy : ClassId} {tk : Class} {t : MethodId} (hok : refOK σ host idx ci y = true) (hd : vm.classes[d]? = some dk) (hname : dk.name = host)
    (hm : isMade { classPath := fun _ => none } vm d σ cK = true) (htoy : vm.findClass y.cls = some toy) (htk : vm.classes[toy]? = some tk) (hlook : ((methodIn toy y.name y.desc tk.isInterface none).ask { classPath := fun _ => none } vm).1 = .ok t) :
    ∃ (k : Class) (file : ClassFile) (nt : Nat), vm.classes[cK]? = some k ∧ k.cf = some file ∧ file.constantPool[idx]? = some (.methodref ci nt) ∧ file.constantPool.nameAndType? nt = some (y.name, y.desc) ∧ vm.methodReady cK idx t ∧ vm.classReady cK ci toy := by
  obtain ⟨dk', k, ok, tk', file, cf, object, iface, toy', lay, methods, target, found, hd', hk, hfile, hcf, -, -, -, -, -, -, -, -, -, -, -, -, -, -, hpool, -, -, -, hres, -⟩ := isMade_spec hm
  cases hd.symm.trans hd'
  rw [hname] at hcf
  unfold refOK at hok
  rw [hcf] at hok
  dsimp only at hok
  split at hok
  · rename_i ci' nt n hidx hci
    simp only [Bool.and_eq_true, decide_eq_true_eq] at hok
    obtain ⟨⟨⟨⟨rfl, hcn⟩, hnt⟩, hs⟩, hne⟩ := hok
    exact ⟨k, file, nt, hk, hfile, by rw [hpool.2.1]; exact hidx, by rw [hpool.2.1]; exact hnt, ⟨k, hk, hres idx _ (resolvedOf_method hidx hcn htoy htk hnt hlook)⟩, ⟨k, hk, hres ci' _ (resolvedOf_class hci hne hs htoy)⟩⟩
  · cases hok
theorem own_look {y : MethodName} {r0 : MethodId} {tk : Class} (hn : T.methodNamed? y = some r0) (hy : y.cls ≠ "java/lang/invoke/MethodHandle" ∧ y.cls ≠ "java/lang/invoke/VarHandle") (htk : T.vm.classes[r0.cls]? = some tk) :
    T.vm.findClass y.cls = some r0.cls ∧ ((methodIn r0.cls y.name y.desc tk.isInterface none).ask { classPath := fun _ => none } T.vm).1 = .ok r0 := by
  have hf := findClass_of_methodNamed hn
  have h1 : T.methodFound? y.cls y.name y.desc = some r0 := State.methodFound?_of_named hn hy
  simp only [State.methodFound?, hf, htk, Option.bind_eq_bind, Option.bind_some] at h1
  refine ⟨hf, ?_⟩
  cases hq : ((methodIn r0.cls y.name y.desc tk.isInterface none).ask { classPath := fun _ => none } T.vm).1 with
  | ok t => rw [hq] at h1; simp [Except.toOption] at h1; rw [h1]
  | error x => rw [hq] at h1; simp [Except.toOption] at h1
end OwnLam
end Jvm.RoadKit
namespace Jvm.RoadKit
open Sem ClassFile Op Lib Jvm.Stand Jvm.Free Jvm.LawKit Jvm.LamKit Jvm.Lambda
section OwnLam2
variable {p : Program} {l : Launch} {e : Env} {R : Room} {s : State} {m : MethodId} {args : Array Value} {below : List Frame} {meth : Method} {c : Code} {T : State} {locs : List Loc} {cells slots : Nat} {Z : State} {a0 : Array Value} {h h' : Heap}
theorem own_selpriv {y z w : MethodName} {C : String} (hs : (Jvm.Cond.selects C w z).before args s = true) (hz : z.cls = y.cls) (hp : s.PrivateAt y) (hi : (Jvm.Cond.instanceMethod y).before args s = true) (hy : y.cls ≠ "java/lang/invoke/MethodHandle" ∧ y.cls ≠ "java/lang/invoke/VarHandle") : (Jvm.Cond.selects y.cls y y).before args s = true := by
  obtain ⟨c2, r2, m2, -, -, q3, -, kP, hkP, hkPi⟩ := Cond.selects_spec hs
  have hc := findClass_of_methodNamed q3
  rw [hz] at hc
  exact selects_self_of_private hc hkP hkPi hp hi hy
/-- 'invokevirtual' of a private method in a forwarder -/
theorem own_fvp (X : Stand p l e R s m args below meth c T locs cells slots) (hexec : p.tables.exec = Jvm.exec) (hZ : Z.WarmedH s.vm) {host : String} {σ : Lambda.Shape} {cK : ClassId} (hmd : LamKit.Made Z host σ cK) (hm : m = ⟨cK, 1⟩) {idx ci : Nat} {y : MethodName} (hok : refOK σ host idx ci y = true)
    (hy : y.cls ≠ "java/lang/invoke/MethodHandle" ∧ y.cls ≠ "java/lang/invoke/VarHandle") {bytes : ByteArray} {maxL : Nat} {ret : Option FieldType} (hcode : (Cond.code y bytes maxL ret).before a0 Z = true) (hsel : (Cond.selects y.cls y y).before a0 Z = true) (hinst : (Cond.instanceMethod y).before a0 Z = true)
    {W : Nat} {Pre : Pt → Array Value → Prop} {Post : Pt → Array Value → Option Value → Pt → Prop} (hK : Back l R p e below s args y 3 W Pre Post)
    (eT : T.heap = h) {b : Addr} (E : Exa Z h b y.cls) {g : JFrame} (hg : g.method = m) (hsize : g.locals.size = c.maxLocals) {argsL rest : List Value}
    (hlen : ∀ sig, parseMethodDescriptor y.desc = some sig → argsL.length = sig.parameters.length) (hstack : g.stack = argsL.reverse ++ .ref b :: rest) (hW : 2 * g.monitorRoom + (rest.map fun v => v.category).sum ≤ W)
    (hdg : decode c.code g.pc = .ok (.invokevirtual idx, 3)) (hpre : Pre ⟨T, locs, cells, slots⟩ (.ref b :: argsL).toArray) :
    ∃ (v : Option Value) (B : Pt), Stand p l e R s m args below meth c B.U B.locs B.cells B.slots ∧ Post ⟨T, locs, cells, slots⟩ (.ref b :: argsL).toArray v B ∧
      ∀ target, Steps p.tables e below (B.U.setTop { g with pc := g.pc + 3, stack := v.toList ++ rest }) target → Steps p.tables e below (T.setTop g) target := by
  subst hm
  have hWT : Z.WarmedH T.vm := State.WarmedH.trans hZ X.warmed
  have hT : Z.Warmed39 T.vm := hWT.wide
  obtain ⟨mk, methM, hnamed, hmethM, hstR, habM⟩ := Cond.instanceMethod_spec (mv (args := args) (s := T) hT hinst)
  obtain ⟨methM', cM, hmethM', -, -, -, -, -, -, hsigR⟩ := Cond.code_spec hnamed (mv (args := args) (s := T) hT hcode)
  cases hmethM.symm.trans hmethM'
  obtain ⟨c2, r2, m2, q1, q2, q3, q4, kP, hkP, hkPi⟩ := Cond.selects_spec (mv (args := args) (s := T) hT hsel)
  cases (State.methodFound?_of_named hnamed hy).symm.trans q2
  cases hnamed.symm.trans q3
  obtain ⟨tk, htk, hnm⟩ := className_of_methodNamed hnamed
  have htkP : kP = tk := Option.some.inj (hkP.symm.trans htk)
  subst htkP
  obtain ⟨hfy, hlook⟩ := own_look hnamed hy htk
  obtain ⟨d, dk, hd, hdn, hmade, -⟩ := hmd
  obtain ⟨dk', hd', he⟩ := hWT.alike.2.2 _ _ hd
  obtain ⟨k, file, nt, hk, hfile, hidx, hnt, hready, hclsR⟩ := made_ref hok hd' (by rw [he]; exact hdn) (isMade_warmer hWT hmade) hfy htk hlook
  obtain ⟨cell, kc, hcell, hfc, hkc, hst, -⟩ := E
  have hcellT : T.heap[b]? = some cell := by rw [eT]; exact hcell
  have hc2 : c2 = cell.cls := by
    rw [hT.alike.findClass] at q1
    exact Option.some.inj (q1.symm.trans hfc)
  subst hc2
  have hsp : signaturePolymorphic kP methM = false := by simp [signaturePolymorphic, hnm, hy.1, hy.2]
  obtain ⟨v, B, X', hpost, hsteps⟩ := hK _ meth c ⟨T, locs, cells, slots⟩ { g with stack := rest } (.invokevirtual idx) mk (.ref b :: argsL).toArray X hg hsize hdg hW hnamed hpre
  refine ⟨v, B, X', hpost, fun target q => ?_⟩
  have hU' : At T g.method c below := by rw [hg]; exact X.here
  jvm_step hU' [hexec, hdg, invokevirtual.wp_ready (e := e) (s := T) (f := g) (r := mk) (m := mk) (k := kP) (mk := kP) (rmeth := methM) (meth := methM) (a := b) (args := argsL) (rest := rest) (cell := cell) X.here.top
    (by rw [hg]; exact ⟨k, file, ci, nt, mk.cls, kP, hk, hfile, hidx, hclsR, htk, hkPi⟩) (by rw [hg]; exact hready) htk hmethM hsp hstR (hlen _ hsigR) hstack hcellT (fun z q => by rw [q] at hst; cases hst) (by rw [Launch.admits_selectMethod X.admits]; exact q4) hmethM habM htk hkPi]
  intro acts
  rw [doInvoke_state]
  exact hsteps.trans q
/-- the function object L: of the made class, it holds q -/
def LamO (h : Heap) (L : Addr) (cK : ClassId) (q : Addr) : Prop := ∃ cell : Cell, h[L]? = some cell ∧ cell.cls = cK ∧ cell.vm = .none ∧ cell.slots[0]? = some (.ref q)
theorem LamO.lt {L q : Addr} {cK : ClassId} (F : LamO h L cK q) : L < h.size := by obtain ⟨c, h1, -⟩ := F; exact (Array.getElem?_eq_some_iff.mp h1).1
theorem LamO.ext {L q : Addr} {cK : ClassId} (F : LamO h L cK q) (E : Ext h h') : LamO h' L cK q := by obtain ⟨c, h1, r⟩ := F; exact ⟨c, E.2 _ _ h1, r⟩
theorem LamO.keep {L q : Addr} {cK : ClassId} {ws : List Addr} (F : LamO h L cK q) (K : Keep h h' ws) (n : L ∉ ws) : LamO h' L cK q := by obtain ⟨c, h1, r⟩ := F; exact ⟨c, K.2.1 _ _ h1 n, r⟩
theorem LamO.other {L q a : Addr} {cK : ClassId} {sl : Nat} {v : Value} (F : LamO h L cK q) (W : Wr h h' a sl v) (n : L ≠ a) : LamO h' L cK q := F.keep (Keep.of_wr W) (ninS n nin0)
theorem LamO.fn {L q : Addr} {cK : ClassId} (F : LamO h L cK q) (eT : T.heap = h) : FnAt T.heap L cK := by obtain ⟨c, h1, h2, h3, -⟩ := F; exact ⟨c, by rw [eT]; exact h1, h2, h3⟩
/-- 'invokedynamic' at a site that captures one reference -/
theorem own_siteM (X : Stand p l e R s m args below meth c T locs cells slots) (hexec : p.tables.exec = Jvm.exec) (hZ : Z.WarmedH s.vm) {x : MethodName} {pc index fi : Nat} {σ : Lambda.Shape} (hnamed : s.methodNamed? x = some m)
    (hsite : (Cond.lambdaSite x pc index σ).before a0 Z = true) {t : FieldType} (hcap : σ.captured = [t]) (ht : t.isReference = true) (hok : capOK σ x.cls fi 0 = true) (hO : (Cond.instantiable "java/lang/Object" 0).before a0 Z = true)
    (eT : T.heap = h) {g : JFrame} (hg : g.method = m) (hpc : g.pc = pc) (hsize : g.locals.size = c.maxLocals) (hdg : decode c.code g.pc = .ok (.invokedynamic index, 5))
    {q : Addr} {rest : List Value} (hstack : g.stack = .ref q :: rest)
    (hwords : 2 * g.monitorRoom + (g.stack.map fun v => v.category).sum + 3072 ≤ R.locals) (hcells : cells + 1 ≤ R.cells) (hslots : slots + 1 ≤ R.slots) :
    ∃ (cK : ClassId) (T' : State) (h' : Heap), LamKit.Made Z x.cls σ cK ∧ Stand p l e R s m args below meth c T' locs (cells + 1) (slots + 1) ∧ T'.heap = h' ∧ Ext h h' ∧ LamO h' h.size cK q ∧
      ∀ target, Steps p.tables e below (T'.setTop { g with pc := g.pc + 5, stack := .ref h.size :: rest }) target → Steps p.tables e below (T.setTop g) target := by
  obtain ⟨cK, one, hat⟩ := Cond.lambdaSite_spec hsite
  obtain ⟨mD, kD, cfD, i0, p0, lk, hmD, hkD, hcfD, hsh, -, hfind, hmade, hcan, hl⟩ := State.lambdaAt?_spec hat
  have hn' : s.methodNamed? x = some mD := by
    have q := State.methodNamed?_setVm (s := Z) hZ.alike x
    rw [hmD] at q
    exact q
  cases hnamed.symm.trans hn'
  obtain ⟨kD', hkD', hnameD⟩ := className_of_methodNamed hmD
  cases hkD.symm.trans hkD'
  rcases hl with ⟨a, cell, -, -, hc0, -⟩ | ⟨rfl, -, -⟩
  · rw [hcap] at hc0; cases hc0
  · obtain ⟨b, nt, desc, site, h1, h2, h3, h4⟩ := shapeOf?_site hsh
    obtain ⟨kS, hkS, heS⟩ := hZ.alike.2.2 _ _ hkD
    obtain ⟨kc, f, hkc, hkind, hty, -⟩ := made_cap hok hkS (by rw [heS]; exact hnameD) (isMade_warmer hZ hmade) (noFields hO hZ)
    have hty' : kc.instanceTypes = #[t] := by rw [hty, hcap]
    have hna : narrow t (.ref q) = .ref q := by cases t <;> first | rfl | cases ht
    have hfi : fits t (.ref q) = true := by cases t <;> first | rfl | cases ht
    have hz : ((kc.instanceTypes.toList.zip [Value.ref q]).map fun (t, v) => narrow t v) = [.ref q] := by rw [hty']; simp [hna]
    have hw : e.platform.lambdaLinkWords = 3072 := by rw [X.admits.platform]
    have r := X.lambdaMakes hexec hg hsize hdg (vals := [.ref q]) (rest := rest) hkS (by rw [heS, hpc]; exact hfind) (by rw [heS]; exact hcfD) h1 h2 (parseLong_of_parse h3) (by rw [h4, hcap]; rfl) hstack hkc (by rw [hw]; exact hwords) hcells (by rw [hz]; exact hslots)
      (fun i v hv => by
        rw [hz] at hv
        have hv' : [Value.ref q][i]? = some v := by simpa using hv
        cases i with
        | zero => cases hv'; simp [State.fitsSlot, State.slotType?, hkc, hkind, hty', hfi]
        | succ i => simp at hv')
    rw [hz] at r
    subst eT
    exact ⟨cK, _, _, ⟨_, kD, hkD, hnameD, hmade, hcan⟩, by simpa using r.1, rfl, ⟨by show T.heap.size ≤ (T.heap.push _).size; simp, fun a c h => by show (T.heap.push _)[a]? = _; rw [Array.getElem?_push_lt (Array.getElem?_eq_some_iff.mp h).1]; exact (Array.getElem?_eq_getElem _).symm.trans h⟩,
      ⟨_, by show (T.heap.push _)[T.heap.size]? = _; simp; rfl, rfl, rfl, rfl⟩, r.2⟩
/-- an array of which every place has a property -/
def Arp (Z : State) (h : Heap) (a : Addr) (k : ClassId) (ty : FieldType) (n : Int32) (P : Value → Prop) : Prop := ∃ c : Cell, Arr Z h a c ty ∧ c.cls = k ∧ c.slots.size = n.toNatClampNeg ∧ ¬ n < 0 ∧ (∀ (i : Nat) v, c.slots[i]? = some v → P v) ∧ True
variable {a b : Addr} {k : ClassId} {ty : FieldType} {n j : Int32} {P : Value → Prop}
theorem Arp.lt (F : Arp Z h a k ty n P) : a < h.size := by obtain ⟨c, A, -⟩ := F; exact A.lt
theorem Arp.ext (F : Arp Z h a k ty n P) (E : Ext h h') : Arp Z h' a k ty n P := by obtain ⟨c, A, r⟩ := F; exact ⟨c, A.ext E, r⟩
theorem Arp.other {sl : Nat} {v : Value} (F : Arp Z h b k ty n P) (W : Wr h h' a sl v) (q : b ≠ a) : Arp Z h' b k ty n P := by obtain ⟨c, A, r⟩ := F; exact ⟨c, A.other W q, r⟩
theorem Arp.keep {ws : List Addr} (F : Arp Z h a k ty n P) (K : Keep h h' ws) (q : a ∉ ws) : Arp Z h' a k ty n P := by obtain ⟨c, A, r⟩ := F; exact ⟨c, ⟨K.2.1 a c A.1 q, A.2⟩, r⟩
theorem Arp.of {vs : List Value} {d : Value} (F : Arv Z h a k ty n vs d) (hP : ∀ i, P (vs.getD i d)) : Arp Z h a k ty n P := by
  obtain ⟨c, A, q1, q2, q3, H, -⟩ := F
  refine ⟨c, A, q1, q2, q3, fun i v hv => ?_, trivial⟩
  have hi := (Array.getElem?_eq_some_iff.mp hv).1
  cases (H i hi).symm.trans hv
  exact hP i
theorem Arp.get {cl : Cell} (H : ∀ (i : Nat) v, cl.slots[i]? = some v → P v) (hin : ¬ (j < 0 ∨ cl.slots.size ≤ j.toNatClampNeg)) : ∃ v, cl.slots[j.toNatClampNeg]? = some v ∧ P v := by
  have hlt : j.toNatClampNeg < cl.slots.size := Nat.lt_of_not_le fun q => hin (Or.inr q)
  exact ⟨_, Array.getElem?_eq_getElem hlt, H _ _ (Array.getElem?_eq_getElem hlt)⟩
theorem Arp.set {cl : Cell} {v : Value} {i : Nat} (A : Arr Z h a cl ty) (q1 : cl.cls = k) (S : cl.slots.size = n.toNatClampNeg) (q3 : ¬ n < 0) (H : ∀ (i : Nat) v, cl.slots[i]? = some v → P v) (hv : P v) (W : Wr h h' a i v) : Arp Z h' a k ty n P := by
  refine ⟨_, A.same W, q1, by rw [sz_set]; exact S, q3, fun x w hx => ?_, trivial⟩
  by_cases u : i = x
  · subst u
    have hi : i < cl.slots.size := by
      have := (Array.getElem?_eq_some_iff.mp hx).1
      simpa [Cell.setSlot] using this
    rw [Cell.slots_setSlot_self v hi] at hx
    cases hx; exact hv
  · rw [Cell.slots_setSlot_ne v u] at hx
    exact H _ _ hx
def PI (v : Value) : Prop := ∃ y : Int32, v = .int y ∧ (y = -1 ∨ y = 0 ∨ y = 1 ∨ y = 2 ∨ y = 3)
def PJ (v : Value) : Prop := ∃ y : Int64, v = .long y
theorem own_PI {y : Int32} (h : y = -1 ∨ y = 0 ∨ y = 1 ∨ y = 2 ∨ y = 3) : PI (.int y) := ⟨y, rfl, h⟩
theorem own_PJ (y : Int64) : PJ (.long y) := ⟨y, rfl⟩
/-- a store at a place among four -/
theorem own_set4 {cl : Cell} {w x0 x1 x2 x3 dw : Int32} (A : Arr Z h a cl ty) (q1 : cl.cls = k) (S : cl.slots.size = (4 : Int32).toNatClampNeg) (q3 : ¬ (4 : Int32) < 0) (H : Has cl [.int x0, .int x1, .int x2, .int x3] (.int dw)) (G : ∀ i, i < cl.slots.size → fits ty (([.int x0, .int x1, .int x2, .int x3] : List Value).getD i (.int dw)) = true)
    (hv : fits ty (.int w) = true) (W : Wr h h' a j.toNatClampNeg (.int w)) (hj : j = 0 ∨ j = 1 ∨ j = 2 ∨ j = 3) : Arv Z h' a k ty 4 [.int (if j = 0 then w else x0), .int (if j = 1 then w else x1), .int (if j = 2 then w else x2), .int (if j = 3 then w else x3)] (.int dw) := by
  rcases hj with rfl | rfl | rfl | rfl
  · exact Arv.set A q1 S q3 H G hv W 0 rfl (Nat.le_of_ble_eq_true rfl)
  · exact Arv.set A q1 S q3 H G hv W 1 rfl (Nat.le_of_ble_eq_true rfl)
  · exact Arv.set A q1 S q3 H G hv W 2 rfl (Nat.le_of_ble_eq_true rfl)
  · exact Arv.set A q1 S q3 H G hv W 3 rfl (Nat.le_of_ble_eq_true rfl)
theorem own_nd {D : List Addr} (hD : D.Nodup) (i j : Nat) {x y : Addr} (hx : D[i]? = some x) (hy : D[j]? = some y) (hne : i ≠ j) : x ≠ y := fun q => by
  subst q
  have hi := (List.getElem?_eq_some_iff.mp hx).1
  exact hne ((List.getElem?_inj hi hD).mp (hx.trans hy.symm))
theorem own_dup2 {tb : Tables} [Ours tb] {e : Env} {below : List Frame} {T target : State} {m : MethodId} {c : Code} {g : JFrame} (h : At T m c below) (hx : tb.exec = Jvm.exec) (hg : g.method = m) {x y : Value} {rest : List Value} (hd : decode c.code g.pc = .ok (.dup2, 1)) (hs : g.stack = x :: y :: rest) (h1 : x.category = 1) (h2 : y.category = 1)
    (hr : Steps tb e below (T.setTop { g with pc := g.pc + 1, stack := x :: y :: x :: y :: rest }) target) : Steps tb e below (T.setTop g) target := by
  subst hg
  jvm_step h [h.top, hx, hd, hs, h1, h2]
  exact hr
/-- one place of an array -/
def Elt (h : Heap) (a : Addr) (i : Nat) (v : Value) : Prop := ∃ cl : Cell, h[a]? = some cl ∧ cl.slots[i]? = some v
theorem Elt.ext {i : Nat} {v : Value} (F : Elt h a i v) (E : Ext h h') : Elt h' a i v := by obtain ⟨c, h1, r⟩ := F; exact ⟨c, E.2 _ _ h1, r⟩
theorem Elt.keep {i : Nat} {v : Value} {ws : List Addr} (F : Elt h a i v) (K : Keep h h' ws) (q : a ∉ ws) : Elt h' a i v := by obtain ⟨c, h1, r⟩ := F; exact ⟨c, K.2.1 _ _ h1 q, r⟩
theorem Elt.other {i sl : Nat} {v w : Value} (F : Elt h a i v) (W : Wr h h' b sl w) (q : a ≠ b) : Elt h' a i v := F.keep (Keep.of_wr W) (ninS q nin0)
theorem Elt.at {i : Nat} {v : Value} {cl : Cell} (F : Elt h a i v) (hc : h[a]? = some cl) : cl.slots[i]? = some v := by obtain ⟨c, h1, r⟩ := F; cases hc.symm.trans h1; exact r
end OwnLam2
end Jvm.RoadKit
namespace Jvm.RoadKit
open Sem ClassFile Op Lib Jvm.Stand Jvm.Free Jvm.LawKit
section OwnSteps
variable {p : Program} {l : Launch} {e : Env} {R : Room} {s : State} {m : MethodId} {args : Array Value} {below : List Frame} {meth : Method} {c : Code} {T : State} {locs : List Loc} {cells slots : Nat} {pc : Nat} {Ls : Array Slot} {st : List Value} {target : State}
theorem s_aloadN (X : Stand p l e R s m args below meth c T locs cells slots) (hx : p.tables.exec = Jvm.exec) {k : Fin 4} {v : Value} (hd : decode c.code pc = .ok (.aload_n k, 1)) (hl : Ls[k.val]? = some (.val v)) (hv : v.isRef = true) (hr : Steps p.tables e below (T.setTop (mkF m (pc + 1) Ls (v :: st))) target) : Steps p.tables e below (T.setTop (mkF m pc Ls st)) target := XS.aloadN (g := mkF m pc Ls st) X.here hx rfl hd hl hv hr
theorem s_aload (X : Stand p l e R s m args below meth c T locs cells slots) (hx : p.tables.exec = Jvm.exec) {k : Nat} {v : Value} (hd : decode c.code pc = .ok (.aload k, 2)) (hl : Ls[k]? = some (.val v)) (hv : v.isRef = true) (hr : Steps p.tables e below (T.setTop (mkF m (pc + 2) Ls (v :: st))) target) : Steps p.tables e below (T.setTop (mkF m pc Ls st)) target := XS.aload (g := mkF m pc Ls st) X.here hx rfl hd hl hv hr
theorem s_astore (X : Stand p l e R s m args below meth c T locs cells slots) (hx : p.tables.exec = Jvm.exec) {k : Nat} {x : Value} {l' : Array Slot} (hd : decode c.code pc = .ok (.astore k, 2)) (hv : x.isRef = true) (hl : storeLocals Ls k x = some l') (hr : Steps p.tables e below (T.setTop (mkF m (pc + 2) l' st)) target) : Steps p.tables e below (T.setTop (mkF m pc Ls (x :: st))) target := XS.astore (g := mkF m pc Ls (x :: st)) X.here hx rfl hd rfl hv hl hr
theorem s_iloadN (X : Stand p l e R s m args below meth c T locs cells slots) (hx : p.tables.exec = Jvm.exec) {k : Fin 4} {v : Int32} (hd : decode c.code pc = .ok (.iload_n k, 1)) (hl : Ls[k.val]? = some (.val (.int v))) (hr : Steps p.tables e below (T.setTop (mkF m (pc + 1) Ls (.int v :: st))) target) : Steps p.tables e below (T.setTop (mkF m pc Ls st)) target := XS.iloadN (g := mkF m pc Ls st) X.here hx rfl hd hl hr
theorem s_istoreN (X : Stand p l e R s m args below meth c T locs cells slots) (hx : p.tables.exec = Jvm.exec) {k : Fin 4} {x : Int32} {l' : Array Slot} (hd : decode c.code pc = .ok (.istore_n k, 1)) (hl : storeLocals Ls k.val (.int x) = some l') (hr : Steps p.tables e below (T.setTop (mkF m (pc + 1) l' st)) target) : Steps p.tables e below (T.setTop (mkF m pc Ls (.int x :: st))) target := XS.istoreN (g := mkF m pc Ls (.int x :: st)) X.here hx rfl hd rfl hl hr
theorem s_iload (X : Stand p l e R s m args below meth c T locs cells slots) (hx : p.tables.exec = Jvm.exec) {k : Nat} {v : Int32} (hd : decode c.code pc = .ok (.iload k, 2)) (hl : Ls[k]? = some (.val (.int v))) (hr : Steps p.tables e below (T.setTop (mkF m (pc + 2) Ls (.int v :: st))) target) : Steps p.tables e below (T.setTop (mkF m pc Ls st)) target := XS.iload (g := mkF m pc Ls st) X.here hx rfl hd hl hr
theorem s_istore (X : Stand p l e R s m args below meth c T locs cells slots) (hx : p.tables.exec = Jvm.exec) {k : Nat} {x : Int32} {l' : Array Slot} (hd : decode c.code pc = .ok (.istore k, 2)) (hl : storeLocals Ls k (.int x) = some l') (hr : Steps p.tables e below (T.setTop (mkF m (pc + 2) l' st)) target) : Steps p.tables e below (T.setTop (mkF m pc Ls (.int x :: st))) target := XS.istore (g := mkF m pc Ls (.int x :: st)) X.here hx rfl hd rfl hl hr
theorem s_lloadN (X : Stand p l e R s m args below meth c T locs cells slots) (hx : p.tables.exec = Jvm.exec) {k : Fin 4} {v : Int64} (hd : decode c.code pc = .ok (.lload_n k, 1)) (hl : Ls[k.val]? = some (.val (.long v))) (hr : Steps p.tables e below (T.setTop (mkF m (pc + 1) Ls (.long v :: st))) target) : Steps p.tables e below (T.setTop (mkF m pc Ls st)) target := XS.lloadN (g := mkF m pc Ls st) X.here hx rfl hd hl hr
theorem s_lload (X : Stand p l e R s m args below meth c T locs cells slots) (hx : p.tables.exec = Jvm.exec) {k : Nat} {v : Int64} (hd : decode c.code pc = .ok (.lload k, 2)) (hl : Ls[k]? = some (.val (.long v))) (hr : Steps p.tables e below (T.setTop (mkF m (pc + 2) Ls (.long v :: st))) target) : Steps p.tables e below (T.setTop (mkF m pc Ls st)) target := XS.lload (g := mkF m pc Ls st) X.here hx rfl hd hl hr
theorem s_iconst (X : Stand p l e R s m args below meth c T locs cells slots) (hx : p.tables.exec = Jvm.exec) {i : Int} (r : Int32) (hd : decode c.code pc = .ok (.iconst i, 1)) (hf : Int32.ofInt i = r) (hr : Steps p.tables e below (T.setTop (mkF m (pc + 1) Ls (.int r :: st))) target) : Steps p.tables e below (T.setTop (mkF m pc Ls st)) target := XS.iconst (g := mkF m pc Ls st) X.here hx rfl hd (by rw [← hf] at hr; exact hr)
theorem s_bipush (X : Stand p l e R s m args below meth c T locs cells slots) (hx : p.tables.exec = Jvm.exec) {i : Int} (r : Int32) (hd : decode c.code pc = .ok (.bipush i, 2)) (hf : (Int8.ofInt i).toInt32 = r) (hr : Steps p.tables e below (T.setTop (mkF m (pc + 2) Ls (.int r :: st))) target) : Steps p.tables e below (T.setTop (mkF m pc Ls st)) target := XS.bipush (g := mkF m pc Ls st) X.here hx rfl hd (by rw [← hf] at hr; exact hr)
theorem s_sipush (X : Stand p l e R s m args below meth c T locs cells slots) (hx : p.tables.exec = Jvm.exec) {i : Int} (r : Int32) (hd : decode c.code pc = .ok (.sipush i, 3)) (hf : (Int16.ofInt i).toInt32 = r) (hr : Steps p.tables e below (T.setTop (mkF m (pc + 3) Ls (.int r :: st))) target) : Steps p.tables e below (T.setTop (mkF m pc Ls st)) target := XS.sipush (g := mkF m pc Ls st) X.here hx rfl hd (by rw [← hf] at hr; exact hr)
theorem s_lconst (X : Stand p l e R s m args below meth c T locs cells slots) (hx : p.tables.exec = Jvm.exec) {k : Fin 2} (r : Int64) (hd : decode c.code pc = .ok (.lconst k, 1)) (hf : Int64.ofNat k = r) (hr : Steps p.tables e below (T.setTop (mkF m (pc + 1) Ls (.long r :: st))) target) : Steps p.tables e below (T.setTop (mkF m pc Ls st)) target := XS.lconst (g := mkF m pc Ls st) X.here hx rfl hd (by rw [← hf] at hr; exact hr)
theorem s_iadd (X : Stand p l e R s m args below meth c T locs cells slots) (hx : p.tables.exec = Jvm.exec) {x y r : Int32} (hd : decode c.code pc = .ok (.iadd, 1)) (hf : x + y = r) (hr : Steps p.tables e below (T.setTop (mkF m (pc + 1) Ls (.int r :: st))) target) : Steps p.tables e below (T.setTop (mkF m pc Ls (.int y :: .int x :: st))) target := XS.iadd (g := mkF m pc Ls (.int y :: .int x :: st)) X.here hx rfl hd rfl (by rw [← hf] at hr; exact hr)
theorem s_isub (X : Stand p l e R s m args below meth c T locs cells slots) (hx : p.tables.exec = Jvm.exec) {x y r : Int32} (hd : decode c.code pc = .ok (.isub, 1)) (hf : x - y = r) (hr : Steps p.tables e below (T.setTop (mkF m (pc + 1) Ls (.int r :: st))) target) : Steps p.tables e below (T.setTop (mkF m pc Ls (.int y :: .int x :: st))) target := XS.isub (g := mkF m pc Ls (.int y :: .int x :: st)) X.here hx rfl hd rfl (by rw [← hf] at hr; exact hr)
theorem s_imul (X : Stand p l e R s m args below meth c T locs cells slots) (hx : p.tables.exec = Jvm.exec) {x y r : Int32} (hd : decode c.code pc = .ok (.imul, 1)) (hf : x * y = r) (hr : Steps p.tables e below (T.setTop (mkF m (pc + 1) Ls (.int r :: st))) target) : Steps p.tables e below (T.setTop (mkF m pc Ls (.int y :: .int x :: st))) target := XS.imul (g := mkF m pc Ls (.int y :: .int x :: st)) X.here hx rfl hd rfl (by rw [← hf] at hr; exact hr)
theorem s_iand (X : Stand p l e R s m args below meth c T locs cells slots) (hx : p.tables.exec = Jvm.exec) {x y r : Int32} (hd : decode c.code pc = .ok (.iand, 1)) (hf : x &&& y = r) (hr : Steps p.tables e below (T.setTop (mkF m (pc + 1) Ls (.int r :: st))) target) : Steps p.tables e below (T.setTop (mkF m pc Ls (.int y :: .int x :: st))) target := XS.iand (g := mkF m pc Ls (.int y :: .int x :: st)) X.here hx rfl hd rfl (by rw [← hf] at hr; exact hr)
theorem s_lsub (X : Stand p l e R s m args below meth c T locs cells slots) (hx : p.tables.exec = Jvm.exec) {x y r : Int64} (hd : decode c.code pc = .ok (.lsub, 1)) (hf : x - y = r) (hr : Steps p.tables e below (T.setTop (mkF m (pc + 1) Ls (.long r :: st))) target) : Steps p.tables e below (T.setTop (mkF m pc Ls (.long y :: .long x :: st))) target := XS.lsub (g := mkF m pc Ls (.long y :: .long x :: st)) X.here hx rfl hd rfl (by rw [← hf] at hr; exact hr)
theorem s_land (X : Stand p l e R s m args below meth c T locs cells slots) (hx : p.tables.exec = Jvm.exec) {x y r : Int64} (hd : decode c.code pc = .ok (.land, 1)) (hf : x &&& y = r) (hr : Steps p.tables e below (T.setTop (mkF m (pc + 1) Ls (.long r :: st))) target) : Steps p.tables e below (T.setTop (mkF m pc Ls (.long y :: .long x :: st))) target := XS.land (g := mkF m pc Ls (.long y :: .long x :: st)) X.here hx rfl hd rfl (by rw [← hf] at hr; exact hr)
theorem s_lor (X : Stand p l e R s m args below meth c T locs cells slots) (hx : p.tables.exec = Jvm.exec) {x y r : Int64} (hd : decode c.code pc = .ok (.lor, 1)) (hf : x ||| y = r) (hr : Steps p.tables e below (T.setTop (mkF m (pc + 1) Ls (.long r :: st))) target) : Steps p.tables e below (T.setTop (mkF m pc Ls (.long y :: .long x :: st))) target := XS.lor (g := mkF m pc Ls (.long y :: .long x :: st)) X.here hx rfl hd rfl (by rw [← hf] at hr; exact hr)
theorem s_lxor (X : Stand p l e R s m args below meth c T locs cells slots) (hx : p.tables.exec = Jvm.exec) {x y r : Int64} (hd : decode c.code pc = .ok (.lxor, 1)) (hf : x ^^^ y = r) (hr : Steps p.tables e below (T.setTop (mkF m (pc + 1) Ls (.long r :: st))) target) : Steps p.tables e below (T.setTop (mkF m pc Ls (.long y :: .long x :: st))) target := XS.lxor (g := mkF m pc Ls (.long y :: .long x :: st)) X.here hx rfl hd rfl (by rw [← hf] at hr; exact hr)
theorem s_l2i (X : Stand p l e R s m args below meth c T locs cells slots) (hx : p.tables.exec = Jvm.exec) {x : Int64} {r : Int32} (hd : decode c.code pc = .ok (.l2i, 1)) (hf : x.toInt32 = r) (hr : Steps p.tables e below (T.setTop (mkF m (pc + 1) Ls (.int r :: st))) target) : Steps p.tables e below (T.setTop (mkF m pc Ls (.long x :: st))) target := XS.l2i (g := mkF m pc Ls (.long x :: st)) X.here hx rfl hd rfl (by rw [← hf] at hr; exact hr)
theorem s_iushr (X : Stand p l e R s m args below meth c T locs cells slots) (hx : p.tables.exec = Jvm.exec) {x r : Int32} {y : Int32} (hd : decode c.code pc = .ok (.iushr, 1)) (hf : ((x.toUInt32 >>> (y &&& 31).toUInt32).toInt32) = r) (hr : Steps p.tables e below (T.setTop (mkF m (pc + 1) Ls (.int r :: st))) target) : Steps p.tables e below (T.setTop (mkF m pc Ls (.int y :: .int x :: st))) target := XS.iushr (g := mkF m pc Ls (.int y :: .int x :: st)) X.here hx rfl hd rfl (by rw [← hf] at hr; exact hr)
theorem s_lshl (X : Stand p l e R s m args below meth c T locs cells slots) (hx : p.tables.exec = Jvm.exec) {x r : Int64} {y : Int32} (hd : decode c.code pc = .ok (.lshl, 1)) (hf : (x <<< (y &&& 0x3f).toInt64) = r) (hr : Steps p.tables e below (T.setTop (mkF m (pc + 1) Ls (.long r :: st))) target) : Steps p.tables e below (T.setTop (mkF m pc Ls (.int y :: .long x :: st))) target := XS.lshl (g := mkF m pc Ls (.int y :: .long x :: st)) X.here hx rfl hd rfl (by rw [← hf] at hr; exact hr)
theorem s_lcmp (X : Stand p l e R s m args below meth c T locs cells slots) (hx : p.tables.exec = Jvm.exec) {x y : Int64} {r : Int32} (hd : decode c.code pc = .ok (.lcmp, 1)) (hf : lcmpW x y = r) (hr : Steps p.tables e below (T.setTop (mkF m (pc + 1) Ls (.int r :: st))) target) : Steps p.tables e below (T.setTop (mkF m pc Ls (.long y :: .long x :: st))) target := XS.lcmp (g := mkF m pc Ls (.long y :: .long x :: st)) X.here hx rfl hd rfl (by rw [← hf] at hr; exact hr)
theorem s_idiv (X : Stand p l e R s m args below meth c T locs cells slots) (hx : p.tables.exec = Jvm.exec) {x y r : Int32} (hd : decode c.code pc = .ok (.idiv, 1)) (hy : y ≠ 0) (hf : x / y = r) (hr : Steps p.tables e below (T.setTop (mkF m (pc + 1) Ls (.int r :: st))) target) : Steps p.tables e below (T.setTop (mkF m pc Ls (.int y :: .int x :: st))) target := XS.idiv (g := mkF m pc Ls (.int y :: .int x :: st)) X.here hx rfl hd rfl hy (by rw [← hf] at hr; exact hr)
theorem s_irem (X : Stand p l e R s m args below meth c T locs cells slots) (hx : p.tables.exec = Jvm.exec) {x y r : Int32} (hd : decode c.code pc = .ok (.irem, 1)) (hy : y ≠ 0) (hf : x % y = r) (hr : Steps p.tables e below (T.setTop (mkF m (pc + 1) Ls (.int r :: st))) target) : Steps p.tables e below (T.setTop (mkF m pc Ls (.int y :: .int x :: st))) target := iremM (g := mkF m pc Ls (.int y :: .int x :: st)) X hx rfl hd rfl hy (by rw [← hf] at hr; exact hr)
theorem s_dup (X : Stand p l e R s m args below meth c T locs cells slots) (hx : p.tables.exec = Jvm.exec) {x : Value} (hd : decode c.code pc = .ok (.dup, 1)) (h1 : x.category = 1) (hr : Steps p.tables e below (T.setTop (mkF m (pc + 1) Ls (x :: x :: st))) target) : Steps p.tables e below (T.setTop (mkF m pc Ls (x :: st))) target := XS.dup (g := mkF m pc Ls (x :: st)) X.here hx rfl hd rfl h1 hr
theorem s_dup2 (X : Stand p l e R s m args below meth c T locs cells slots) (hx : p.tables.exec = Jvm.exec) {x y : Value} (hd : decode c.code pc = .ok (.dup2, 1)) (h1 : x.category = 1) (h2 : y.category = 1) (hr : Steps p.tables e below (T.setTop (mkF m (pc + 1) Ls (x :: y :: x :: y :: st))) target) : Steps p.tables e below (T.setTop (mkF m pc Ls (x :: y :: st))) target := own_dup2 (g := mkF m pc Ls (x :: y :: st)) X.here hx rfl hd rfl h1 h2 hr
theorem s_pop (X : Stand p l e R s m args below meth c T locs cells slots) (hx : p.tables.exec = Jvm.exec) {x : Value} (hd : decode c.code pc = .ok (.pop, 1)) (h1 : x.category = 1) (hr : Steps p.tables e below (T.setTop (mkF m (pc + 1) Ls st)) target) : Steps p.tables e below (T.setTop (mkF m pc Ls (x :: st))) target := XS.pop (g := mkF m pc Ls (x :: st)) X.here hx rfl hd rfl h1 hr
theorem s_goto (X : Stand p l e R s m args below meth c T locs cells slots) (hx : p.tables.exec = Jvm.exec) {o : Int} (pc' : Nat) (hd : decode c.code pc = .ok (.goto o, 3)) (ho : 0 ≤ (pc : Int) + o) (hp : ((pc : Int) + o).toNat = pc') (hr : Steps p.tables e below (T.setTop (mkF m pc' Ls st)) target) : Steps p.tables e below (T.setTop (mkF m pc Ls st)) target := XS.goto (g := mkF m pc Ls st) X.here hx rfl (pc0 := pc) rfl hd ho hp hr
theorem s_ifYes (X : Stand p l e R s m args below meth c T locs cells slots) (hx : p.tables.exec = Jvm.exec) {cd : ClassFile.Cond} {x : Int32} {o : Int} (pc' : Nat) (hd : decode c.code pc = .ok (.ifCond cd o, 3)) (hc : ifCond.holds cd x = true) (ho : 0 ≤ (pc : Int) + o) (hp : ((pc : Int) + o).toNat = pc') (hr : Steps p.tables e below (T.setTop (mkF m pc' Ls st)) target) : Steps p.tables e below (T.setTop (mkF m pc Ls (.int x :: st))) target := XS.ifYes (g := mkF m pc Ls (.int x :: st)) X.here hx rfl (pc0 := pc) rfl hd rfl hc ho hp hr
theorem s_ifNo (X : Stand p l e R s m args below meth c T locs cells slots) (hx : p.tables.exec = Jvm.exec) {cd : ClassFile.Cond} {x : Int32} {o : Int} (hd : decode c.code pc = .ok (.ifCond cd o, 3)) (hc : ifCond.holds cd x = false) (hr : Steps p.tables e below (T.setTop (mkF m (pc + 3) Ls st)) target) : Steps p.tables e below (T.setTop (mkF m pc Ls (.int x :: st))) target := XS.ifNo (g := mkF m pc Ls (.int x :: st)) X.here hx rfl hd rfl hc hr
theorem s_icmpYes (X : Stand p l e R s m args below meth c T locs cells slots) (hx : p.tables.exec = Jvm.exec) {cd : ClassFile.Cond} {x y : Int32} {o : Int} (pc' : Nat) (hd : decode c.code pc = .ok (.if_icmp cd o, 3)) (hc : if_icmp.holds cd x y = true) (ho : 0 ≤ (pc : Int) + o) (hp : ((pc : Int) + o).toNat = pc') (hr : Steps p.tables e below (T.setTop (mkF m pc' Ls st)) target) : Steps p.tables e below (T.setTop (mkF m pc Ls (.int y :: .int x :: st))) target := XS.icmpYes (g := mkF m pc Ls (.int y :: .int x :: st)) X.here hx rfl (pc0 := pc) rfl hd rfl hc ho hp hr
theorem s_icmpNo (X : Stand p l e R s m args below meth c T locs cells slots) (hx : p.tables.exec = Jvm.exec) {cd : ClassFile.Cond} {x y : Int32} {o : Int} (hd : decode c.code pc = .ok (.if_icmp cd o, 3)) (hc : if_icmp.holds cd x y = false) (hr : Steps p.tables e below (T.setTop (mkF m (pc + 3) Ls st)) target) : Steps p.tables e below (T.setTop (mkF m pc Ls (.int y :: .int x :: st))) target := XS.icmpNo (g := mkF m pc Ls (.int y :: .int x :: st)) X.here hx rfl hd rfl hc hr
theorem s_iinc (X : Stand p l e R s m args below meth c T locs cells slots) (hx : p.tables.exec = Jvm.exec) {k : Nat} {cst : Int} {x r : Int32} {l' : Array Slot} (hd : decode c.code pc = .ok (.iinc k cst, 3)) (hl : Ls[k]? = some (.val (.int x))) (hf : x + Int32.ofInt cst = r) (hl' : storeLocals Ls k (.int r) = some l') (hr : Steps p.tables e below (T.setTop (mkF m (pc + 3) l' st)) target) : Steps p.tables e below (T.setTop (mkF m pc Ls st)) target := XS.iinc (g := mkF m pc Ls st) X.here hx rfl hd hl (by rw [hf]; exact hl') hr
end OwnSteps
end Jvm.RoadKit
namespace Jvm.Pilot.@@N@@
open Jvm Jvm.ClassFile Sem Op Lib Jvm.Free Jvm.Stand Jvm.LawKit Jvm.RoadKit Jvm.LamKit Bundle Jvm.Pilot.@@N@@.Jvm.D
theorem own_oldsz {Z : State} {n0 : Nat} {h : Heap} (O : Old Z n0 h) : n0 ≤ h.size := O.1 ▸ O.2.1
theorem own_mem {x : Addr} {ws : List Addr} {n : Nat} (i : Nat) (h : ws[i]? = some x) : x ∈ ws ∨ n ≤ x := Or.inl (List.mem_of_getElem? h)
abbrev sgm : Lambda.Shape := (Jvm.Lambda.Shape.mk "com/example/leasewise/leasewise/IndexedHeap$Order" "before" (Jvm.ClassFile.MethodDescriptor.mk ([Jvm.ClassFile.FieldType.int, Jvm.ClassFile.FieldType.int] : List Jvm.ClassFile.FieldType) (Option.some Jvm.ClassFile.FieldType.boolean)) ([(Jvm.ClassFile.FieldType.object "com/example/leasewise/leasewise/KilometreQueue")] : List Jvm.ClassFile.FieldType) (5 : Nat) "com/example/leasewise/leasewise/KilometreQueue" "lambda$new$0" (Jvm.ClassFile.MethodDescriptor.mk ([Jvm.ClassFile.FieldType.int, Jvm.ClassFile.FieldType.int] : List Jvm.ClassFile.FieldType) (Option.some Jvm.ClassFile.FieldType.boolean)) false (Jvm.ClassFile.MethodDescriptor.mk ([Jvm.ClassFile.FieldType.int, Jvm.ClassFile.FieldType.int] : List Jvm.ClassFile.FieldType) (Option.some Jvm.ClassFile.FieldType.boolean)))
def fcode : ByteArray := ⟨#[0x2a, 0xb4, 0x00, 0x0f, 0x1b, 0x1c, 0xb6, 0x00, 0x16, 0xac]⟩
theorem own_fwdok : Jvm.LamKit.fwdOK sgm "com/example/leasewise/leasewise/KilometreQueue" fcode 3 (some .boolean) 22 19 = true := by decide +kernel
theorem own_capok : Jvm.LamKit.capOK sgm "com/example/leasewise/leasewise/KilometreQueue" 15 0 = true := by decide +kernel
theorem own_refok : refOK sgm "com/example/leasewise/leasewise/KilometreQueue" 22 19 (⟨"com/example/leasewise/leasewise/KilometreQueue", "lambda$new$0", "(II)Z"⟩ : MethodName) = true := by decide +kernel
theorem own_f0 : decode fcode 0 = .ok (.aload_n 0, 1) := by decide +kernel
theorem own_f1 : decode fcode 1 = .ok (.getfield 15, 3) := by decide +kernel
theorem own_f4 : decode fcode 4 = .ok (.iload_n 1, 1) := by decide +kernel
theorem own_f5 : decode fcode 5 = .ok (.iload_n 2, 1) := by decide +kernel
theorem own_f6 : decode fcode 6 = .ok (.invokevirtual 22, 3) := by decide +kernel
theorem own_f9 : decode fcode 9 = .ok (.ireturn, 1) := by decide +kernel
theorem own_nb01 {x : Int32} (h : x = 0 ∨ x = 1) : narrow .boolean (.int x) = .int x := by rcases h with rfl | rfl <;> rfl
theorem own_nd12 {x1 x2 x3 x4 x5 x6 x7 x8 x9 x10 x11 x12 : Nat} (h1 : x1 < x2) (h2 : x2 < x3) (h3 : x3 < x4) (h4 : x4 < x5) (h5 : x5 < x6) (h6 : x6 < x7) (h7 : x7 < x8) (h8 : x8 < x9) (h9 : x9 < x10) (h10 : x10 < x11) (h11 : x11 < x12) : [x1, x2, x3, x4, x5, x6, x7, x8, x9, x10, x11, x12].Nodup := by
  simp only [List.nodup_cons, List.mem_cons, List.not_mem_nil, or_false, not_or, List.nodup_nil, and_true, not_false_eq_true]
  omega
theorem d3_0 : decode jdk_65_method_103_code 0 = .ok (.iconst 0, 1) := by decide +kernel
theorem d3_1 : decode jdk_65_method_103_code 1 = .ok (.istore_n 2, 1) := by decide +kernel
theorem d3_2 : decode jdk_65_method_103_code 2 = .ok (.aload_n 0, 1) := by decide +kernel
theorem d3_3 : decode jdk_65_method_103_code 3 = .ok (.arraylength, 1) := by decide +kernel
theorem d3_4 : decode jdk_65_method_103_code 4 = .ok (.istore_n 3, 1) := by decide +kernel
theorem d3_5 : decode jdk_65_method_103_code 5 = .ok (.iload_n 2, 1) := by decide +kernel
theorem d3_6 : decode jdk_65_method_103_code 6 = .ok (.iload_n 3, 1) := by decide +kernel
theorem d3_7 : decode jdk_65_method_103_code 7 = .ok (.if_icmp .ge 13, 3) := by decide +kernel
theorem d3_10 : decode jdk_65_method_103_code 10 = .ok (.aload_n 0, 1) := by decide +kernel
theorem d3_11 : decode jdk_65_method_103_code 11 = .ok (.iload_n 2, 1) := by decide +kernel
theorem d3_12 : decode jdk_65_method_103_code 12 = .ok (.iload_n 1, 1) := by decide +kernel
theorem d3_13 : decode jdk_65_method_103_code 13 = .ok (.iastore, 1) := by decide +kernel
theorem d3_14 : decode jdk_65_method_103_code 14 = .ok (.iinc 2 1, 3) := by decide +kernel
theorem d3_17 : decode jdk_65_method_103_code 17 = .ok (.goto (-12), 3) := by decide +kernel
theorem d3_20 : decode jdk_65_method_103_code 20 = .ok (.return_, 1) := by decide +kernel
theorem pn_0 : plainName "java/util/Arrays" = true := by first | (simp [plainName, overriddenIn]; done) | decide +kernel
theorem ef_rm_fill (m : MethodId) (x0 : Addr) (x1 : Int32) : entryFrame m #[.ref x0, .int x1] 4 = mkF m 0 #[.val (.ref x0), .val (.int x1), .unset, .unset] [] := by first | (simp [entryFrame, mkF, argsToLocals, Value.category]; done) | rfl
def Q_rm_fill (Z : State) (b : Addr) (x : Int32) (k : ClassId) (n w : Int32) (h0 : Heap) (n0 : Nat) (v : Option Value) (h : Heap) (L : List Loc) : Prop := v = none ∧ Fr n0 L ∧ Keep h0 h [b] ∧ Arv Z h b k .int n [] (.int x)
set_option maxRecDepth 65536 in
set_option maxHeartbeats 40000000 in
theorem rm_fill (l : Launch) (Z : State) (a0 : Array Value) (hw : ∀ d ∈ tables_1, d.before a0 Z = true) (ws : List Jvm.Cond) (b : Addr) (x : Int32) (k : ClassId) (n w : Int32) (h0 : Heap) (n0 : Nat) (O0 : Old Z n0 h0) (V_b : Arv Z h0 b k .int n [] (.int w)) (g_b : n0 ≤ b) :
    MetFree l (⟨"java/util/Arrays", "fill", "([II)V"⟩ : MethodName) (head1 (Jvm.Cond.code (⟨"java/util/Arrays", "fill", "([II)V"⟩ : MethodName) jdk_65_method_103_code 4 none :: ws) ({ frames := 0, cells := 0, slots := 0, locals := 0 } : Room)) (fun a U => a = #[.ref b, .int x] ∧ Z.WarmedH U.vm ∧ U.heap = h0) (fun _ _ _ _ _ => True) (fun _ U o U' => ∃ v L, o = .returned v ∧ Q_rm_fill Z b x k n w h0 n0 v U'.heap L ∧ FrameEnd U o U' L ({ frames := 0, cells := 0, slots := 0, locals := 0 } : Room).cells ({ frames := 0, cells := 0, slots := 0, locals := 0 } : Room).slots) := by
  refine MetFree.of_bodySF (plainFor_of_name pn_0) hisR ?_
  intro p e s m args below meth c s₁ Bd hml0 hP hK
  obtain ⟨rfl, hZH, hh⟩ := hP
  have hZ := hZH.wide
  have hx := Bd.exec
  have hby := Bd.bytes
  have hml : c.maxLocals = 4 := hml0
  have X0 : Stand p l e ({ frames := 0, cells := 0, slots := 0, locals := 0 } : Room) s m #[.ref b, .int x] below meth c s₁ [] 0 0 := Stand.of_body Bd
  have e0 : s₁.heap = h0 := by rw [← hh, Bd.state]; rfl
  obtain ⟨cl0, A0, q0, S0, N0, H0, G0⟩ := id V_b
  have hnn := (back32 N0).1
  have hn31 := (back32 N0).2
  have c1 : Steps p.tables e below (s₁.setTop (entryFrame m #[.ref b, .int x] 4)) (s₁.setTop (mkF m 5 #[.val (.ref b), .val (.int x), .val (.int (Int32.ofNat 0)), .val (.int n)] [])) := by
    refine castTop (ef_rm_fill m b x) ?_
    refine XS.iconst X0.here hx rfl (hb hby d3_0) ?_
    refine XS.istoreN X0.here hx rfl (hb hby d3_1) rfl (l' := #[.val (.ref b), .val (.int x), .val (.int (Int32.ofNat 0)), .unset]) rfl ?_
    refine XS.aloadN X0.here hx rfl (hb hby d3_2) rfl rfl ?_
    refine X0.arraylength hx (by rw [e0]; exact A0.1) (State.isArrayOf_alike hZ.alike A0.2.1) (g := mkF m 3 #[.val (.ref b), .val (.int x), .val (.int (Int32.ofNat 0)), .unset] [.ref b]) rfl rfl (hb hby d3_3) _ ?_
    rw [len_of S0 N0]
    refine XS.istoreN X0.here hx rfl (hb hby d3_4) rfl (l' := #[.val (.ref b), .val (.int x), .val (.int (Int32.ofNat 0)), .val (.int n)]) rfl ?_
    exact Steps.refl _
  have loop : ∀ (r i : Nat), i + r = n.toNatClampNeg → ∀ (T : State) (L : List Loc) (hT : Heap), Stand p l e ({ frames := 0, cells := 0, slots := 0, locals := 0 } : Room) s m #[.ref b, .int x] below meth c T L 0 0 → T.heap = hT → Fr n0 L → Keep h0 hT [b] →
      (∃ cl : Cell, Arr Z hT b cl .int ∧ cl.cls = k ∧ cl.slots.size = n.toNatClampNeg ∧ ∀ j, j < cl.slots.size → cl.slots[j]? = some (if j < i then .int x else .int w)) →
      Steps p.tables e below (s₁.setTop (entryFrame m #[.ref b, .int x] 4)) (T.setTop (mkF m 5 #[.val (.ref b), .val (.int x), .val (.int (Int32.ofNat i)), .val (.int n)] [])) →
      ∃ (T' : State) (L' : List Loc) (hT' : Heap), Stand p l e ({ frames := 0, cells := 0, slots := 0, locals := 0 } : Room) s m #[.ref b, .int x] below meth c T' L' 0 0 ∧ T'.heap = hT' ∧ Fr n0 L' ∧ Keep h0 hT' [b] ∧ Arv Z hT' b k .int n [] (.int x) ∧
        Steps p.tables e below (s₁.setTop (entryFrame m #[.ref b, .int x] 4)) (T'.setTop (mkF m 20 #[.val (.ref b), .val (.int x), .val (.int n), .val (.int n)] [])) := by
    intro r
    induction r with
    | zero =>
      intro i hi T L hT X eT NF K hcl hst
      obtain ⟨cl, A, q1, q2, q3⟩ := hcl
      have hin : Int32.ofNat i = n := by rw [show i = n.toNatClampNeg by omega]; exact hnn
      refine ⟨T, L, hT, X, eT, NF, K, ⟨cl, A, q1, q2, N0, fun j hj => ?_, fun j hj => rfl⟩, hst.trans ?_⟩
      · rw [q3 j hj, if_pos (by omega)]; rfl
      · rw [hin]
        refine XS.iloadN X.here hx rfl (hb hby d3_5) rfl ?_
        refine XS.iloadN X.here hx rfl (hb hby d3_6) rfl ?_
        refine XS.icmpYes X.here hx rfl (pc0 := 7) (pc' := 20) rfl (hb hby d3_7) rfl ((flt (x := n) (y := n) Int32.lt_irrefl).2.1) (by decide) (by decide) ?_
        exact Steps.refl _
    | succ r ih =>
      intro i hi T L hT X eT NF K hcl hst
      obtain ⟨cl, A, q1, q2, q3⟩ := hcl
      have hlt : Int32.ofNat i < n := by rw [← hnn]; exact (Int32.ofNat_lt_ofNat (by omega) hn31).mpr (by omega)
      have hnat : (Int32.ofNat i).toNatClampNeg = i := by
        have := Int32.toInt_ofNat_small (n := i) (by omega)
        simp only [Int32.toNatClampNeg]; rw [this]; rfl
      have hnn0 : ¬ Int32.ofNat i < 0 := by
        rw [Int32.lt_iff_toInt_lt, Int32.toInt_ofNat_small (n := i) (by omega)]
        show ¬ ((i : Int) < 0); omega
      have hin : ¬ (Int32.ofNat i < 0 ∨ cl.slots.size ≤ (Int32.ofNat i).toNatClampNeg) := by
        rw [hnat]; intro q; rcases q with q | q
        · exact hnn0 q
        · omega
      obtain ⟨T1, h1, X1, e1, W1, st1⟩ := stI X hx hZ eT A (j := Int32.ofNat i) (x := x) hin (g := mkF m 13 #[.val (.ref b), .val (.int x), .val (.int (Int32.ofNat i)), .val (.int n)] [.int x, .int (Int32.ofNat i), .ref b]) rfl rfl (hb hby d3_13)
      rw [hnat] at X1 W1
      refine ih (i + 1) (by omega) T1 _ h1 X1 e1 (Fr.snoc X1 NF g_b) (K.wr W1 (Or.inl (List.mem_singleton.mpr rfl))) ⟨_, A.same W1, q1, by rw [sz_set]; exact q2, fun j hj => ?_⟩ (hst.trans ?_)
      · rw [sz_set] at hj
        by_cases u : i = j
        · subst u
          rw [Cell.slots_setSlot_self _ hj, if_pos (by omega)]
        · rw [Cell.slots_setSlot_ne _ u, q3 j hj]
          by_cases v : j < i
          · rw [if_pos v, if_pos (by omega)]
          · rw [if_neg v, if_neg (by omega)]
      · refine XS.iloadN X.here hx rfl (hb hby d3_5) rfl ?_
        refine XS.iloadN X.here hx rfl (hb hby d3_6) rfl ?_
        refine XS.icmpNo X.here hx rfl (hb hby d3_7) rfl ((tlt hlt).2.1) ?_
        refine XS.aloadN X.here hx rfl (hb hby d3_10) rfl rfl ?_
        refine XS.iloadN X.here hx rfl (hb hby d3_11) rfl ?_
        refine XS.iloadN X.here hx rfl (hb hby d3_12) rfl ?_
        refine st1 _ ?_
        refine XS.iinc X1.here hx rfl (hb hby d3_14) rfl (l' := #[.val (.ref b), .val (.int x), .val (.int (Int32.ofNat i + Int32.ofInt 1)), .val (.int n)]) rfl ?_
        refine XS.goto X1.here hx rfl (pc0 := 17) (pc' := 5) rfl (hb hby d3_17) (by decide) (by decide) ?_
        rw [show (Int32.ofNat i + Int32.ofInt 1 : Int32) = Int32.ofNat (i + 1) from by rw [Int32.ofNat_add]; rfl]
        exact Steps.refl _
  obtain ⟨T9, L9, h9, X9, e9, N9, K9, V9, st9⟩ := loop n.toNatClampNeg 0 (by omega) s₁ [] h0 X0 e0 (Fr.nil n0) (Keep.refl h0 [b]) ⟨cl0, A0, q0, S0, fun j hj => by rw [if_neg (by omega)]; exact H0 j hj⟩ c1
  obtain ⟨fs, hr, hrun, hended, hW, hsame⟩ := X9.leave (v := none) (fun _ => rfl)
  refine ⟨_, _, st9.trans ?_, hrun, hended, _, _, rfl, ?_, ⟨_, rfl⟩, hW, hsame.mono (by decide) (by decide)⟩
  · exact X9.returnOut hx Bd.returns (hb hby d3_20) hr
  · show Q_rm_fill Z b x k n w h0 n0 _ T9.heap _
    rw [e9]
    exact ⟨rfl, N9, K9, V9⟩
def hAll : List (List Int32) := [[], [0], [1], [2], [3], [0, 1], [0, 2], [0, 3], [1, 0], [1, 2], [1, 3], [2, 0], [2, 1], [2, 3], [3, 0], [3, 1], [3, 2], [0, 1, 2], [0, 1, 3], [0, 2, 1], [0, 2, 3], [0, 3, 1], [0, 3, 2], [1, 0, 2], [1, 0, 3], [1, 2, 0], [1, 2, 3], [1, 3, 0], [1, 3, 2], [2, 0, 1], [2, 0, 3], [2, 1, 0], [2, 1, 3], [2, 3, 0], [2, 3, 1], [3, 0, 1], [3, 0, 2], [3, 1, 0], [3, 1, 2], [3, 2, 0], [3, 2, 1], [0, 1, 2, 3], [0, 1, 3, 2], [0, 2, 1, 3], [0, 2, 3, 1], [0, 3, 1, 2], [0, 3, 2, 1], [1, 0, 2, 3], [1, 0, 3, 2], [1, 2, 0, 3], [1, 2, 3, 0], [1, 3, 0, 2], [1, 3, 2, 0], [2, 0, 1, 3], [2, 0, 3, 1], [2, 1, 0, 3], [2, 1, 3, 0], [2, 3, 0, 1], [2, 3, 1, 0], [3, 0, 1, 2], [3, 0, 2, 1], [3, 1, 0, 2], [3, 1, 2, 0], [3, 2, 0, 1], [3, 2, 1, 0]]
def hPos (L : List Int32) (k : Int32) : Int32 := match L.idxOf? k with | some i => Int32.ofNat i | none => -1
def g4 (j x0 x1 x2 x3 : Int32) : Int32 := if j = 0 then x0 else if j = 1 then x1 else if j = 2 then x2 else x3
def s4 (j k w x : Int32) : Int32 := if j = k then w else x
def I4 (x : Int32) : Prop := x = 0 ∨ x = 1 ∨ x = 2 ∨ x = 3
theorem own_of4 {x : Int32} (h : x ∈ [(0 : Int32), 1, 2, 3]) : I4 x := by
  simp only [List.mem_cons, List.not_mem_nil, or_false] at h
  exact h
theorem own_in4 {x : Int32} (h : I4 x) : ¬ x < 0 ∧ x < 4 := by rcases h with rfl | rfl | rfl | rfl <;> decide
def HI (n e0 e1 e2 e3 p0 p1 p2 p3 : Int32) : Prop := ∃ L ∈ hAll, n = Int32.ofNat L.length ∧ (0 < L.length → e0 = L.getD 0 0) ∧ (1 < L.length → e1 = L.getD 1 0) ∧ (2 < L.length → e2 = L.getD 2 0) ∧ (3 < L.length → e3 = L.getD 3 0) ∧ p0 = hPos L 0 ∧ p1 = hPos L 1 ∧ p2 = hPos L 2 ∧ p3 = hPos L 3
def SM (p0 p1 p2 p3 q0 q1 q2 q3 : Int32) : Prop := (q0 = -1 ↔ p0 = -1) ∧ (q1 = -1 ↔ p1 = -1) ∧ (q2 = -1 ↔ p2 = -1) ∧ (q3 = -1 ↔ p3 = -1)
theorem SM.refl (p0 p1 p2 p3 : Int32) : SM p0 p1 p2 p3 p0 p1 p2 p3 := ⟨Iff.rfl, Iff.rfl, Iff.rfl, Iff.rfl⟩
theorem SM.trans {p0 p1 p2 p3 q0 q1 q2 q3 r0 r1 r2 r3 : Int32} (A : SM p0 p1 p2 p3 q0 q1 q2 q3) (B : SM q0 q1 q2 q3 r0 r1 r2 r3) : SM p0 p1 p2 p3 r0 r1 r2 r3 := ⟨B.1.trans A.1, B.2.1.trans A.2.1, B.2.2.1.trans A.2.2.1, B.2.2.2.trans A.2.2.2⟩
theorem own_putk : ∀ L ∈ hAll, ∀ k ∈ [(0 : Int32), 1, 2, 3], hPos L k = -1 → (L ++ [k]) ∈ hAll ∧ (Int32.ofNat L.length) ∈ [(0 : Int32), 1, 2, 3] ∧ Int32.ofNat L.length + 1 = Int32.ofNat (L ++ [k]).length ∧ (∀ i ∈ [(0 : Int32), 1, 2, 3], s4 k i (Int32.ofNat L.length) (hPos L i) = hPos (L ++ [k]) i) ∧ ∀ i ∈ [0, 1, 2, 3], i < (L ++ [k]).length → (Int32.ofNat L.length = Int32.ofNat i ∧ (L ++ [k]).getD i 0 = k) ∨ (¬ Int32.ofNat L.length = Int32.ofNat i ∧ i < L.length ∧ (L ++ [k]).getD i 0 = L.getD i 0) := by decide +kernel
theorem own_pe {L : List Int32} {k : Int32} {i : Nat} {e : Int32} (he : i < L.length → e = L.getD i 0) (K : (Int32.ofNat L.length = Int32.ofNat i ∧ (L ++ [k]).getD i 0 = k) ∨ (¬ Int32.ofNat L.length = Int32.ofNat i ∧ i < L.length ∧ (L ++ [k]).getD i 0 = L.getD i 0)) : s4 (Int32.ofNat L.length) (Int32.ofNat i) k e = (L ++ [k]).getD i 0 := by
  rcases K with ⟨a, b⟩ | ⟨a, b, d⟩
  · rw [s4, if_pos a, b]
  · rw [s4, if_neg a, d, he b]
theorem own_g4 {k : Int32} (hk : I4 k) (L : List Int32) : g4 k (hPos L 0) (hPos L 1) (hPos L 2) (hPos L 3) = hPos L k := by rcases hk with rfl | rfl | rfl | rfl <;> rfl
theorem own_mem4 {k : Int32} (hk : I4 k) : k ∈ [(0 : Int32), 1, 2, 3] := by rcases hk with rfl | rfl | rfl | rfl <;> decide
theorem hi_put {n e0 e1 e2 e3 p0 p1 p2 p3 k : Int32} (H : HI n e0 e1 e2 e3 p0 p1 p2 p3) (hk : I4 k) (hp : g4 k p0 p1 p2 p3 = -1) :
    HI (n + 1) (s4 n 0 k e0) (s4 n 1 k e1) (s4 n 2 k e2) (s4 n 3 k e3) (s4 k 0 n p0) (s4 k 1 n p1) (s4 k 2 n p2) (s4 k 3 n p3) ∧ I4 n ∧ n < n + 1 ∧ ¬ n = -1 := by
  obtain ⟨L, hL, rfl, h0, h1, h2, h3, rfl, rfl, rfl, rfl⟩ := H
  rw [own_g4 hk] at hp
  obtain ⟨k1, k2, k3, k4, k5⟩ := own_putk L hL k (own_mem4 hk) hp
  refine ⟨⟨L ++ [k], k1, k3, fun q => own_pe (i := 0) h0 (k5 0 (by decide) q), fun q => own_pe (i := 1) h1 (k5 1 (by decide) q), fun q => own_pe (i := 2) h2 (k5 2 (by decide) q), fun q => own_pe (i := 3) h3 (k5 3 (by decide) q), k4 0 (by decide), k4 1 (by decide), k4 2 (by decide), k4 3 (by decide)⟩, own_of4 k2, ?_⟩
  rcases own_of4 k2 with q | q | q | q <;> rw [q] <;> decide
def rmL (L : List Int32) (k : Int32) : List Int32 := (L.set (L.idxOf k) (L.getD (L.length - 1) 0)).dropLast
theorem own_rmk : ∀ L ∈ hAll, ∀ k ∈ [(0 : Int32), 1, 2, 3], ¬ hPos L k = -1 → ¬ hPos L k = Int32.ofNat L.length - 1 → rmL L k ∈ hAll ∧ (hPos L k) ∈ [(0 : Int32), 1, 2, 3] ∧ (0 < L.length ∧ Int32.ofNat L.length - 1 = Int32.ofNat (L.length - 1)) ∧ Int32.ofNat L.length - 1 = Int32.ofNat (rmL L k).length ∧ (L.getD (L.length - 1) 0) ∈ [(0 : Int32), 1, 2, 3] ∧ (Int32.ofNat L.length - 1) ∈ [(0 : Int32), 1, 2, 3] ∧ hPos L k < Int32.ofNat L.length - 1 ∧
    (∀ i ∈ [(0 : Int32), 1, 2, 3], s4 (L.getD (L.length - 1) 0) i (hPos L k) (s4 k i (-1) (hPos L i)) = hPos (rmL L k) i) ∧ (∀ i ∈ [0, 1, 2, 3], i < (rmL L k).length → (hPos L k = Int32.ofNat i ∧ (rmL L k).getD i 0 = L.getD (L.length - 1) 0) ∨ (¬ hPos L k = Int32.ofNat i ∧ i < L.length ∧ (rmL L k).getD i 0 = L.getD i 0)) ∧
    ∀ i ∈ [(0 : Int32), 1, 2, 3], (hPos (rmL L k) i = -1 ↔ (k = i ∨ hPos L i = -1)) := by decide +kernel
theorem own_re {L M : List Int32} {x y : Int32} {i : Nat} {e : Int32} (he : i < L.length → e = L.getD i 0) (K : (x = Int32.ofNat i ∧ M.getD i 0 = y) ∨ (¬ x = Int32.ofNat i ∧ i < L.length ∧ M.getD i 0 = L.getD i 0)) : s4 x (Int32.ofNat i) y e = M.getD i 0 := by
  rcases K with ⟨a, b⟩ | ⟨a, b, d⟩
  · rw [s4, if_pos a, b]
  · rw [s4, if_neg a, d, he b]
theorem own_last : ∀ L ∈ hAll, 0 < L.length → (L.length = 1 ∨ L.length = 2 ∨ L.length = 3 ∨ L.length = 4) := by decide +kernel
theorem own_lastv {L : List Int32} {e0 e1 e2 e3 : Int32} (hL : L ∈ hAll) (hl : 0 < L.length ∧ Int32.ofNat L.length - 1 = Int32.ofNat (L.length - 1)) (h0 : 0 < L.length → e0 = L.getD 0 0) (h1 : 1 < L.length → e1 = L.getD 1 0) (h2 : 2 < L.length → e2 = L.getD 2 0) (h3 : 3 < L.length → e3 = L.getD 3 0) : g4 (Int32.ofNat L.length - 1) e0 e1 e2 e3 = L.getD (L.length - 1) 0 := by
  rw [hl.2]
  rcases own_last L hL hl.1 with q | q | q | q
  · rw [q]; exact h0 (by omega)
  · rw [q]; exact h1 (by omega)
  · rw [q]; exact h2 (by omega)
  · rw [q]; exact h3 (by omega)
theorem own_g4l : ∀ L ∈ hAll, ∀ k ∈ [(0 : Int32), 1, 2, 3], ¬ hPos L k = -1 → (Int32.ofNat L.length - 1) ∈ [(0 : Int32), 1, 2, 3] ∧ (0 < L.length ∧ Int32.ofNat L.length - 1 = Int32.ofNat (L.length - 1)) := by decide +kernel
theorem hi_sz {n e0 e1 e2 e3 p0 p1 p2 p3 k : Int32} (H : HI n e0 e1 e2 e3 p0 p1 p2 p3) (hk : I4 k) (hp : ¬ g4 k p0 p1 p2 p3 = -1) : I4 (n - 1) := by
  obtain ⟨L, hL, rfl, -, -, -, -, rfl, rfl, rfl, rfl⟩ := H
  rw [own_g4 hk] at hp
  exact own_of4 (own_g4l L hL k (own_mem4 hk) hp).1
theorem hi_rm {n e0 e1 e2 e3 p0 p1 p2 p3 k x y : Int32} (H : HI n e0 e1 e2 e3 p0 p1 p2 p3) (hk : I4 k) (hp : ¬ g4 k p0 p1 p2 p3 = -1) (hl : ¬ g4 k p0 p1 p2 p3 = n - 1) (hx : x = g4 k p0 p1 p2 p3) (hy : y = g4 (n - 1) e0 e1 e2 e3) :
    HI (n - 1) (s4 x 0 y e0) (s4 x 1 y e1) (s4 x 2 y e2) (s4 x 3 y e3) (s4 y 0 x (s4 k 0 (-1) p0)) (s4 y 1 x (s4 k 1 (-1) p1)) (s4 y 2 x (s4 k 2 (-1) p2)) (s4 y 3 x (s4 k 3 (-1) p3)) ∧ (I4 x ∧ I4 y ∧ x < n - 1) ∧ (s4 y 0 x (s4 k 0 (-1) p0) = -1 ↔ (k = 0 ∨ p0 = -1)) ∧ (s4 y 1 x (s4 k 1 (-1) p1) = -1 ↔ (k = 1 ∨ p1 = -1)) ∧ (s4 y 2 x (s4 k 2 (-1) p2) = -1 ↔ (k = 2 ∨ p2 = -1)) ∧ (s4 y 3 x (s4 k 3 (-1) p3) = -1 ↔ (k = 3 ∨ p3 = -1)) := by
  obtain ⟨L, hL, rfl, h0, h1, h2, h3, rfl, rfl, rfl, rfl⟩ := H
  rw [own_g4 hk] at hp hl hx
  obtain ⟨k1, k2, k3, k4, k5, k6, k7, k8, k9, k10⟩ := own_rmk L hL k (own_mem4 hk) hp hl
  rw [own_lastv hL k3 h0 h1 h2 h3] at hy
  subst hx; subst hy
  refine ⟨⟨rmL L k, k1, k4, fun q => own_re (i := 0) h0 (k9 0 (by decide) q), fun q => own_re (i := 1) h1 (k9 1 (by decide) q), fun q => own_re (i := 2) h2 (k9 2 (by decide) q), fun q => own_re (i := 3) h3 (k9 3 (by decide) q), k8 0 (by decide), k8 1 (by decide), k8 2 (by decide), k8 3 (by decide)⟩, ⟨own_of4 k2, own_of4 k5, k7⟩, ?_⟩
  rw [k8 0 (by decide), k8 1 (by decide), k8 2 (by decide), k8 3 (by decide)]
  exact ⟨k10 0 (by decide), k10 1 (by decide), k10 2 (by decide), k10 3 (by decide)⟩
theorem own_rlk : ∀ L ∈ hAll, ∀ k ∈ [(0 : Int32), 1, 2, 3], ¬ hPos L k = -1 → hPos L k = Int32.ofNat L.length - 1 → L.dropLast ∈ hAll ∧ Int32.ofNat L.length - 1 = Int32.ofNat L.dropLast.length ∧ (∀ i ∈ [(0 : Int32), 1, 2, 3], s4 k i (-1) (hPos L i) = hPos L.dropLast i) ∧ (∀ i ∈ [0, 1, 2, 3], i < L.dropLast.length → i < L.length ∧ L.dropLast.getD i 0 = L.getD i 0) ∧ ∀ i ∈ [(0 : Int32), 1, 2, 3], (hPos L.dropLast i = -1 ↔ (k = i ∨ hPos L i = -1)) := by decide +kernel
theorem hi_rml {n e0 e1 e2 e3 p0 p1 p2 p3 k : Int32} (H : HI n e0 e1 e2 e3 p0 p1 p2 p3) (hk : I4 k) (hp : ¬ g4 k p0 p1 p2 p3 = -1) (hl : g4 k p0 p1 p2 p3 = n - 1) :
    HI (n - 1) e0 e1 e2 e3 (s4 k 0 (-1) p0) (s4 k 1 (-1) p1) (s4 k 2 (-1) p2) (s4 k 3 (-1) p3) ∧ (s4 k 0 (-1) p0 = -1 ↔ (k = 0 ∨ p0 = -1)) ∧ (s4 k 1 (-1) p1 = -1 ↔ (k = 1 ∨ p1 = -1)) ∧ (s4 k 2 (-1) p2 = -1 ↔ (k = 2 ∨ p2 = -1)) ∧ (s4 k 3 (-1) p3 = -1 ↔ (k = 3 ∨ p3 = -1)) := by
  obtain ⟨L, hL, rfl, h0, h1, h2, h3, rfl, rfl, rfl, rfl⟩ := H
  rw [own_g4 hk] at hp hl
  obtain ⟨k1, k4, k8, k9, k10⟩ := own_rlk L hL k (own_mem4 hk) hp hl
  refine ⟨⟨L.dropLast, k1, k4, fun q => (h0 (k9 0 (by decide) q).1).trans (k9 0 (by decide) q).2.symm, fun q => (h1 (k9 1 (by decide) q).1).trans (k9 1 (by decide) q).2.symm, fun q => (h2 (k9 2 (by decide) q).1).trans (k9 2 (by decide) q).2.symm, fun q => (h3 (k9 3 (by decide) q).1).trans (k9 3 (by decide) q).2.symm, k8 0 (by decide), k8 1 (by decide), k8 2 (by decide), k8 3 (by decide)⟩, ?_⟩
  rw [k8 0 (by decide), k8 1 (by decide), k8 2 (by decide), k8 3 (by decide)]
  exact ⟨k10 0 (by decide), k10 1 (by decide), k10 2 (by decide), k10 3 (by decide)⟩
theorem own_nin {D : List Addr} (hD : D.Nodup) (i : Nat) (js : List Nat) {x : Addr} {ws : List Addr} (hx : D[i]? = some x) (hws : js.map (fun j => D[j]?) = ws.map some) (hne : i ∉ js) : x ∉ ws := fun hm => by
  have h1 : some x ∈ js.map (fun j => D[j]?) := by rw [hws]; exact List.mem_map_of_mem hm
  obtain ⟨j, hj, hjx⟩ := List.mem_map.mp h1
  refine hne ?_
  by_cases u : i = j
  · rw [u]; exact hj
  · exact absurd rfl (own_nd hD i j hx hjx u)
theorem own_get4 {cl : Cell} {x0 x1 x2 x3 dw j y : Int32} (H : Has cl [.int x0, .int x1, .int x2, .int x3] (.int dw)) (hin : ¬ (j < 0 ∨ cl.slots.size ≤ j.toNatClampNeg)) (hj : I4 j) (hy : y = g4 j x0 x1 x2 x3) : cl.slots[j.toNatClampNeg]? = some (.int y) := by
  subst hy
  rcases hj with rfl | rfl | rfl | rfl
  · exact H.at hin rfl
  · exact H.at hin rfl
  · exact H.at hin rfl
  · exact H.at hin rfl
theorem own_hl1 : ∀ L ∈ hAll, (1 : Int32) = Int32.ofNat L.length → L.length = 1 := by decide +kernel
theorem own_hl2 : ∀ L ∈ hAll, (2 : Int32) = Int32.ofNat L.length → L.length = 2 := by decide +kernel
theorem own_hl3 : ∀ L ∈ hAll, (3 : Int32) = Int32.ofNat L.length → L.length = 3 := by decide +kernel
theorem own_hl4 : ∀ L ∈ hAll, (4 : Int32) = Int32.ofNat L.length → L.length = 4 := by decide +kernel
theorem own_i0 : I4 0 := Or.inl rfl
theorem own_i1 : I4 1 := Or.inr (Or.inl rfl)
theorem own_i2 : I4 2 := Or.inr (Or.inr (Or.inl rfl))
theorem own_i3 : I4 3 := Or.inr (Or.inr (Or.inr rfl))
theorem d12_0 : decode prog_35_method_10_code 0 = .ok (.aload_n 0, 1) := by decide +kernel
theorem d12_1 : decode prog_35_method_10_code 1 = .ok (.getfield 13, 3) := by decide +kernel
theorem d12_4 : decode prog_35_method_10_code 4 = .ok (.iload_n 2, 1) := by decide +kernel
theorem d12_5 : decode prog_35_method_10_code 5 = .ok (.iload_n 1, 1) := by decide +kernel
theorem d12_6 : decode prog_35_method_10_code 6 = .ok (.iastore, 1) := by decide +kernel
theorem d12_7 : decode prog_35_method_10_code 7 = .ok (.aload_n 0, 1) := by decide +kernel
theorem d12_8 : decode prog_35_method_10_code 8 = .ok (.getfield 17, 3) := by decide +kernel
theorem d12_11 : decode prog_35_method_10_code 11 = .ok (.iload_n 1, 1) := by decide +kernel
theorem d12_12 : decode prog_35_method_10_code 12 = .ok (.iload_n 2, 1) := by decide +kernel
theorem d12_13 : decode prog_35_method_10_code 13 = .ok (.iastore, 1) := by decide +kernel
theorem d12_14 : decode prog_35_method_10_code 14 = .ok (.return_, 1) := by decide +kernel
theorem ne8_10 {kq aF aO aW aK aB aA aI hp lo aE aP : Addr} (h : List.Nodup [kq, aF, aO, aW, aK, aB, aA, aI, hp, lo, aE, aP]) : hp ≠ aE := own_nd h 8 10 rfl rfl (by decide)
theorem ne11_10 {kq aF aO aW aK aB aA aI hp lo aE aP : Addr} (h : List.Nodup [kq, aF, aO, aW, aK, aB, aA, aI, hp, lo, aE, aP]) : aP ≠ aE := own_nd h 11 10 rfl rfl (by decide)
theorem ne10_11 {kq aF aO aW aK aB aA aI hp lo aE aP : Addr} (h : List.Nodup [kq, aF, aO, aW, aK, aB, aA, aI, hp, lo, aE, aP]) : aE ≠ aP := own_nd h 10 11 rfl rfl (by decide)
theorem pn_1 : plainName "com/example/leasewise/leasewise/IndexedHeap" = true := by first | (simp [plainName, overriddenIn]; done) | decide +kernel
theorem ef_rm_place_0 (m : MethodId) (x0 : Addr) (x1 : Int32) (x2 : Int32) : entryFrame m #[(.ref x0), (.int x1), (.int x2)] 3 = mkF m 0 #[.val (.ref x0), .val (.int x1), .val (.int x2)] [] := by first | (simp [entryFrame, mkF, argsToLocals, Value.category]; done) | rfl
def Q_rm_place_0 (Z : State) (hp : Addr) (x : Int32) (kq aF aO aW aK aB aA aI lo aE aP : Addr) (kE kP : ClassId) (en0 en1 en2 en3 po0 po1 po2 po3 : Int32) (h0 : Heap) (n0 : Nat) (v : Option Value) (h : Heap) (L : List Loc) : Prop := v = none ∧ Fr n0 L ∧ Keep h0 h [aE, aP] ∧ Arv Z h aE kE .int (4 : Int32) [(.int x), (.int en1), (.int en2), (.int en3)] (.int (0 : Int32)) ∧ Arv Z h aP kP .int (4 : Int32) [(.int (s4 x 0 (0 : Int32) po0)), (.int (s4 x 1 (0 : Int32) po1)), (.int (s4 x 2 (0 : Int32) po2)), (.int (s4 x 3 (0 : Int32) po3))] (.int (-1 : Int32))
set_option maxRecDepth 65536 in
set_option maxHeartbeats 40000000 in
theorem rm_place_0 (l : Launch) (Z : State) (a0 : Array Value) (hw : ∀ d ∈ tables_1, d.before a0 Z = true) (ws : List Jvm.Cond) (hp : Addr) (x : Int32) (kq aF aO aW aK aB aA aI lo aE aP : Addr) (kE kP : ClassId) (en0 en1 en2 en3 po0 po1 po2 po3 : Int32) (h0 : Heap) (n0 : Nat) (O0 : Old Z n0 h0) (E_hp : Exa Z h0 hp "com/example/leasewise/leasewise/IndexedHeap") (F_hp_order : Fld Z h0 hp "com/example/leasewise/leasewise/IndexedHeap" "order" "Lcom/example/leasewise/leasewise/IndexedHeap$Order;" (.ref lo)) (F_hp_entries : Fld Z h0 hp "com/example/leasewise/leasewise/IndexedHeap" "entries" "[I" (.ref aE)) (F_hp_positions : Fld Z h0 hp "com/example/leasewise/leasewise/IndexedHeap" "positions" "[I" (.ref aP)) (V_aE : Arv Z h0 aE kE .int (4 : Int32) [(.int en0), (.int en1), (.int en2), (.int en3)] (.int (0 : Int32))) (V_aP : Arv Z h0 aP kP .int (4 : Int32) [(.int po0), (.int po1), (.int po2), (.int po3)] (.int (-1 : Int32))) (g_aE : n0 ≤ aE) (g_aP : n0 ≤ aP) (NDp : List.Nodup [kq, aF, aO, aW, aK, aB, aA, aI, hp, lo, aE, aP]) (hx4 : I4 x) :
    MetFree l (⟨"com/example/leasewise/leasewise/IndexedHeap", "place", "(II)V"⟩ : MethodName) (head1 (Jvm.Cond.code (⟨"com/example/leasewise/leasewise/IndexedHeap", "place", "(II)V"⟩ : MethodName) prog_35_method_10_code 3 none :: ws) ({ frames := 0, cells := 0, slots := 0, locals := 0 } : Room)) (fun a U => a = #[(.ref hp), (.int x), (.int (0 : Int32))] ∧ Z.WarmedH U.vm ∧ U.heap = h0) (fun _ _ _ _ _ => True) (fun _ U o U' => ∃ v L, o = .returned v ∧ Q_rm_place_0 Z hp x kq aF aO aW aK aB aA aI lo aE aP kE kP en0 en1 en2 en3 po0 po1 po2 po3 h0 n0 v U'.heap L ∧ FrameEnd U o U' L ({ frames := 0, cells := 0, slots := 0, locals := 0 } : Room).cells ({ frames := 0, cells := 0, slots := 0, locals := 0 } : Room).slots) := by
  refine MetFree.of_bodySF (plainFor_of_name pn_1) hisR ?_
  intro p e s m args below meth c s₁ Bd hml0 hP hK
  obtain ⟨rfl, hZH, hh⟩ := hP
  have hZ := hZH.wide
  have hx := Bd.exec
  have hby := Bd.bytes
  have D := fun {pc : Nat} {r : Except ClassFile.DecodeError (ClassFile.Instr × Nat)} (q : decode prog_35_method_10_code pc = r) => hb (pc := pc) hby q
  have hml : c.maxLocals = 3 := hml0
  have hown : s.vm.findClass "com/example/leasewise/leasewise/IndexedHeap" = some m.cls := findClass_of_methodNamed Bd.named
  have hnm := (name_of_methodNamed Bd.named Bd.method).1
  have X0 : Stand p l e ({ frames := 0, cells := 0, slots := 0, locals := 0 } : Room) s m #[(.ref hp), (.int x), (.int (0 : Int32))] below meth c s₁ [] 0 0 := Stand.of_body Bd
  have e0 : s₁.heap = h0 := by rw [← hh, Bd.state]; rfl
  have N0 := Fr.nil n0
  have pre0 : ∀ t, Steps p.tables e below (s₁.setTop (mkF m 0 #[.val (.ref hp), .val (.int x), .val (.int (0 : Int32))] [])) t → Steps p.tables e below (s₁.setTop (entryFrame m #[(.ref hp), (.int x), (.int (0 : Int32))] 3)) t := fun t k => castTop (ef_rm_place_0 m (hp) (x) ((0 : Int32))) k
  have wd := fun {d : Jvm.Cond} (i : Nat) (h : tables_1[i]? = some d) => hw d (List.mem_of_getElem? h)
  obtain ⟨T1, X1, e1, st1⟩ := getF X0 hx hZ hown (host := "") (Or.inl (wd 44 rfl)) Via.refl e0 F_hp_entries (g := (mkF m 1 #[.val (.ref hp), .val (.int x), .val (.int (0 : Int32))] [(.ref hp)])) rfl rfl (D d12_1)
  obtain ⟨cl2, Ar2, q2, S2, Nn2, H2, G2⟩ := id V_aE
  have hin2 : ¬ ((0 : Int32) < 0 ∨ cl2.slots.size ≤ ((0 : Int32)).toNatClampNeg) := inb_of S2 ⟨by decide, by decide⟩
  obtain ⟨T2, h2, X2, e2, W2, st2⟩ := stI X1 hx hZ e1 Ar2 (j := (0 : Int32)) hin2 (g := (mkF m 6 #[.val (.ref hp), .val (.int x), .val (.int (0 : Int32))] [(.int x), (.int (0 : Int32)), (.ref aE)])) rfl rfl (D d12_6)
  have V2 : Arv Z h2 aE kE .int (4 : Int32) [(.int x), (.int en1), (.int en2), (.int en3)] (.int (0 : Int32)) := Arv.set Ar2 q2 S2 Nn2 H2 G2 rfl W2 0 rfl (Nat.le_of_ble_eq_true rfl)
  have N2 := Fr.snoc X2 N0 g_aE
  have Zn2 : n0 ≤ h2.size := Nat.le_trans (own_oldsz O0) (Keep.of_wr W2).1
  have K2 : Keep h0 h2 [aE, aP] := (Keep.refl h0 [aE, aP]).wr W2 (Or.inl (List.mem_of_getElem? (i := 0) rfl))
  have O2 := O0.wr W2 g_aE
  have f3 := (F_hp_positions.other W2 (Or.inl (ne8_10 NDp)))
  obtain ⟨T4, X4, e4, st4⟩ := getF X2 hx hZ hown (host := "") (Or.inl (wd 46 rfl)) Via.refl e2 f3 (g := (mkF m 8 #[.val (.ref hp), .val (.int x), .val (.int (0 : Int32))] [(.ref hp)])) rfl rfl (D d12_8)
  have f6 := (V_aP.other W2 (ne11_10 NDp))
  obtain ⟨cl5, Ar5, q5, S5, Nn5, H5, G5⟩ := id f6
  have hin5 : ¬ (x < 0 ∨ cl5.slots.size ≤ (x).toNatClampNeg) := inb_of S5 (own_in4 hx4)
  obtain ⟨T5, h5, X5, e5, W5, st5⟩ := stI X4 hx hZ e4 Ar5 (j := x) hin5 (g := (mkF m 13 #[.val (.ref hp), .val (.int x), .val (.int (0 : Int32))] [(.int (0 : Int32)), (.int x), (.ref aP)])) rfl rfl (D d12_13)
  have V5 : Arv Z h5 aP kP .int (4 : Int32) [(.int (s4 x 0 (0 : Int32) po0)), (.int (s4 x 1 (0 : Int32) po1)), (.int (s4 x 2 (0 : Int32) po2)), (.int (s4 x 3 (0 : Int32) po3))] (.int (-1 : Int32)) := own_set4 (w := (0 : Int32)) Ar5 q5 S5 Nn5 H5 G5 rfl W5 hx4
  have N5 := Fr.snoc X5 N2 g_aP
  have Zn5 : n0 ≤ h5.size := Nat.le_trans Zn2 (Keep.of_wr W5).1
  have K5 : Keep h0 h5 [aE, aP] := K2.wr W5 (Or.inl (List.mem_of_getElem? (i := 1) rfl))
  have O5 := O2.wr W5 g_aP
  have f7 := (V2.other W5 (ne10_11 NDp))
  obtain ⟨fs, hr, hrun, hended, hW, hsame⟩ := X5.leave (v := none) (fun _ => rfl)
  refine ⟨_, _, pre0 _ ?_, hrun, hended, _, _, rfl, ?_, ⟨_, rfl⟩, hW, hsame.mono (by decide) (by decide)⟩
  · refine s_aloadN X0 hx (D d12_0) rfl rfl ?_
    refine st1 _ ?_
    refine s_iloadN X1 hx (D d12_4) rfl ?_
    refine s_iloadN X1 hx (D d12_5) rfl ?_
    refine st2 _ ?_
    refine s_aloadN X2 hx (D d12_7) rfl rfl ?_
    refine st4 _ ?_
    refine s_iloadN X4 hx (D d12_11) rfl ?_
    refine s_iloadN X4 hx (D d12_12) rfl ?_
    refine st5 _ ?_
    exact X5.returnOut hx Bd.returns (D d12_14) hr
  · show Q_rm_place_0 Z hp x kq aF aO aW aK aB aA aI lo aE aP kE kP en0 en1 en2 en3 po0 po1 po2 po3 h0 n0 _ T5.heap _
    rw [e5]
    exact ⟨rfl, N5, K5, f7, V5⟩
theorem ef_rm_place_1 (m : MethodId) (x0 : Addr) (x1 : Int32) (x2 : Int32) : entryFrame m #[(.ref x0), (.int x1), (.int x2)] 3 = mkF m 0 #[.val (.ref x0), .val (.int x1), .val (.int x2)] [] := by first | (simp [entryFrame, mkF, argsToLocals, Value.category]; done) | rfl
def Q_rm_place_1 (Z : State) (hp : Addr) (x : Int32) (kq aF aO aW aK aB aA aI lo aE aP : Addr) (kE kP : ClassId) (en0 en1 en2 en3 po0 po1 po2 po3 : Int32) (h0 : Heap) (n0 : Nat) (v : Option Value) (h : Heap) (L : List Loc) : Prop := v = none ∧ Fr n0 L ∧ Keep h0 h [aE, aP] ∧ Arv Z h aE kE .int (4 : Int32) [(.int en0), (.int x), (.int en2), (.int en3)] (.int (0 : Int32)) ∧ Arv Z h aP kP .int (4 : Int32) [(.int (s4 x 0 (1 : Int32) po0)), (.int (s4 x 1 (1 : Int32) po1)), (.int (s4 x 2 (1 : Int32) po2)), (.int (s4 x 3 (1 : Int32) po3))] (.int (-1 : Int32))
set_option maxRecDepth 65536 in
set_option maxHeartbeats 40000000 in
theorem rm_place_1 (l : Launch) (Z : State) (a0 : Array Value) (hw : ∀ d ∈ tables_1, d.before a0 Z = true) (ws : List Jvm.Cond) (hp : Addr) (x : Int32) (kq aF aO aW aK aB aA aI lo aE aP : Addr) (kE kP : ClassId) (en0 en1 en2 en3 po0 po1 po2 po3 : Int32) (h0 : Heap) (n0 : Nat) (O0 : Old Z n0 h0) (E_hp : Exa Z h0 hp "com/example/leasewise/leasewise/IndexedHeap") (F_hp_order : Fld Z h0 hp "com/example/leasewise/leasewise/IndexedHeap" "order" "Lcom/example/leasewise/leasewise/IndexedHeap$Order;" (.ref lo)) (F_hp_entries : Fld Z h0 hp "com/example/leasewise/leasewise/IndexedHeap" "entries" "[I" (.ref aE)) (F_hp_positions : Fld Z h0 hp "com/example/leasewise/leasewise/IndexedHeap" "positions" "[I" (.ref aP)) (V_aE : Arv Z h0 aE kE .int (4 : Int32) [(.int en0), (.int en1), (.int en2), (.int en3)] (.int (0 : Int32))) (V_aP : Arv Z h0 aP kP .int (4 : Int32) [(.int po0), (.int po1), (.int po2), (.int po3)] (.int (-1 : Int32))) (g_aE : n0 ≤ aE) (g_aP : n0 ≤ aP) (NDp : List.Nodup [kq, aF, aO, aW, aK, aB, aA, aI, hp, lo, aE, aP]) (hx4 : I4 x) :
    MetFree l (⟨"com/example/leasewise/leasewise/IndexedHeap", "place", "(II)V"⟩ : MethodName) (head1 (Jvm.Cond.code (⟨"com/example/leasewise/leasewise/IndexedHeap", "place", "(II)V"⟩ : MethodName) prog_35_method_10_code 3 none :: ws) ({ frames := 0, cells := 0, slots := 0, locals := 0 } : Room)) (fun a U => a = #[(.ref hp), (.int x), (.int (1 : Int32))] ∧ Z.WarmedH U.vm ∧ U.heap = h0) (fun _ _ _ _ _ => True) (fun _ U o U' => ∃ v L, o = .returned v ∧ Q_rm_place_1 Z hp x kq aF aO aW aK aB aA aI lo aE aP kE kP en0 en1 en2 en3 po0 po1 po2 po3 h0 n0 v U'.heap L ∧ FrameEnd U o U' L ({ frames := 0, cells := 0, slots := 0, locals := 0 } : Room).cells ({ frames := 0, cells := 0, slots := 0, locals := 0 } : Room).slots) := by
  refine MetFree.of_bodySF (plainFor_of_name pn_1) hisR ?_
  intro p e s m args below meth c s₁ Bd hml0 hP hK
  obtain ⟨rfl, hZH, hh⟩ := hP
  have hZ := hZH.wide
  have hx := Bd.exec
  have hby := Bd.bytes
  have D := fun {pc : Nat} {r : Except ClassFile.DecodeError (ClassFile.Instr × Nat)} (q : decode prog_35_method_10_code pc = r) => hb (pc := pc) hby q
  have hml : c.maxLocals = 3 := hml0
  have hown : s.vm.findClass "com/example/leasewise/leasewise/IndexedHeap" = some m.cls := findClass_of_methodNamed Bd.named
  have hnm := (name_of_methodNamed Bd.named Bd.method).1
  have X0 : Stand p l e ({ frames := 0, cells := 0, slots := 0, locals := 0 } : Room) s m #[(.ref hp), (.int x), (.int (1 : Int32))] below meth c s₁ [] 0 0 := Stand.of_body Bd
  have e0 : s₁.heap = h0 := by rw [← hh, Bd.state]; rfl
  have N0 := Fr.nil n0
  have pre0 : ∀ t, Steps p.tables e below (s₁.setTop (mkF m 0 #[.val (.ref hp), .val (.int x), .val (.int (1 : Int32))] [])) t → Steps p.tables e below (s₁.setTop (entryFrame m #[(.ref hp), (.int x), (.int (1 : Int32))] 3)) t := fun t k => castTop (ef_rm_place_1 m (hp) (x) ((1 : Int32))) k
  have wd := fun {d : Jvm.Cond} (i : Nat) (h : tables_1[i]? = some d) => hw d (List.mem_of_getElem? h)
  obtain ⟨T1, X1, e1, st1⟩ := getF X0 hx hZ hown (host := "") (Or.inl (wd 44 rfl)) Via.refl e0 F_hp_entries (g := (mkF m 1 #[.val (.ref hp), .val (.int x), .val (.int (1 : Int32))] [(.ref hp)])) rfl rfl (D d12_1)
  obtain ⟨cl2, Ar2, q2, S2, Nn2, H2, G2⟩ := id V_aE
  have hin2 : ¬ ((1 : Int32) < 0 ∨ cl2.slots.size ≤ ((1 : Int32)).toNatClampNeg) := inb_of S2 ⟨by decide, by decide⟩
  obtain ⟨T2, h2, X2, e2, W2, st2⟩ := stI X1 hx hZ e1 Ar2 (j := (1 : Int32)) hin2 (g := (mkF m 6 #[.val (.ref hp), .val (.int x), .val (.int (1 : Int32))] [(.int x), (.int (1 : Int32)), (.ref aE)])) rfl rfl (D d12_6)
  have V2 : Arv Z h2 aE kE .int (4 : Int32) [(.int en0), (.int x), (.int en2), (.int en3)] (.int (0 : Int32)) := Arv.set Ar2 q2 S2 Nn2 H2 G2 rfl W2 1 rfl (Nat.le_of_ble_eq_true rfl)
  have N2 := Fr.snoc X2 N0 g_aE
  have Zn2 : n0 ≤ h2.size := Nat.le_trans (own_oldsz O0) (Keep.of_wr W2).1
  have K2 : Keep h0 h2 [aE, aP] := (Keep.refl h0 [aE, aP]).wr W2 (Or.inl (List.mem_of_getElem? (i := 0) rfl))
  have O2 := O0.wr W2 g_aE
  have f3 := (F_hp_positions.other W2 (Or.inl (ne8_10 NDp)))
  obtain ⟨T4, X4, e4, st4⟩ := getF X2 hx hZ hown (host := "") (Or.inl (wd 46 rfl)) Via.refl e2 f3 (g := (mkF m 8 #[.val (.ref hp), .val (.int x), .val (.int (1 : Int32))] [(.ref hp)])) rfl rfl (D d12_8)
  have f6 := (V_aP.other W2 (ne11_10 NDp))
  obtain ⟨cl5, Ar5, q5, S5, Nn5, H5, G5⟩ := id f6
  have hin5 : ¬ (x < 0 ∨ cl5.slots.size ≤ (x).toNatClampNeg) := inb_of S5 (own_in4 hx4)
  obtain ⟨T5, h5, X5, e5, W5, st5⟩ := stI X4 hx hZ e4 Ar5 (j := x) hin5 (g := (mkF m 13 #[.val (.ref hp), .val (.int x), .val (.int (1 : Int32))] [(.int (1 : Int32)), (.int x), (.ref aP)])) rfl rfl (D d12_13)
  have V5 : Arv Z h5 aP kP .int (4 : Int32) [(.int (s4 x 0 (1 : Int32) po0)), (.int (s4 x 1 (1 : Int32) po1)), (.int (s4 x 2 (1 : Int32) po2)), (.int (s4 x 3 (1 : Int32) po3))] (.int (-1 : Int32)) := own_set4 (w := (1 : Int32)) Ar5 q5 S5 Nn5 H5 G5 rfl W5 hx4
  have N5 := Fr.snoc X5 N2 g_aP
  have Zn5 : n0 ≤ h5.size := Nat.le_trans Zn2 (Keep.of_wr W5).1
  have K5 : Keep h0 h5 [aE, aP] := K2.wr W5 (Or.inl (List.mem_of_getElem? (i := 1) rfl))
  have O5 := O2.wr W5 g_aP
  have f7 := (V2.other W5 (ne10_11 NDp))
  obtain ⟨fs, hr, hrun, hended, hW, hsame⟩ := X5.leave (v := none) (fun _ => rfl)
  refine ⟨_, _, pre0 _ ?_, hrun, hended, _, _, rfl, ?_, ⟨_, rfl⟩, hW, hsame.mono (by decide) (by decide)⟩
  · refine s_aloadN X0 hx (D d12_0) rfl rfl ?_
    refine st1 _ ?_
    refine s_iloadN X1 hx (D d12_4) rfl ?_
    refine s_iloadN X1 hx (D d12_5) rfl ?_
    refine st2 _ ?_
    refine s_aloadN X2 hx (D d12_7) rfl rfl ?_
    refine st4 _ ?_
    refine s_iloadN X4 hx (D d12_11) rfl ?_
    refine s_iloadN X4 hx (D d12_12) rfl ?_
    refine st5 _ ?_
    exact X5.returnOut hx Bd.returns (D d12_14) hr
  · show Q_rm_place_1 Z hp x kq aF aO aW aK aB aA aI lo aE aP kE kP en0 en1 en2 en3 po0 po1 po2 po3 h0 n0 _ T5.heap _
    rw [e5]
    exact ⟨rfl, N5, K5, f7, V5⟩
theorem ef_rm_place_2 (m : MethodId) (x0 : Addr) (x1 : Int32) (x2 : Int32) : entryFrame m #[(.ref x0), (.int x1), (.int x2)] 3 = mkF m 0 #[.val (.ref x0), .val (.int x1), .val (.int x2)] [] := by first | (simp [entryFrame, mkF, argsToLocals, Value.category]; done) | rfl
def Q_rm_place_2 (Z : State) (hp : Addr) (x : Int32) (kq aF aO aW aK aB aA aI lo aE aP : Addr) (kE kP : ClassId) (en0 en1 en2 en3 po0 po1 po2 po3 : Int32) (h0 : Heap) (n0 : Nat) (v : Option Value) (h : Heap) (L : List Loc) : Prop := v = none ∧ Fr n0 L ∧ Keep h0 h [aE, aP] ∧ Arv Z h aE kE .int (4 : Int32) [(.int en0), (.int en1), (.int x), (.int en3)] (.int (0 : Int32)) ∧ Arv Z h aP kP .int (4 : Int32) [(.int (s4 x 0 (2 : Int32) po0)), (.int (s4 x 1 (2 : Int32) po1)), (.int (s4 x 2 (2 : Int32) po2)), (.int (s4 x 3 (2 : Int32) po3))] (.int (-1 : Int32))
set_option maxRecDepth 65536 in
set_option maxHeartbeats 40000000 in
theorem rm_place_2 (l : Launch) (Z : State) (a0 : Array Value) (hw : ∀ d ∈ tables_1, d.before a0 Z = true) (ws : List Jvm.Cond) (hp : Addr) (x : Int32) (kq aF aO aW aK aB aA aI lo aE aP : Addr) (kE kP : ClassId) (en0 en1 en2 en3 po0 po1 po2 po3 : Int32) (h0 : Heap) (n0 : Nat) (O0 : Old Z n0 h0) (E_hp : Exa Z h0 hp "com/example/leasewise/leasewise/IndexedHeap") (F_hp_order : Fld Z h0 hp "com/example/leasewise/leasewise/IndexedHeap" "order" "Lcom/example/leasewise/leasewise/IndexedHeap$Order;" (.ref lo)) (F_hp_entries : Fld Z h0 hp "com/example/leasewise/leasewise/IndexedHeap" "entries" "[I" (.ref aE)) (F_hp_positions : Fld Z h0 hp "com/example/leasewise/leasewise/IndexedHeap" "positions" "[I" (.ref aP)) (V_aE : Arv Z h0 aE kE .int (4 : Int32) [(.int en0), (.int en1), (.int en2), (.int en3)] (.int (0 : Int32))) (V_aP : Arv Z h0 aP kP .int (4 : Int32) [(.int po0), (.int po1), (.int po2), (.int po3)] (.int (-1 : Int32))) (g_aE : n0 ≤ aE) (g_aP : n0 ≤ aP) (NDp : List.Nodup [kq, aF, aO, aW, aK, aB, aA, aI, hp, lo, aE, aP]) (hx4 : I4 x) :
    MetFree l (⟨"com/example/leasewise/leasewise/IndexedHeap", "place", "(II)V"⟩ : MethodName) (head1 (Jvm.Cond.code (⟨"com/example/leasewise/leasewise/IndexedHeap", "place", "(II)V"⟩ : MethodName) prog_35_method_10_code 3 none :: ws) ({ frames := 0, cells := 0, slots := 0, locals := 0 } : Room)) (fun a U => a = #[(.ref hp), (.int x), (.int (2 : Int32))] ∧ Z.WarmedH U.vm ∧ U.heap = h0) (fun _ _ _ _ _ => True) (fun _ U o U' => ∃ v L, o = .returned v ∧ Q_rm_place_2 Z hp x kq aF aO aW aK aB aA aI lo aE aP kE kP en0 en1 en2 en3 po0 po1 po2 po3 h0 n0 v U'.heap L ∧ FrameEnd U o U' L ({ frames := 0, cells := 0, slots := 0, locals := 0 } : Room).cells ({ frames := 0, cells := 0, slots := 0, locals := 0 } : Room).slots) := by
  refine MetFree.of_bodySF (plainFor_of_name pn_1) hisR ?_
  intro p e s m args below meth c s₁ Bd hml0 hP hK
  obtain ⟨rfl, hZH, hh⟩ := hP
  have hZ := hZH.wide
  have hx := Bd.exec
  have hby := Bd.bytes
  have D := fun {pc : Nat} {r : Except ClassFile.DecodeError (ClassFile.Instr × Nat)} (q : decode prog_35_method_10_code pc = r) => hb (pc := pc) hby q
  have hml : c.maxLocals = 3 := hml0
  have hown : s.vm.findClass "com/example/leasewise/leasewise/IndexedHeap" = some m.cls := findClass_of_methodNamed Bd.named
  have hnm := (name_of_methodNamed Bd.named Bd.method).1
  have X0 : Stand p l e ({ frames := 0, cells := 0, slots := 0, locals := 0 } : Room) s m #[(.ref hp), (.int x), (.int (2 : Int32))] below meth c s₁ [] 0 0 := Stand.of_body Bd
  have e0 : s₁.heap = h0 := by rw [← hh, Bd.state]; rfl
  have N0 := Fr.nil n0
  have pre0 : ∀ t, Steps p.tables e below (s₁.setTop (mkF m 0 #[.val (.ref hp), .val (.int x), .val (.int (2 : Int32))] [])) t → Steps p.tables e below (s₁.setTop (entryFrame m #[(.ref hp), (.int x), (.int (2 : Int32))] 3)) t := fun t k => castTop (ef_rm_place_2 m (hp) (x) ((2 : Int32))) k
  have wd := fun {d : Jvm.Cond} (i : Nat) (h : tables_1[i]? = some d) => hw d (List.mem_of_getElem? h)
  obtain ⟨T1, X1, e1, st1⟩ := getF X0 hx hZ hown (host := "") (Or.inl (wd 44 rfl)) Via.refl e0 F_hp_entries (g := (mkF m 1 #[.val (.ref hp), .val (.int x), .val (.int (2 : Int32))] [(.ref hp)])) rfl rfl (D d12_1)
  obtain ⟨cl2, Ar2, q2, S2, Nn2, H2, G2⟩ := id V_aE
  have hin2 : ¬ ((2 : Int32) < 0 ∨ cl2.slots.size ≤ ((2 : Int32)).toNatClampNeg) := inb_of S2 ⟨by decide, by decide⟩
  obtain ⟨T2, h2, X2, e2, W2, st2⟩ := stI X1 hx hZ e1 Ar2 (j := (2 : Int32)) hin2 (g := (mkF m 6 #[.val (.ref hp), .val (.int x), .val (.int (2 : Int32))] [(.int x), (.int (2 : Int32)), (.ref aE)])) rfl rfl (D d12_6)
  have V2 : Arv Z h2 aE kE .int (4 : Int32) [(.int en0), (.int en1), (.int x), (.int en3)] (.int (0 : Int32)) := Arv.set Ar2 q2 S2 Nn2 H2 G2 rfl W2 2 rfl (Nat.le_of_ble_eq_true rfl)
  have N2 := Fr.snoc X2 N0 g_aE
  have Zn2 : n0 ≤ h2.size := Nat.le_trans (own_oldsz O0) (Keep.of_wr W2).1
  have K2 : Keep h0 h2 [aE, aP] := (Keep.refl h0 [aE, aP]).wr W2 (Or.inl (List.mem_of_getElem? (i := 0) rfl))
  have O2 := O0.wr W2 g_aE
  have f3 := (F_hp_positions.other W2 (Or.inl (ne8_10 NDp)))
  obtain ⟨T4, X4, e4, st4⟩ := getF X2 hx hZ hown (host := "") (Or.inl (wd 46 rfl)) Via.refl e2 f3 (g := (mkF m 8 #[.val (.ref hp), .val (.int x), .val (.int (2 : Int32))] [(.ref hp)])) rfl rfl (D d12_8)
  have f6 := (V_aP.other W2 (ne11_10 NDp))
  obtain ⟨cl5, Ar5, q5, S5, Nn5, H5, G5⟩ := id f6
  have hin5 : ¬ (x < 0 ∨ cl5.slots.size ≤ (x).toNatClampNeg) := inb_of S5 (own_in4 hx4)
  obtain ⟨T5, h5, X5, e5, W5, st5⟩ := stI X4 hx hZ e4 Ar5 (j := x) hin5 (g := (mkF m 13 #[.val (.ref hp), .val (.int x), .val (.int (2 : Int32))] [(.int (2 : Int32)), (.int x), (.ref aP)])) rfl rfl (D d12_13)
  have V5 : Arv Z h5 aP kP .int (4 : Int32) [(.int (s4 x 0 (2 : Int32) po0)), (.int (s4 x 1 (2 : Int32) po1)), (.int (s4 x 2 (2 : Int32) po2)), (.int (s4 x 3 (2 : Int32) po3))] (.int (-1 : Int32)) := own_set4 (w := (2 : Int32)) Ar5 q5 S5 Nn5 H5 G5 rfl W5 hx4
  have N5 := Fr.snoc X5 N2 g_aP
  have Zn5 : n0 ≤ h5.size := Nat.le_trans Zn2 (Keep.of_wr W5).1
  have K5 : Keep h0 h5 [aE, aP] := K2.wr W5 (Or.inl (List.mem_of_getElem? (i := 1) rfl))
  have O5 := O2.wr W5 g_aP
  have f7 := (V2.other W5 (ne10_11 NDp))
  obtain ⟨fs, hr, hrun, hended, hW, hsame⟩ := X5.leave (v := none) (fun _ => rfl)
  refine ⟨_, _, pre0 _ ?_, hrun, hended, _, _, rfl, ?_, ⟨_, rfl⟩, hW, hsame.mono (by decide) (by decide)⟩
  · refine s_aloadN X0 hx (D d12_0) rfl rfl ?_
    refine st1 _ ?_
    refine s_iloadN X1 hx (D d12_4) rfl ?_
    refine s_iloadN X1 hx (D d12_5) rfl ?_
    refine st2 _ ?_
    refine s_aloadN X2 hx (D d12_7) rfl rfl ?_
    refine st4 _ ?_
    refine s_iloadN X4 hx (D d12_11) rfl ?_
    refine s_iloadN X4 hx (D d12_12) rfl ?_
    refine st5 _ ?_
    exact X5.returnOut hx Bd.returns (D d12_14) hr
  · show Q_rm_place_2 Z hp x kq aF aO aW aK aB aA aI lo aE aP kE kP en0 en1 en2 en3 po0 po1 po2 po3 h0 n0 _ T5.heap _
    rw [e5]
    exact ⟨rfl, N5, K5, f7, V5⟩
theorem ef_rm_place_3 (m : MethodId) (x0 : Addr) (x1 : Int32) (x2 : Int32) : entryFrame m #[(.ref x0), (.int x1), (.int x2)] 3 = mkF m 0 #[.val (.ref x0), .val (.int x1), .val (.int x2)] [] := by first | (simp [entryFrame, mkF, argsToLocals, Value.category]; done) | rfl
def Q_rm_place_3 (Z : State) (hp : Addr) (x : Int32) (kq aF aO aW aK aB aA aI lo aE aP : Addr) (kE kP : ClassId) (en0 en1 en2 en3 po0 po1 po2 po3 : Int32) (h0 : Heap) (n0 : Nat) (v : Option Value) (h : Heap) (L : List Loc) : Prop := v = none ∧ Fr n0 L ∧ Keep h0 h [aE, aP] ∧ Arv Z h aE kE .int (4 : Int32) [(.int en0), (.int en1), (.int en2), (.int x)] (.int (0 : Int32)) ∧ Arv Z h aP kP .int (4 : Int32) [(.int (s4 x 0 (3 : Int32) po0)), (.int (s4 x 1 (3 : Int32) po1)), (.int (s4 x 2 (3 : Int32) po2)), (.int (s4 x 3 (3 : Int32) po3))] (.int (-1 : Int32))
set_option maxRecDepth 65536 in
set_option maxHeartbeats 40000000 in
theorem rm_place_3 (l : Launch) (Z : State) (a0 : Array Value) (hw : ∀ d ∈ tables_1, d.before a0 Z = true) (ws : List Jvm.Cond) (hp : Addr) (x : Int32) (kq aF aO aW aK aB aA aI lo aE aP : Addr) (kE kP : ClassId) (en0 en1 en2 en3 po0 po1 po2 po3 : Int32) (h0 : Heap) (n0 : Nat) (O0 : Old Z n0 h0) (E_hp : Exa Z h0 hp "com/example/leasewise/leasewise/IndexedHeap") (F_hp_order : Fld Z h0 hp "com/example/leasewise/leasewise/IndexedHeap" "order" "Lcom/example/leasewise/leasewise/IndexedHeap$Order;" (.ref lo)) (F_hp_entries : Fld Z h0 hp "com/example/leasewise/leasewise/IndexedHeap" "entries" "[I" (.ref aE)) (F_hp_positions : Fld Z h0 hp "com/example/leasewise/leasewise/IndexedHeap" "positions" "[I" (.ref aP)) (V_aE : Arv Z h0 aE kE .int (4 : Int32) [(.int en0), (.int en1), (.int en2), (.int en3)] (.int (0 : Int32))) (V_aP : Arv Z h0 aP kP .int (4 : Int32) [(.int po0), (.int po1), (.int po2), (.int po3)] (.int (-1 : Int32))) (g_aE : n0 ≤ aE) (g_aP : n0 ≤ aP) (NDp : List.Nodup [kq, aF, aO, aW, aK, aB, aA, aI, hp, lo, aE, aP]) (hx4 : I4 x) :
    MetFree l (⟨"com/example/leasewise/leasewise/IndexedHeap", "place", "(II)V"⟩ : MethodName) (head1 (Jvm.Cond.code (⟨"com/example/leasewise/leasewise/IndexedHeap", "place", "(II)V"⟩ : MethodName) prog_35_method_10_code 3 none :: ws) ({ frames := 0, cells := 0, slots := 0, locals := 0 } : Room)) (fun a U => a = #[(.ref hp), (.int x), (.int (3 : Int32))] ∧ Z.WarmedH U.vm ∧ U.heap = h0) (fun _ _ _ _ _ => True) (fun _ U o U' => ∃ v L, o = .returned v ∧ Q_rm_place_3 Z hp x kq aF aO aW aK aB aA aI lo aE aP kE kP en0 en1 en2 en3 po0 po1 po2 po3 h0 n0 v U'.heap L ∧ FrameEnd U o U' L ({ frames := 0, cells := 0, slots := 0, locals := 0 } : Room).cells ({ frames := 0, cells := 0, slots := 0, locals := 0 } : Room).slots) := by
  refine MetFree.of_bodySF (plainFor_of_name pn_1) hisR ?_
  intro p e s m args below meth c s₁ Bd hml0 hP hK
  obtain ⟨rfl, hZH, hh⟩ := hP
  have hZ := hZH.wide
  have hx := Bd.exec
  have hby := Bd.bytes
  have D := fun {pc : Nat} {r : Except ClassFile.DecodeError (ClassFile.Instr × Nat)} (q : decode prog_35_method_10_code pc = r) => hb (pc := pc) hby q
  have hml : c.maxLocals = 3 := hml0
  have hown : s.vm.findClass "com/example/leasewise/leasewise/IndexedHeap" = some m.cls := findClass_of_methodNamed Bd.named
  have hnm := (name_of_methodNamed Bd.named Bd.method).1
  have X0 : Stand p l e ({ frames := 0, cells := 0, slots := 0, locals := 0 } : Room) s m #[(.ref hp), (.int x), (.int (3 : Int32))] below meth c s₁ [] 0 0 := Stand.of_body Bd
  have e0 : s₁.heap = h0 := by rw [← hh, Bd.state]; rfl
  have N0 := Fr.nil n0
  have pre0 : ∀ t, Steps p.tables e below (s₁.setTop (mkF m 0 #[.val (.ref hp), .val (.int x), .val (.int (3 : Int32))] [])) t → Steps p.tables e below (s₁.setTop (entryFrame m #[(.ref hp), (.int x), (.int (3 : Int32))] 3)) t := fun t k => castTop (ef_rm_place_3 m (hp) (x) ((3 : Int32))) k
  have wd := fun {d : Jvm.Cond} (i : Nat) (h : tables_1[i]? = some d) => hw d (List.mem_of_getElem? h)
  obtain ⟨T1, X1, e1, st1⟩ := getF X0 hx hZ hown (host := "") (Or.inl (wd 44 rfl)) Via.refl e0 F_hp_entries (g := (mkF m 1 #[.val (.ref hp), .val (.int x), .val (.int (3 : Int32))] [(.ref hp)])) rfl rfl (D d12_1)
  obtain ⟨cl2, Ar2, q2, S2, Nn2, H2, G2⟩ := id V_aE
  have hin2 : ¬ ((3 : Int32) < 0 ∨ cl2.slots.size ≤ ((3 : Int32)).toNatClampNeg) := inb_of S2 ⟨by decide, by decide⟩
  obtain ⟨T2, h2, X2, e2, W2, st2⟩ := stI X1 hx hZ e1 Ar2 (j := (3 : Int32)) hin2 (g := (mkF m 6 #[.val (.ref hp), .val (.int x), .val (.int (3 : Int32))] [(.int x), (.int (3 : Int32)), (.ref aE)])) rfl rfl (D d12_6)
  have V2 : Arv Z h2 aE kE .int (4 : Int32) [(.int en0), (.int en1), (.int en2), (.int x)] (.int (0 : Int32)) := Arv.set Ar2 q2 S2 Nn2 H2 G2 rfl W2 3 rfl (Nat.le_of_ble_eq_true rfl)
  have N2 := Fr.snoc X2 N0 g_aE
  have Zn2 : n0 ≤ h2.size := Nat.le_trans (own_oldsz O0) (Keep.of_wr W2).1
  have K2 : Keep h0 h2 [aE, aP] := (Keep.refl h0 [aE, aP]).wr W2 (Or.inl (List.mem_of_getElem? (i := 0) rfl))
  have O2 := O0.wr W2 g_aE
  have f3 := (F_hp_positions.other W2 (Or.inl (ne8_10 NDp)))
  obtain ⟨T4, X4, e4, st4⟩ := getF X2 hx hZ hown (host := "") (Or.inl (wd 46 rfl)) Via.refl e2 f3 (g := (mkF m 8 #[.val (.ref hp), .val (.int x), .val (.int (3 : Int32))] [(.ref hp)])) rfl rfl (D d12_8)
  have f6 := (V_aP.other W2 (ne11_10 NDp))
  obtain ⟨cl5, Ar5, q5, S5, Nn5, H5, G5⟩ := id f6
  have hin5 : ¬ (x < 0 ∨ cl5.slots.size ≤ (x).toNatClampNeg) := inb_of S5 (own_in4 hx4)
  obtain ⟨T5, h5, X5, e5, W5, st5⟩ := stI X4 hx hZ e4 Ar5 (j := x) hin5 (g := (mkF m 13 #[.val (.ref hp), .val (.int x), .val (.int (3 : Int32))] [(.int (3 : Int32)), (.int x), (.ref aP)])) rfl rfl (D d12_13)
  have V5 : Arv Z h5 aP kP .int (4 : Int32) [(.int (s4 x 0 (3 : Int32) po0)), (.int (s4 x 1 (3 : Int32) po1)), (.int (s4 x 2 (3 : Int32) po2)), (.int (s4 x 3 (3 : Int32) po3))] (.int (-1 : Int32)) := own_set4 (w := (3 : Int32)) Ar5 q5 S5 Nn5 H5 G5 rfl W5 hx4
  have N5 := Fr.snoc X5 N2 g_aP
  have Zn5 : n0 ≤ h5.size := Nat.le_trans Zn2 (Keep.of_wr W5).1
  have K5 : Keep h0 h5 [aE, aP] := K2.wr W5 (Or.inl (List.mem_of_getElem? (i := 1) rfl))
  have O5 := O2.wr W5 g_aP
  have f7 := (V2.other W5 (ne10_11 NDp))
  obtain ⟨fs, hr, hrun, hended, hW, hsame⟩ := X5.leave (v := none) (fun _ => rfl)
  refine ⟨_, _, pre0 _ ?_, hrun, hended, _, _, rfl, ?_, ⟨_, rfl⟩, hW, hsame.mono (by decide) (by decide)⟩
  · refine s_aloadN X0 hx (D d12_0) rfl rfl ?_
    refine st1 _ ?_
    refine s_iloadN X1 hx (D d12_4) rfl ?_
    refine s_iloadN X1 hx (D d12_5) rfl ?_
    refine st2 _ ?_
    refine s_aloadN X2 hx (D d12_7) rfl rfl ?_
    refine st4 _ ?_
    refine s_iloadN X4 hx (D d12_11) rfl ?_
    refine s_iloadN X4 hx (D d12_12) rfl ?_
    refine st5 _ ?_
    exact X5.returnOut hx Bd.returns (D d12_14) hr
  · show Q_rm_place_3 Z hp x kq aF aO aW aK aB aA aI lo aE aP kE kP en0 en1 en2 en3 po0 po1 po2 po3 h0 n0 _ T5.heap _
    rw [e5]
    exact ⟨rfl, N5, K5, f7, V5⟩
theorem d13_0 : decode prog_39_method_15_code 0 = .ok (.aload_n 0, 1) := by decide +kernel
theorem d13_1 : decode prog_39_method_15_code 1 = .ok (.getfield 23, 3) := by decide +kernel
theorem d13_4 : decode prog_39_method_15_code 4 = .ok (.iload_n 1, 1) := by decide +kernel
theorem d13_5 : decode prog_39_method_15_code 5 = .ok (.laload, 1) := by decide +kernel
theorem d13_6 : decode prog_39_method_15_code 6 = .ok (.aload_n 0, 1) := by decide +kernel
theorem d13_7 : decode prog_39_method_15_code 7 = .ok (.getfield 23, 3) := by decide +kernel
theorem d13_10 : decode prog_39_method_15_code 10 = .ok (.iload_n 2, 1) := by decide +kernel
theorem d13_11 : decode prog_39_method_15_code 11 = .ok (.laload, 1) := by decide +kernel
theorem d13_12 : decode prog_39_method_15_code 12 = .ok (.lcmp, 1) := by decide +kernel
theorem d13_13 : decode prog_39_method_15_code 13 = .ok (.ifCond .eq 27, 3) := by decide +kernel
theorem d13_16 : decode prog_39_method_15_code 16 = .ok (.aload_n 0, 1) := by decide +kernel
theorem d13_17 : decode prog_39_method_15_code 17 = .ok (.getfield 23, 3) := by decide +kernel
theorem d13_20 : decode prog_39_method_15_code 20 = .ok (.iload_n 1, 1) := by decide +kernel
theorem d13_21 : decode prog_39_method_15_code 21 = .ok (.laload, 1) := by decide +kernel
theorem d13_22 : decode prog_39_method_15_code 22 = .ok (.aload_n 0, 1) := by decide +kernel
theorem d13_23 : decode prog_39_method_15_code 23 = .ok (.getfield 23, 3) := by decide +kernel
theorem d13_26 : decode prog_39_method_15_code 26 = .ok (.iload_n 2, 1) := by decide +kernel
theorem d13_27 : decode prog_39_method_15_code 27 = .ok (.laload, 1) := by decide +kernel
theorem d13_28 : decode prog_39_method_15_code 28 = .ok (.lcmp, 1) := by decide +kernel
theorem d13_29 : decode prog_39_method_15_code 29 = .ok (.ifCond .ge 7, 3) := by decide +kernel
theorem d13_32 : decode prog_39_method_15_code 32 = .ok (.iconst 1, 1) := by decide +kernel
theorem d13_33 : decode prog_39_method_15_code 33 = .ok (.goto 17, 3) := by decide +kernel
theorem d13_36 : decode prog_39_method_15_code 36 = .ok (.iconst 0, 1) := by decide +kernel
theorem d13_37 : decode prog_39_method_15_code 37 = .ok (.goto 13, 3) := by decide +kernel
theorem d13_40 : decode prog_39_method_15_code 40 = .ok (.iload_n 1, 1) := by decide +kernel
theorem d13_41 : decode prog_39_method_15_code 41 = .ok (.iload_n 2, 1) := by decide +kernel
theorem d13_42 : decode prog_39_method_15_code 42 = .ok (.if_icmp .ge 7, 3) := by decide +kernel
theorem d13_45 : decode prog_39_method_15_code 45 = .ok (.iconst 1, 1) := by decide +kernel
theorem d13_46 : decode prog_39_method_15_code 46 = .ok (.goto 4, 3) := by decide +kernel
theorem d13_49 : decode prog_39_method_15_code 49 = .ok (.iconst 0, 1) := by decide +kernel
theorem d13_50 : decode prog_39_method_15_code 50 = .ok (.ireturn, 1) := by decide +kernel
theorem pn_2 : plainName "com/example/leasewise/leasewise/KilometreQueue" = true := by first | (simp [plainName, overriddenIn]; done) | decide +kernel
theorem ef_rm_lam (m : MethodId) (x0 : Addr) (x1 : Int32) (x2 : Int32) : entryFrame m #[(.ref x0), (.int x1), (.int x2)] 3 = mkF m 0 #[.val (.ref x0), .val (.int x1), .val (.int x2)] [] := by first | (simp [entryFrame, mkF, argsToLocals, Value.category]; done) | rfl
def Q_rm_lam (Z : State) (kq : Addr) (x : Int32) (y : Int32) (aK : Addr) (kK : ClassId) (h0 : Heap) (n0 : Nat) (v : Option Value) (h : Heap) (L : List Loc) : Prop := ∃ (r_ : Int32), v = some (.int r_) ∧ Fr n0 L ∧ Keep h0 h [] ∧ (r_ = 0 ∨ r_ = 1)
set_option maxRecDepth 65536 in
set_option maxHeartbeats 40000000 in
theorem rm_lam (l : Launch) (Z : State) (a0 : Array Value) (hw : ∀ d ∈ tables_1, d.before a0 Z = true) (ws : List Jvm.Cond) (kq : Addr) (x : Int32) (y : Int32) (aK : Addr) (kK : ClassId) (h0 : Heap) (n0 : Nat) (O0 : Old Z n0 h0) (E_kq : Exa Z h0 kq "com/example/leasewise/leasewise/KilometreQueue") (F_kq_keys : Fld Z h0 kq "com/example/leasewise/leasewise/KilometreQueue" "keys" "[J" (.ref aK)) (hx4 : I4 x) (hy4 : I4 y) (V_aK : Arp Z h0 aK kK .long (4 : Int32) PJ) :
    MetFree l (⟨"com/example/leasewise/leasewise/KilometreQueue", "lambda$new$0", "(II)Z"⟩ : MethodName) (head1 (Jvm.Cond.code (⟨"com/example/leasewise/leasewise/KilometreQueue", "lambda$new$0", "(II)Z"⟩ : MethodName) prog_39_method_15_code 3 (some .boolean) :: ws) ({ frames := 0, cells := 0, slots := 0, locals := 0 } : Room)) (fun a U => a = #[(.ref kq), (.int x), (.int y)] ∧ Z.WarmedH U.vm ∧ U.heap = h0) (fun _ _ _ _ _ => True) (fun _ U o U' => ∃ v L, o = .returned v ∧ Q_rm_lam Z kq x y aK kK h0 n0 v U'.heap L ∧ FrameEnd U o U' L ({ frames := 0, cells := 0, slots := 0, locals := 0 } : Room).cells ({ frames := 0, cells := 0, slots := 0, locals := 0 } : Room).slots) := by
  refine MetFree.of_bodySF (plainFor_of_name pn_2) hisR ?_
  intro p e s m args below meth c s₁ Bd hml0 hP hK
  obtain ⟨rfl, hZH, hh⟩ := hP
  have hZ := hZH.wide
  have hx := Bd.exec
  have hby := Bd.bytes
  have D := fun {pc : Nat} {r : Except ClassFile.DecodeError (ClassFile.Instr × Nat)} (q : decode prog_39_method_15_code pc = r) => hb (pc := pc) hby q
  have hml : c.maxLocals = 3 := hml0
  have hown : s.vm.findClass "com/example/leasewise/leasewise/KilometreQueue" = some m.cls := findClass_of_methodNamed Bd.named
  have hnm := (name_of_methodNamed Bd.named Bd.method).1
  have X0 : Stand p l e ({ frames := 0, cells := 0, slots := 0, locals := 0 } : Room) s m #[(.ref kq), (.int x), (.int y)] below meth c s₁ [] 0 0 := Stand.of_body Bd
  have e0 : s₁.heap = h0 := by rw [← hh, Bd.state]; rfl
  have N0 := Fr.nil n0
  have pre0 : ∀ t, Steps p.tables e below (s₁.setTop (mkF m 0 #[.val (.ref kq), .val (.int x), .val (.int y)] [])) t → Steps p.tables e below (s₁.setTop (entryFrame m #[(.ref kq), (.int x), (.int y)] 3)) t := fun t k => castTop (ef_rm_lam m (kq) (x) (y)) k
  have wd := fun {d : Jvm.Cond} (i : Nat) (h : tables_1[i]? = some d) => hw d (List.mem_of_getElem? h)
  obtain ⟨T1, X1, e1, st1⟩ := getF X0 hx hZ hown (host := "") (Or.inl (wd 18 rfl)) Via.refl e0 F_kq_keys (g := (mkF m 1 #[.val (.ref kq), .val (.int x), .val (.int y)] [(.ref kq)])) rfl rfl (D d13_1)
  obtain ⟨cl2, Ar2, q2, S2, Nn2, H2, -⟩ := id V_aK
  have hin2 : ¬ (x < 0 ∨ cl2.slots.size ≤ (x).toNatClampNeg) := inb_of S2 (own_in4 hx4)
  obtain ⟨_, hat2, v2, rfl⟩ := Arp.get H2 hin2
  have C2 : Elt h0 aK (x).toNatClampNeg (.long v2) := ⟨cl2, Ar2.1, hat2⟩
  obtain ⟨T3, X3, e3, st3⟩ := getF X1 hx hZ hown (host := "") (Or.inl (wd 18 rfl)) Via.refl e1 F_kq_keys (g := (mkF m 7 #[.val (.ref kq), .val (.int x), .val (.int y)] [(.ref kq), (.long v2)])) rfl rfl (D d13_7)
  obtain ⟨cl4, Ar4, q4, S4, Nn4, H4, -⟩ := id V_aK
  have hin4 : ¬ (y < 0 ∨ cl4.slots.size ≤ (y).toNatClampNeg) := inb_of S4 (own_in4 hy4)
  obtain ⟨_, hat4, v4, rfl⟩ := Arp.get H4 hin4
  have C4 : Elt h0 aK (y).toNatClampNeg (.long v4) := ⟨cl4, Ar4.1, hat4⟩
  have cs5 : Steps p.tables e below (s₁.setTop (mkF m 0 #[.val (.ref kq), .val (.int x), .val (.int y)] [])) (T3.setTop (mkF m 13 #[.val (.ref kq), .val (.int x), .val (.int y)] [(.int (lcmpW v2 v4))])) := (by
    refine s_aloadN X0 hx (D d13_0) rfl rfl ?_
    refine st1 _ ?_
    refine s_iloadN X1 hx (D d13_4) rfl ?_
    refine X1.laload hx (j := x) (v := (.long v2)) (by rw [e1]; exact (Ar2).1) (State.isArrayOf_alike hZ.alike (Ar2).2.1) (Ar2).2.2 hin2 hat2 (g := (mkF m 5 #[.val (.ref kq), .val (.int x), .val (.int y)] [(.int x), (.ref aK)])) rfl rfl (D d13_5) _ ?_
    refine s_aloadN X1 hx (D d13_6) rfl rfl ?_
    refine st3 _ ?_
    refine s_iloadN X3 hx (D d13_10) rfl ?_
    refine X3.laload hx (j := y) (v := (.long v4)) (by rw [e3]; exact (Ar4).1) (State.isArrayOf_alike hZ.alike (Ar4).2.1) (Ar4).2.2 hin4 hat4 (g := (mkF m 11 #[.val (.ref kq), .val (.int x), .val (.int y)] [(.int y), (.ref aK), (.long v2)])) rfl rfl (D d13_11) _ ?_
    refine s_lcmp X3 hx (D d13_12) rfl ?_
    exact Steps.refl _)
  by_cases hc6 : (lcmpW v2 v4) = (0 : Int32)
  · have cs7 : Steps p.tables e below (s₁.setTop (mkF m 0 #[.val (.ref kq), .val (.int x), .val (.int y)] [])) (T3.setTop (mkF m 42 #[.val (.ref kq), .val (.int x), .val (.int y)] [(.int y), (.int x)])) := cs5.trans (by
      refine s_ifYes X3 hx 40 (D d13_13) ((if0 _ _).trans (teq hc6).1) (of_decide_eq_true rfl) rfl ?_
      refine s_iloadN X3 hx (D d13_40) rfl ?_
      refine s_iloadN X3 hx (D d13_41) rfl ?_
      exact Steps.refl _)
    by_cases hc8 : x < y
    · obtain ⟨fs, hr, hrun, hended, hW, hsame⟩ := X3.leave (v := some (.int (1 : Int32))) (fun h => by rw [Bd.returns] at h; cases h)
      refine ⟨_, _, pre0 _ ?_, hrun, hended, _, _, rfl, ?_, ⟨_, rfl⟩, hW, hsame.mono (by decide) (by decide)⟩
      · refine cs7.trans ?_
        refine s_icmpNo X3 hx (D d13_42) (tlt hc8).2.1 ?_
        refine s_iconst X3 hx (1 : Int32) (D d13_45) rfl ?_
        refine s_goto X3 hx 50 (D d13_46) (of_decide_eq_true rfl) rfl ?_
        exact retN X3 hx (t := .boolean) Bd.returns (by simp) (D d13_50) hr
      · show Q_rm_lam Z kq x y aK kK h0 n0 _ T3.heap _
        rw [e3]
        exact ⟨(1 : Int32), rfl, N0, (Keep.refl h0 []), (by decide)⟩
    · obtain ⟨fs, hr, hrun, hended, hW, hsame⟩ := X3.leave (v := some (.int (0 : Int32))) (fun h => by rw [Bd.returns] at h; cases h)
      refine ⟨_, _, pre0 _ ?_, hrun, hended, _, _, rfl, ?_, ⟨_, rfl⟩, hW, hsame.mono (by decide) (by decide)⟩
      · refine cs7.trans ?_
        refine s_icmpYes X3 hx 49 (D d13_42) (flt hc8).2.1 (of_decide_eq_true rfl) rfl ?_
        refine s_iconst X3 hx (0 : Int32) (D d13_49) rfl ?_
        exact retN X3 hx (t := .boolean) Bd.returns (by simp) (D d13_50) hr
      · show Q_rm_lam Z kq x y aK kK h0 n0 _ T3.heap _
        rw [e3]
        exact ⟨(0 : Int32), rfl, N0, (Keep.refl h0 []), (by decide)⟩
  · obtain ⟨T9, X9, e9, st9⟩ := getF X3 hx hZ hown (host := "") (Or.inl (wd 18 rfl)) Via.refl e3 F_kq_keys (g := (mkF m 17 #[.val (.ref kq), .val (.int x), .val (.int y)] [(.ref kq)])) rfl rfl (D d13_17)
    obtain ⟨cl10, Ar10, q10, S10, Nn10, H10, -⟩ := id V_aK
    have hin10 : ¬ (x < 0 ∨ cl10.slots.size ≤ (x).toNatClampNeg) := inb_of S10 (own_in4 hx4)
    have hat10 : cl10.slots[(x).toNatClampNeg]? = some (.long v2) := Elt.at C2 Ar10.1
    obtain ⟨T11, X11, e11, st11⟩ := getF X9 hx hZ hown (host := "") (Or.inl (wd 18 rfl)) Via.refl e9 F_kq_keys (g := (mkF m 23 #[.val (.ref kq), .val (.int x), .val (.int y)] [(.ref kq), (.long v2)])) rfl rfl (D d13_23)
    obtain ⟨cl12, Ar12, q12, S12, Nn12, H12, -⟩ := id V_aK
    have hin12 : ¬ (y < 0 ∨ cl12.slots.size ≤ (y).toNatClampNeg) := inb_of S12 (own_in4 hy4)
    have hat12 : cl12.slots[(y).toNatClampNeg]? = some (.long v4) := Elt.at C4 Ar12.1
    have cs13 : Steps p.tables e below (s₁.setTop (mkF m 0 #[.val (.ref kq), .val (.int x), .val (.int y)] [])) (T11.setTop (mkF m 29 #[.val (.ref kq), .val (.int x), .val (.int y)] [(.int (lcmpW v2 v4))])) := cs5.trans (by
      refine s_ifNo X3 hx (D d13_13) ((if0 _ _).trans (feq hc6).1) ?_
      refine s_aloadN X3 hx (D d13_16) rfl rfl ?_
      refine st9 _ ?_
      refine s_iloadN X9 hx (D d13_20) rfl ?_
      refine X9.laload hx (j := x) (v := (.long v2)) (by rw [e9]; exact (Ar10).1) (State.isArrayOf_alike hZ.alike (Ar10).2.1) (Ar10).2.2 hin10 hat10 (g := (mkF m 21 #[.val (.ref kq), .val (.int x), .val (.int y)] [(.int x), (.ref aK)])) rfl rfl (D d13_21) _ ?_
      refine s_aloadN X9 hx (D d13_22) rfl rfl ?_
      refine st11 _ ?_
      refine s_iloadN X11 hx (D d13_26) rfl ?_
      refine X11.laload hx (j := y) (v := (.long v4)) (by rw [e11]; exact (Ar12).1) (State.isArrayOf_alike hZ.alike (Ar12).2.1) (Ar12).2.2 hin12 hat12 (g := (mkF m 27 #[.val (.ref kq), .val (.int x), .val (.int y)] [(.int y), (.ref aK), (.long v2)])) rfl rfl (D d13_27) _ ?_
      refine s_lcmp X11 hx (D d13_28) rfl ?_
      exact Steps.refl _)
    by_cases hc14 : (lcmpW v2 v4) < (0 : Int32)
    · obtain ⟨fs, hr, hrun, hended, hW, hsame⟩ := X11.leave (v := some (.int (1 : Int32))) (fun h => by rw [Bd.returns] at h; cases h)
      refine ⟨_, _, pre0 _ ?_, hrun, hended, _, _, rfl, ?_, ⟨_, rfl⟩, hW, hsame.mono (by decide) (by decide)⟩
      · refine cs13.trans ?_
        refine s_ifNo X11 hx (D d13_29) ((if0 _ _).trans (tlt hc14).2.1) ?_
        refine s_iconst X11 hx (1 : Int32) (D d13_32) rfl ?_
        refine s_goto X11 hx 50 (D d13_33) (of_decide_eq_true rfl) rfl ?_
        exact retN X11 hx (t := .boolean) Bd.returns (by simp) (D d13_50) hr
      · show Q_rm_lam Z kq x y aK kK h0 n0 _ T11.heap _
        rw [e11]
        exact ⟨(1 : Int32), rfl, N0, (Keep.refl h0 []), (by decide)⟩
    · obtain ⟨fs, hr, hrun, hended, hW, hsame⟩ := X11.leave (v := some (.int (0 : Int32))) (fun h => by rw [Bd.returns] at h; cases h)
      refine ⟨_, _, pre0 _ ?_, hrun, hended, _, _, rfl, ?_, ⟨_, rfl⟩, hW, hsame.mono (by decide) (by decide)⟩
      · refine cs13.trans ?_
        refine s_ifYes X11 hx 36 (D d13_29) ((if0 _ _).trans (flt hc14).2.1) (of_decide_eq_true rfl) rfl ?_
        refine s_iconst X11 hx (0 : Int32) (D d13_36) rfl ?_
        refine s_goto X11 hx 50 (D d13_37) (of_decide_eq_true rfl) rfl ?_
        exact retN X11 hx (t := .boolean) Bd.returns (by simp) (D d13_50) hr
      · show Q_rm_lam Z kq x y aK kK h0 n0 _ T11.heap _
        rw [e11]
        exact ⟨(0 : Int32), rfl, N0, (Keep.refl h0 []), (by decide)⟩
theorem own_hnn {n e0 e1 e2 e3 p0 p1 p2 p3 : Int32} (H : HI n e0 e1 e2 e3 p0 p1 p2 p3) : n = 0 ∨ n = 1 ∨ n = 2 ∨ n = 3 ∨ n = 4 := by
  obtain ⟨L, hL, rfl, -⟩ := H
  exact (by decide +kernel : ∀ L ∈ hAll, Int32.ofNat L.length = 0 ∨ Int32.ofNat L.length = 1 ∨ Int32.ofNat L.length = 2 ∨ Int32.ofNat L.length = 3 ∨ Int32.ofNat L.length = 4) L hL
theorem own_en_0 {n e0 e1 e2 e3 p0 p1 p2 p3 : Int32} (H : HI n e0 e1 e2 e3 p0 p1 p2 p3) (hl : (0 : Int32) < n) : I4 e0 := by
  obtain ⟨L, hL, rfl, h0, h1, h2, h3, -⟩ := H
  have K := (by decide +kernel : ∀ L ∈ hAll, (0 : Int32) < Int32.ofNat L.length → 0 < L.length ∧ (L.getD 0 0) ∈ [(0 : Int32), 1, 2, 3]) L hL hl
  rw [h0 K.1]; exact own_of4 K.2
theorem own_gt_0 {n e0 e1 e2 e3 p0 p1 p2 p3 : Int32} (H : HI n e0 e1 e2 e3 p0 p1 p2 p3) (hl : (0 : Int32) < n) : n = 1 ∨ n = 2 ∨ n = 3 ∨ n = 4 := by
  rcases own_hnn H with rfl | rfl | rfl | rfl | rfl <;> first | (exact absurd hl (by decide)) | decide
theorem own_en_1 {n e0 e1 e2 e3 p0 p1 p2 p3 : Int32} (H : HI n e0 e1 e2 e3 p0 p1 p2 p3) (hl : (1 : Int32) < n) : I4 e1 := by
  obtain ⟨L, hL, rfl, h0, h1, h2, h3, -⟩ := H
  have K := (by decide +kernel : ∀ L ∈ hAll, (1 : Int32) < Int32.ofNat L.length → 1 < L.length ∧ (L.getD 1 0) ∈ [(0 : Int32), 1, 2, 3]) L hL hl
  rw [h1 K.1]; exact own_of4 K.2
theorem own_gt_1 {n e0 e1 e2 e3 p0 p1 p2 p3 : Int32} (H : HI n e0 e1 e2 e3 p0 p1 p2 p3) (hl : (1 : Int32) < n) : n = 2 ∨ n = 3 ∨ n = 4 := by
  rcases own_hnn H with rfl | rfl | rfl | rfl | rfl <;> first | (exact absurd hl (by decide)) | decide
theorem own_en_2 {n e0 e1 e2 e3 p0 p1 p2 p3 : Int32} (H : HI n e0 e1 e2 e3 p0 p1 p2 p3) (hl : (2 : Int32) < n) : I4 e2 := by
  obtain ⟨L, hL, rfl, h0, h1, h2, h3, -⟩ := H
  have K := (by decide +kernel : ∀ L ∈ hAll, (2 : Int32) < Int32.ofNat L.length → 2 < L.length ∧ (L.getD 2 0) ∈ [(0 : Int32), 1, 2, 3]) L hL hl
  rw [h2 K.1]; exact own_of4 K.2
theorem own_gt_2 {n e0 e1 e2 e3 p0 p1 p2 p3 : Int32} (H : HI n e0 e1 e2 e3 p0 p1 p2 p3) (hl : (2 : Int32) < n) : n = 3 ∨ n = 4 := by
  rcases own_hnn H with rfl | rfl | rfl | rfl | rfl <;> first | (exact absurd hl (by decide)) | decide
theorem own_en_3 {n e0 e1 e2 e3 p0 p1 p2 p3 : Int32} (H : HI n e0 e1 e2 e3 p0 p1 p2 p3) (hl : (3 : Int32) < n) : I4 e3 := by
  obtain ⟨L, hL, rfl, h0, h1, h2, h3, -⟩ := H
  have K := (by decide +kernel : ∀ L ∈ hAll, (3 : Int32) < Int32.ofNat L.length → 3 < L.length ∧ (L.getD 3 0) ∈ [(0 : Int32), 1, 2, 3]) L hL hl
  rw [h3 K.1]; exact own_of4 K.2
theorem own_gt_3 {n e0 e1 e2 e3 p0 p1 p2 p3 : Int32} (H : HI n e0 e1 e2 e3 p0 p1 p2 p3) (hl : (3 : Int32) < n) : n = 4 := by
  rcases own_hnn H with rfl | rfl | rfl | rfl | rfl <;> first | (exact absurd hl (by decide)) | decide
theorem d11_0 : decode prog_35_method_8_code 0 = .ok (.aload_n 0, 1) := by decide +kernel
theorem d11_1 : decode prog_35_method_8_code 1 = .ok (.getfield 13, 3) := by decide +kernel
theorem d11_4 : decode prog_35_method_8_code 4 = .ok (.iload_n 1, 1) := by decide +kernel
theorem d11_5 : decode prog_35_method_8_code 5 = .ok (.iaload, 1) := by decide +kernel
theorem d11_6 : decode prog_35_method_8_code 6 = .ok (.istore_n 2, 1) := by decide +kernel
theorem d11_7 : decode prog_35_method_8_code 7 = .ok (.iload_n 1, 1) := by decide +kernel
theorem d11_8 : decode prog_35_method_8_code 8 = .ok (.istore_n 3, 1) := by decide +kernel
theorem d11_9 : decode prog_35_method_8_code 9 = .ok (.iload_n 3, 1) := by decide +kernel
theorem d11_10 : decode prog_35_method_8_code 10 = .ok (.ifCond .le 51, 3) := by decide +kernel
theorem d11_13 : decode prog_35_method_8_code 13 = .ok (.iload_n 3, 1) := by decide +kernel
theorem d11_14 : decode prog_35_method_8_code 14 = .ok (.iconst 1, 1) := by decide +kernel
theorem d11_15 : decode prog_35_method_8_code 15 = .ok (.isub, 1) := by decide +kernel
theorem d11_16 : decode prog_35_method_8_code 16 = .ok (.iconst 2, 1) := by decide +kernel
theorem d11_17 : decode prog_35_method_8_code 17 = .ok (.idiv, 1) := by decide +kernel
theorem d11_18 : decode prog_35_method_8_code 18 = .ok (.istore 4, 2) := by decide +kernel
theorem d11_20 : decode prog_35_method_8_code 20 = .ok (.aload_n 0, 1) := by decide +kernel
theorem d11_21 : decode prog_35_method_8_code 21 = .ok (.getfield 7, 3) := by decide +kernel
theorem d11_24 : decode prog_35_method_8_code 24 = .ok (.iload_n 2, 1) := by decide +kernel
theorem d11_25 : decode prog_35_method_8_code 25 = .ok (.aload_n 0, 1) := by decide +kernel
theorem d11_26 : decode prog_35_method_8_code 26 = .ok (.getfield 13, 3) := by decide +kernel
theorem d11_29 : decode prog_35_method_8_code 29 = .ok (.iload 4, 2) := by decide +kernel
theorem d11_31 : decode prog_35_method_8_code 31 = .ok (.iaload, 1) := by decide +kernel
theorem d11_32 : decode prog_35_method_8_code 32 = .ok (.invokeinterface 56 3, 5) := by decide +kernel
theorem d11_37 : decode prog_35_method_8_code 37 = .ok (.ifCond .ne 6, 3) := by decide +kernel
theorem d11_40 : decode prog_35_method_8_code 40 = .ok (.goto 21, 3) := by decide +kernel
theorem d11_43 : decode prog_35_method_8_code 43 = .ok (.aload_n 0, 1) := by decide +kernel
theorem d11_44 : decode prog_35_method_8_code 44 = .ok (.aload_n 0, 1) := by decide +kernel
theorem d11_45 : decode prog_35_method_8_code 45 = .ok (.getfield 13, 3) := by decide +kernel
theorem d11_48 : decode prog_35_method_8_code 48 = .ok (.iload 4, 2) := by decide +kernel
theorem d11_50 : decode prog_35_method_8_code 50 = .ok (.iaload, 1) := by decide +kernel
theorem d11_51 : decode prog_35_method_8_code 51 = .ok (.iload_n 3, 1) := by decide +kernel
theorem d11_52 : decode prog_35_method_8_code 52 = .ok (.invokevirtual 62, 3) := by decide +kernel
theorem d11_55 : decode prog_35_method_8_code 55 = .ok (.iload 4, 2) := by decide +kernel
theorem d11_57 : decode prog_35_method_8_code 57 = .ok (.istore_n 3, 1) := by decide +kernel
theorem d11_58 : decode prog_35_method_8_code 58 = .ok (.goto (-49), 3) := by decide +kernel
theorem d11_61 : decode prog_35_method_8_code 61 = .ok (.aload_n 0, 1) := by decide +kernel
theorem d11_62 : decode prog_35_method_8_code 62 = .ok (.iload_n 2, 1) := by decide +kernel
theorem d11_63 : decode prog_35_method_8_code 63 = .ok (.iload_n 3, 1) := by decide +kernel
theorem d11_64 : decode prog_35_method_8_code 64 = .ok (.invokevirtual 62, 3) := by decide +kernel
theorem d11_67 : decode prog_35_method_8_code 67 = .ok (.iload_n 3, 1) := by decide +kernel
theorem d11_68 : decode prog_35_method_8_code 68 = .ok (.ireturn, 1) := by decide +kernel
theorem pd_0 : parseMethodDescriptor "(II)Z" = some ⟨[.int, .int], some .boolean⟩ := by decide +kernel
theorem pd_1 : parseMethodDescriptor "(II)V" = some ⟨[.int, .int], none⟩ := by decide +kernel
theorem own_l0_4_k : ∀ L ∈ hAll, L.length = 4 → [(L.getD 0 0), (L.getD 1 0), (L.getD 2 0), (L.getD 3 0)] ∈ hAll ∧ hPos [(L.getD 0 0), (L.getD 1 0), (L.getD 2 0), (L.getD 3 0)] 0 = (s4 (L.getD 3 0) 0 (3 : Int32) (hPos L 0)) ∧ hPos [(L.getD 0 0), (L.getD 1 0), (L.getD 2 0), (L.getD 3 0)] 1 = (s4 (L.getD 3 0) 1 (3 : Int32) (hPos L 1)) ∧ hPos [(L.getD 0 0), (L.getD 1 0), (L.getD 2 0), (L.getD 3 0)] 2 = (s4 (L.getD 3 0) 2 (3 : Int32) (hPos L 2)) ∧ hPos [(L.getD 0 0), (L.getD 1 0), (L.getD 2 0), (L.getD 3 0)] 3 = (s4 (L.getD 3 0) 3 (3 : Int32) (hPos L 3)) ∧ ((s4 (L.getD 3 0) 0 (3 : Int32) (hPos L 0)) = -1 ↔ hPos L 0 = -1) ∧ ((s4 (L.getD 3 0) 1 (3 : Int32) (hPos L 1)) = -1 ↔ hPos L 1 = -1) ∧ ((s4 (L.getD 3 0) 2 (3 : Int32) (hPos L 2)) = -1 ↔ hPos L 2 = -1) ∧ ((s4 (L.getD 3 0) 3 (3 : Int32) (hPos L 3)) = -1 ↔ hPos L 3 = -1) := by decide +kernel
theorem own_l0_4 {e0 e1 e2 e3 p0 p1 p2 p3 : Int32} (H : HI (4 : Int32) e0 e1 e2 e3 p0 p1 p2 p3) : HI (4 : Int32) e0 e1 e2 e3 (s4 e3 0 (3 : Int32) p0) (s4 e3 1 (3 : Int32) p1) (s4 e3 2 (3 : Int32) p2) (s4 e3 3 (3 : Int32) p3) ∧ SM p0 p1 p2 p3 (s4 e3 0 (3 : Int32) p0) (s4 e3 1 (3 : Int32) p1) (s4 e3 2 (3 : Int32) p2) (s4 e3 3 (3 : Int32) p3) := by
  obtain ⟨L, hL, hn, h0, h1, h2, h3, rfl, rfl, rfl, rfl⟩ := H
  have hlen : L.length = 4 := own_hl4 L hL hn
  have g0 := h0 (by omega); subst g0
  have g1 := h1 (by omega); subst g1
  have g2 := h2 (by omega); subst g2
  have g3 := h3 (by omega); subst g3
  have K := own_l0_4_k L hL hlen
  obtain ⟨k1, k2, k3, k4, k5, k6⟩ := K
  refine ⟨⟨[(L.getD 0 0), (L.getD 1 0), (L.getD 2 0), (L.getD 3 0)], k1, rfl, ?_, ?_, ?_, ?_, k2.symm, k3.symm, k4.symm, k5.symm⟩, k6⟩
  all_goals (intro hh; first | rfl | (exfalso; revert hh; decide) | (exfalso; simp at hh))
theorem own_l0 {n e0 e1 e2 e3 p0 p1 p2 p3 : Int32} (H : HI n e0 e1 e2 e3 p0 p1 p2 p3) (hl : (3 : Int32) < n) : HI n e0 e1 e2 e3 (s4 e3 0 (3 : Int32) p0) (s4 e3 1 (3 : Int32) p1) (s4 e3 2 (3 : Int32) p2) (s4 e3 3 (3 : Int32) p3) ∧ SM p0 p1 p2 p3 (s4 e3 0 (3 : Int32) p0) (s4 e3 1 (3 : Int32) p1) (s4 e3 2 (3 : Int32) p2) (s4 e3 3 (3 : Int32) p3) := by
  rcases own_gt_3 H hl with rfl
  · exact own_l0_4 H
theorem nn3 {kq aF aO aW aK aB aA aI hp lo aE aP : Addr} (h : List.Nodup [kq, aF, aO, aW, aK, aB, aA, aI, hp, lo, aE, aP]) : hp ∉ [aE, aP] := own_nin h 8 [10, 11] rfl rfl (by decide)
theorem nn4 {kq aF aO aW aK aB aA aI hp lo aE aP : Addr} (h : List.Nodup [kq, aF, aO, aW, aK, aB, aA, aI, hp, lo, aE, aP]) : aK ∉ [aE, aP] := own_nin h 4 [10, 11] rfl rfl (by decide)
theorem nn5 {kq aF aO aW aK aB aA aI hp lo aE aP : Addr} (h : List.Nodup [kq, aF, aO, aW, aK, aB, aA, aI, hp, lo, aE, aP]) : kq ∉ [aE, aP] := own_nin h 0 [10, 11] rfl rfl (by decide)
theorem nn6 {kq aF aO aW aK aB aA aI hp lo aE aP : Addr} (h : List.Nodup [kq, aF, aO, aW, aK, aB, aA, aI, hp, lo, aE, aP]) : lo ∉ [aE, aP] := own_nin h 9 [10, 11] rfl rfl (by decide)
theorem own_l1_4_k : ∀ L ∈ hAll, L.length = 4 → [(L.getD 0 0), (L.getD 3 0), (L.getD 2 0), (L.getD 1 0)] ∈ hAll ∧ hPos [(L.getD 0 0), (L.getD 3 0), (L.getD 2 0), (L.getD 1 0)] 0 = (s4 (L.getD 3 0) 0 (1 : Int32) (s4 (L.getD 1 0) 0 (3 : Int32) (hPos L 0))) ∧ hPos [(L.getD 0 0), (L.getD 3 0), (L.getD 2 0), (L.getD 1 0)] 1 = (s4 (L.getD 3 0) 1 (1 : Int32) (s4 (L.getD 1 0) 1 (3 : Int32) (hPos L 1))) ∧ hPos [(L.getD 0 0), (L.getD 3 0), (L.getD 2 0), (L.getD 1 0)] 2 = (s4 (L.getD 3 0) 2 (1 : Int32) (s4 (L.getD 1 0) 2 (3 : Int32) (hPos L 2))) ∧ hPos [(L.getD 0 0), (L.getD 3 0), (L.getD 2 0), (L.getD 1 0)] 3 = (s4 (L.getD 3 0) 3 (1 : Int32) (s4 (L.getD 1 0) 3 (3 : Int32) (hPos L 3))) ∧ ((s4 (L.getD 3 0) 0 (1 : Int32) (s4 (L.getD 1 0) 0 (3 : Int32) (hPos L 0))) = -1 ↔ hPos L 0 = -1) ∧ ((s4 (L.getD 3 0) 1 (1 : Int32) (s4 (L.getD 1 0) 1 (3 : Int32) (hPos L 1))) = -1 ↔ hPos L 1 = -1) ∧ ((s4 (L.getD 3 0) 2 (1 : Int32) (s4 (L.getD 1 0) 2 (3 : Int32) (hPos L 2))) = -1 ↔ hPos L 2 = -1) ∧ ((s4 (L.getD 3 0) 3 (1 : Int32) (s4 (L.getD 1 0) 3 (3 : Int32) (hPos L 3))) = -1 ↔ hPos L 3 = -1) := by decide +kernel
theorem own_l1_4 {e0 e1 e2 e3 p0 p1 p2 p3 : Int32} (H : HI (4 : Int32) e0 e1 e2 e3 p0 p1 p2 p3) : HI (4 : Int32) e0 e3 e2 e1 (s4 e3 0 (1 : Int32) (s4 e1 0 (3 : Int32) p0)) (s4 e3 1 (1 : Int32) (s4 e1 1 (3 : Int32) p1)) (s4 e3 2 (1 : Int32) (s4 e1 2 (3 : Int32) p2)) (s4 e3 3 (1 : Int32) (s4 e1 3 (3 : Int32) p3)) ∧ SM p0 p1 p2 p3 (s4 e3 0 (1 : Int32) (s4 e1 0 (3 : Int32) p0)) (s4 e3 1 (1 : Int32) (s4 e1 1 (3 : Int32) p1)) (s4 e3 2 (1 : Int32) (s4 e1 2 (3 : Int32) p2)) (s4 e3 3 (1 : Int32) (s4 e1 3 (3 : Int32) p3)) := by
  obtain ⟨L, hL, hn, h0, h1, h2, h3, rfl, rfl, rfl, rfl⟩ := H
  have hlen : L.length = 4 := own_hl4 L hL hn
  have g0 := h0 (by omega); subst g0
  have g1 := h1 (by omega); subst g1
  have g2 := h2 (by omega); subst g2
  have g3 := h3 (by omega); subst g3
  have K := own_l1_4_k L hL hlen
  obtain ⟨k1, k2, k3, k4, k5, k6⟩ := K
  refine ⟨⟨[(L.getD 0 0), (L.getD 3 0), (L.getD 2 0), (L.getD 1 0)], k1, rfl, ?_, ?_, ?_, ?_, k2.symm, k3.symm, k4.symm, k5.symm⟩, k6⟩
  all_goals (intro hh; first | rfl | (exfalso; revert hh; decide) | (exfalso; simp at hh))
theorem own_l1 {n e0 e1 e2 e3 p0 p1 p2 p3 : Int32} (H : HI n e0 e1 e2 e3 p0 p1 p2 p3) (hl : (3 : Int32) < n) : HI n e0 e3 e2 e1 (s4 e3 0 (1 : Int32) (s4 e1 0 (3 : Int32) p0)) (s4 e3 1 (1 : Int32) (s4 e1 1 (3 : Int32) p1)) (s4 e3 2 (1 : Int32) (s4 e1 2 (3 : Int32) p2)) (s4 e3 3 (1 : Int32) (s4 e1 3 (3 : Int32) p3)) ∧ SM p0 p1 p2 p3 (s4 e3 0 (1 : Int32) (s4 e1 0 (3 : Int32) p0)) (s4 e3 1 (1 : Int32) (s4 e1 1 (3 : Int32) p1)) (s4 e3 2 (1 : Int32) (s4 e1 2 (3 : Int32) p2)) (s4 e3 3 (1 : Int32) (s4 e1 3 (3 : Int32) p3)) := by
  rcases own_gt_3 H hl with rfl
  · exact own_l1_4 H
theorem own_l2_4_k : ∀ L ∈ hAll, L.length = 4 → [(L.getD 3 0), (L.getD 0 0), (L.getD 2 0), (L.getD 1 0)] ∈ hAll ∧ hPos [(L.getD 3 0), (L.getD 0 0), (L.getD 2 0), (L.getD 1 0)] 0 = (s4 (L.getD 3 0) 0 (0 : Int32) (s4 (L.getD 0 0) 0 (1 : Int32) (s4 (L.getD 1 0) 0 (3 : Int32) (hPos L 0)))) ∧ hPos [(L.getD 3 0), (L.getD 0 0), (L.getD 2 0), (L.getD 1 0)] 1 = (s4 (L.getD 3 0) 1 (0 : Int32) (s4 (L.getD 0 0) 1 (1 : Int32) (s4 (L.getD 1 0) 1 (3 : Int32) (hPos L 1)))) ∧ hPos [(L.getD 3 0), (L.getD 0 0), (L.getD 2 0), (L.getD 1 0)] 2 = (s4 (L.getD 3 0) 2 (0 : Int32) (s4 (L.getD 0 0) 2 (1 : Int32) (s4 (L.getD 1 0) 2 (3 : Int32) (hPos L 2)))) ∧ hPos [(L.getD 3 0), (L.getD 0 0), (L.getD 2 0), (L.getD 1 0)] 3 = (s4 (L.getD 3 0) 3 (0 : Int32) (s4 (L.getD 0 0) 3 (1 : Int32) (s4 (L.getD 1 0) 3 (3 : Int32) (hPos L 3)))) ∧ ((s4 (L.getD 3 0) 0 (0 : Int32) (s4 (L.getD 0 0) 0 (1 : Int32) (s4 (L.getD 1 0) 0 (3 : Int32) (hPos L 0)))) = -1 ↔ hPos L 0 = -1) ∧ ((s4 (L.getD 3 0) 1 (0 : Int32) (s4 (L.getD 0 0) 1 (1 : Int32) (s4 (L.getD 1 0) 1 (3 : Int32) (hPos L 1)))) = -1 ↔ hPos L 1 = -1) ∧ ((s4 (L.getD 3 0) 2 (0 : Int32) (s4 (L.getD 0 0) 2 (1 : Int32) (s4 (L.getD 1 0) 2 (3 : Int32) (hPos L 2)))) = -1 ↔ hPos L 2 = -1) ∧ ((s4 (L.getD 3 0) 3 (0 : Int32) (s4 (L.getD 0 0) 3 (1 : Int32) (s4 (L.getD 1 0) 3 (3 : Int32) (hPos L 3)))) = -1 ↔ hPos L 3 = -1) := by decide +kernel
theorem own_l2_4 {e0 e1 e2 e3 p0 p1 p2 p3 : Int32} (H : HI (4 : Int32) e0 e1 e2 e3 p0 p1 p2 p3) : HI (4 : Int32) e3 e0 e2 e1 (s4 e3 0 (0 : Int32) (s4 e0 0 (1 : Int32) (s4 e1 0 (3 : Int32) p0))) (s4 e3 1 (0 : Int32) (s4 e0 1 (1 : Int32) (s4 e1 1 (3 : Int32) p1))) (s4 e3 2 (0 : Int32) (s4 e0 2 (1 : Int32) (s4 e1 2 (3 : Int32) p2))) (s4 e3 3 (0 : Int32) (s4 e0 3 (1 : Int32) (s4 e1 3 (3 : Int32) p3))) ∧ SM p0 p1 p2 p3 (s4 e3 0 (0 : Int32) (s4 e0 0 (1 : Int32) (s4 e1 0 (3 : Int32) p0))) (s4 e3 1 (0 : Int32) (s4 e0 1 (1 : Int32) (s4 e1 1 (3 : Int32) p1))) (s4 e3 2 (0 : Int32) (s4 e0 2 (1 : Int32) (s4 e1 2 (3 : Int32) p2))) (s4 e3 3 (0 : Int32) (s4 e0 3 (1 : Int32) (s4 e1 3 (3 : Int32) p3))) := by
  obtain ⟨L, hL, hn, h0, h1, h2, h3, rfl, rfl, rfl, rfl⟩ := H
  have hlen : L.length = 4 := own_hl4 L hL hn
  have g0 := h0 (by omega); subst g0
  have g1 := h1 (by omega); subst g1
  have g2 := h2 (by omega); subst g2
  have g3 := h3 (by omega); subst g3
  have K := own_l2_4_k L hL hlen
  obtain ⟨k1, k2, k3, k4, k5, k6⟩ := K
  refine ⟨⟨[(L.getD 3 0), (L.getD 0 0), (L.getD 2 0), (L.getD 1 0)], k1, rfl, ?_, ?_, ?_, ?_, k2.symm, k3.symm, k4.symm, k5.symm⟩, k6⟩
  all_goals (intro hh; first | rfl | (exfalso; revert hh; decide) | (exfalso; simp at hh))
theorem own_l2 {n e0 e1 e2 e3 p0 p1 p2 p3 : Int32} (H : HI n e0 e1 e2 e3 p0 p1 p2 p3) (hl : (3 : Int32) < n) : HI n e3 e0 e2 e1 (s4 e3 0 (0 : Int32) (s4 e0 0 (1 : Int32) (s4 e1 0 (3 : Int32) p0))) (s4 e3 1 (0 : Int32) (s4 e0 1 (1 : Int32) (s4 e1 1 (3 : Int32) p1))) (s4 e3 2 (0 : Int32) (s4 e0 2 (1 : Int32) (s4 e1 2 (3 : Int32) p2))) (s4 e3 3 (0 : Int32) (s4 e0 3 (1 : Int32) (s4 e1 3 (3 : Int32) p3))) ∧ SM p0 p1 p2 p3 (s4 e3 0 (0 : Int32) (s4 e0 0 (1 : Int32) (s4 e1 0 (3 : Int32) p0))) (s4 e3 1 (0 : Int32) (s4 e0 1 (1 : Int32) (s4 e1 1 (3 : Int32) p1))) (s4 e3 2 (0 : Int32) (s4 e0 2 (1 : Int32) (s4 e1 2 (3 : Int32) p2))) (s4 e3 3 (0 : Int32) (s4 e0 3 (1 : Int32) (s4 e1 3 (3 : Int32) p3))) := by
  rcases own_gt_3 H hl with rfl
  · exact own_l2_4 H
theorem ef_rm_up_3 (m : MethodId) (x0 : Addr) (x1 : Int32) : entryFrame m #[(.ref x0), (.int x1)] 5 = mkF m 0 #[.val (.ref x0), .val (.int x1), .unset, .unset, .unset] [] := by first | (simp [entryFrame, mkF, argsToLocals, Value.category]; done) | rfl
def Q_rm_up_3 (Z : State) (hp : Addr) (pp : Int32) (kq aF aO aW aK aB aA aI lo aE aP : Addr) (cK kK kE kP : ClassId) (sz en0 en1 en2 en3 po0 po1 po2 po3 : Int32) (h0 : Heap) (n0 : Nat) (v : Option Value) (h : Heap) (L : List Loc) : Prop := ∃ (ve0 : Int32) (ve1 : Int32) (ve2 : Int32) (ve3 : Int32) (vp0 : Int32) (vp1 : Int32) (vp2 : Int32) (vp3 : Int32) (r_ : Int32), v = some (.int r_) ∧ Fr n0 L ∧ Keep h0 h [aE, aP] ∧ Arv Z h aE kE .int (4 : Int32) [(.int ve0), (.int ve1), (.int ve2), (.int ve3)] (.int (0 : Int32)) ∧ Arv Z h aP kP .int (4 : Int32) [(.int vp0), (.int vp1), (.int vp2), (.int vp3)] (.int (-1 : Int32)) ∧ (HI sz ve0 ve1 ve2 ve3 vp0 vp1 vp2 vp3 ∧ SM po0 po1 po2 po3 vp0 vp1 vp2 vp3) ∧ (I4 r_ ∧ r_ < sz)
set_option maxRecDepth 65536 in
set_option maxHeartbeats 40000000 in
theorem rm_up_3 (l : Launch) (Z : State) (a0 : Array Value) (hw : ∀ d ∈ tables_1, d.before a0 Z = true) (ws : List Jvm.Cond) (hp : Addr) (pp : Int32) (kq aF aO aW aK aB aA aI lo aE aP : Addr) (cK kK kE kP : ClassId) (sz en0 en1 en2 en3 po0 po1 po2 po3 : Int32) (h0 : Heap) (n0 : Nat) (O0 : Old Z n0 h0) (E_hp : Exa Z h0 hp "com/example/leasewise/leasewise/IndexedHeap") (F_hp_order : Fld Z h0 hp "com/example/leasewise/leasewise/IndexedHeap" "order" "Lcom/example/leasewise/leasewise/IndexedHeap$Order;" (.ref lo)) (F_hp_entries : Fld Z h0 hp "com/example/leasewise/leasewise/IndexedHeap" "entries" "[I" (.ref aE)) (F_hp_positions : Fld Z h0 hp "com/example/leasewise/leasewise/IndexedHeap" "positions" "[I" (.ref aP)) (F_hp_size : Fld Z h0 hp "com/example/leasewise/leasewise/IndexedHeap" "size" "I" (.int sz)) (E_kq : Exa Z h0 kq "com/example/leasewise/leasewise/KilometreQueue") (F_kq_keys : Fld Z h0 kq "com/example/leasewise/leasewise/KilometreQueue" "keys" "[J" (.ref aK)) (MDc : Jvm.LamKit.Made Z "com/example/leasewise/leasewise/KilometreQueue" sgm cK) (V_aE : Arv Z h0 aE kE .int (4 : Int32) [(.int en0), (.int en1), (.int en2), (.int en3)] (.int (0 : Int32))) (V_aP : Arv Z h0 aP kP .int (4 : Int32) [(.int po0), (.int po1), (.int po2), (.int po3)] (.int (-1 : Int32))) (g_aE : n0 ≤ aE) (g_aP : n0 ≤ aP) (NDp : List.Nodup [kq, aF, aO, aW, aK, aB, aA, aI, hp, lo, aE, aP]) (HI0 : HI sz en0 en1 en2 en3 po0 po1 po2 po3) (hpp : pp = (3 : Int32)) (hlt : pp < sz) (V_aK : Arp Z h0 aK kK .long (4 : Int32) PJ) (Y_lo : LamO h0 lo cK kq) :
    MetFree l (⟨"com/example/leasewise/leasewise/IndexedHeap", "siftUp", "(I)I"⟩ : MethodName) (head1 (Jvm.Cond.code (⟨"com/example/leasewise/leasewise/IndexedHeap", "siftUp", "(I)I"⟩ : MethodName) prog_35_method_8_code 5 (some .int) :: ws) ({ frames := 2, cells := 0, slots := 0, locals := 28 } : Room)) (fun a U => a = #[(.ref hp), (.int pp)] ∧ Z.WarmedH U.vm ∧ U.heap = h0) (fun _ _ _ _ _ => True) (fun _ U o U' => ∃ v L, o = .returned v ∧ Q_rm_up_3 Z hp pp kq aF aO aW aK aB aA aI lo aE aP cK kK kE kP sz en0 en1 en2 en3 po0 po1 po2 po3 h0 n0 v U'.heap L ∧ FrameEnd U o U' L ({ frames := 2, cells := 0, slots := 0, locals := 28 } : Room).cells ({ frames := 2, cells := 0, slots := 0, locals := 28 } : Room).slots) := by
  refine MetFree.of_bodySF (plainFor_of_name pn_1) hisR ?_
  intro p e s m args below meth c s₁ Bd hml0 hP hK
  obtain ⟨rfl, hZH, hh⟩ := hP
  have hZ := hZH.wide
  have hx := Bd.exec
  have hby := Bd.bytes
  have D := fun {pc : Nat} {r : Except ClassFile.DecodeError (ClassFile.Instr × Nat)} (q : decode prog_35_method_8_code pc = r) => hb (pc := pc) hby q
  have hml : c.maxLocals = 5 := hml0
  have hown : s.vm.findClass "com/example/leasewise/leasewise/IndexedHeap" = some m.cls := findClass_of_methodNamed Bd.named
  have hnm := (name_of_methodNamed Bd.named Bd.method).1
  have X0 : Stand p l e ({ frames := 2, cells := 0, slots := 0, locals := 28 } : Room) s m #[(.ref hp), (.int pp)] below meth c s₁ [] 0 0 := Stand.of_body Bd
  have e0 : s₁.heap = h0 := by rw [← hh, Bd.state]; rfl
  have N0 := Fr.nil n0
  have pre0 : ∀ t, Steps p.tables e below (s₁.setTop (mkF m 0 #[.val (.ref hp), .val (.int pp), .unset, .unset, .unset] [])) t → Steps p.tables e below (s₁.setTop (entryFrame m #[(.ref hp), (.int pp)] 5)) t := fun t k => castTop (ef_rm_up_3 m (hp) (pp)) k
  have wd := fun {d : Jvm.Cond} (i : Nat) (h : tables_1[i]? = some d) => hw d (List.mem_of_getElem? h)
  subst hpp
  obtain ⟨T1, X1, e1, st1⟩ := getF X0 hx hZ hown (host := "") (Or.inl (wd 44 rfl)) Via.refl e0 F_hp_entries (g := (mkF m 1 #[.val (.ref hp), .val (.int (3 : Int32)), .unset, .unset, .unset] [(.ref hp)])) rfl rfl (D d11_1)
  obtain ⟨cl2, Ar2, q2, S2, Nn2, H2, G2⟩ := id V_aE
  have hin2 : ¬ ((3 : Int32) < 0 ∨ cl2.slots.size ≤ ((3 : Int32)).toNatClampNeg) := inb_of S2 ⟨by decide, by decide⟩
  obtain ⟨T3, X3, e3, st3⟩ := getF X1 hx hZ hown (host := "") (Or.inl (wd 42 rfl)) Via.refl e1 F_hp_order (g := (mkF m 21 #[.val (.ref hp), .val (.int (3 : Int32)), .val (.int en3), .val (.int (3 : Int32)), .val (.int (1 : Int32))] [(.ref hp)])) rfl rfl (D d11_21)
  obtain ⟨T4, X4, e4, st4⟩ := getF X3 hx hZ hown (host := "") (Or.inl (wd 44 rfl)) Via.refl e3 F_hp_entries (g := (mkF m 26 #[.val (.ref hp), .val (.int (3 : Int32)), .val (.int en3), .val (.int (3 : Int32)), .val (.int (1 : Int32))] [(.ref hp), (.int en3), (.ref lo)])) rfl rfl (D d11_26)
  obtain ⟨cl5, Ar5, q5, S5, Nn5, H5, G5⟩ := id V_aE
  have hin5 : ¬ ((1 : Int32) < 0 ∨ cl5.slots.size ≤ ((1 : Int32)).toNatClampNeg) := inb_of S5 ⟨by decide, by decide⟩
  obtain ⟨cy6, yc6, yk6, yv6, ys6⟩ := id Y_lo
  obtain ⟨mk6, ck6, U6, sb6, Y6, hb6, hm6, hr6, hZ6, eU6, out6⟩ := own_enter X4 hx hZH (host := "com/example/leasewise/leasewise/KilometreQueue") (σ := sgm) (xi := (⟨"com/example/leasewise/leasewise/IndexedHeap$Order", "before", "(II)Z"⟩ : MethodName)) hown (wd 96 rfl) (wd 97 rfl) (mvT hZ (wd 98 rfl)) (by decide +kernel) (by decide) MDc (LamO.fn Y_lo e4) own_fwdok (g := (mkF m 32 #[.val (.ref hp), .val (.int (3 : Int32)), .val (.int en3), .val (.int (3 : Int32)), .val (.int (1 : Int32))] [(.int en1), (.int en3), (.ref lo)])) rfl (by rw [hml]; rfl) (argsL := [(.int en3), (.int en1)]) (rest := []) (L0 := #[.val (.ref lo), .val (.int en3), .val (.int en1)]) (lenOf pd_0 rfl) rfl (D d11_32) (fun _ => by first | rfl | (simp [entryFrame, mkF, argsToLocals, Value.category]; done)) (R' := ({ frames := 1, cells := 0, slots := 0, locals := 14 } : Room)) (by decide) (Nat.le_of_ble_eq_true rfl) (by decide) (by decide)
  obtain ⟨_, ⟨T6, L6, k6, n6⟩, Yx6, ⟨Lc6, hQ6, l6, y6, z6⟩, sx6⟩ := own_fvp Y6 hx hZ6 MDc rfl own_refok (by decide) (wd 101 rfl) (own_selpriv (y := (⟨"com/example/leasewise/leasewise/KilometreQueue", "lambda$new$0", "(II)Z"⟩ : MethodName)) (wd 54 rfl) rfl (Cond.privateMethod_at (wd 100 rfl)) (wd 99 rfl) (by decide)) (wd 99 rfl) (own_backH (W := 0) (rm_lam l Z a0 hw [] kq en3 en1 aK kK h0 n0 O0 E_kq F_kq_keys (own_en_3 HI0 hlt) (own_en_1 HI0 (Int32.lt_trans (by decide) hlt)) V_aK) hZ6 (wd 101 rfl) (wd 2 rfl) (by decide) (by decide)) (eU6.trans e4) E_kq (g := mkF ⟨cK, 1⟩ 6 #[.val (.ref lo), .val (.int en3), .val (.int en1)] [(.int en1), (.int en3), .ref kq]) rfl (by rw [hm6]; rfl) (argsL := [(.int en3), (.int en1)]) (rest := []) (lenOf pd_0 rfl) rfl (by show 2 * 0 + _ ≤ _; exact Nat.le_of_eq rfl) (by rw [hb6]; exact own_f6) ⟨rfl, (eU6.trans e4), Nat.le_of_ble_eq_true rfl, Nat.le_of_ble_eq_true rfl⟩
  dsimp only [Pt.U, Pt.locs, Pt.cells, Pt.slots] at Yx6 l6 y6 z6 sx6 hQ6
  subst l6 y6 z6
  obtain ⟨r__6, rfl, N6q, K6, Q6_0⟩ := hQ6
  have O6 := O0.keep K6 all0
  have KK6 : Keep h0 T6.heap [aE, aP] := (Keep.refl h0 [aE, aP]).trans K6 all0
  have sf6 : Steps p.tables e (.java { (mkF m 32 #[.val (.ref hp), .val (.int (3 : Int32)), .val (.int en3), .val (.int (3 : Int32)), .val (.int (1 : Int32))] [(.int en1), (.int en3), (.ref lo)]) with stack := [] } :: below) (U6.setTop (mkF ⟨cK, 1⟩ 0 #[.val (.ref lo), .val (.int en3), .val (.int en1)] [])) (T6.setTop (mkF ⟨cK, 1⟩ 9 #[.val (.ref lo), .val (.int en3), .val (.int en1)] [(.int r__6)])) := by
    refine XS.aloadN Y6.here hx rfl (by rw [hb6]; exact own_f0) rfl rfl ?_
    refine getCap (s := Z) hx Y6.here (State.WarmedH.trans hZ6 Y6.warmed) MDc own_capok (wd 37 rfl) (by rw [(eU6.trans e4)]; exact yc6) yv6 ys6 rfl rfl (by rw [hb6]; exact own_f1) ?_
    refine XS.iloadN Y6.here hx rfl (by rw [hb6]; exact own_f4) rfl ?_
    refine XS.iloadN Y6.here hx rfl (by rw [hb6]; exact own_f5) rfl ?_
    exact sx6 _ (Steps.refl _)
  obtain ⟨Tc6, Xc6, eo6, so6⟩ := out6 T6 _ _ _ (some (.int r__6)) 9 #[.val (.ref lo), .val (.int en3), .val (.int en1)] .ireturn Yx6 (by rw [hb6]; exact own_f9) (Or.inl ⟨.boolean, _, rfl, Or.inr (Or.inl rfl), own_nb01 Q6_0, rfl, rfl⟩) sf6
  have N6 := Fr.app N0 (Fr.app (Fr.nil n0) N6q)
  have cs7 : Steps p.tables e below (s₁.setTop (mkF m 0 #[.val (.ref hp), .val (.int (3 : Int32)), .unset, .unset, .unset] [])) (Tc6.setTop (mkF m 37 #[.val (.ref hp), .val (.int (3 : Int32)), .val (.int en3), .val (.int (3 : Int32)), .val (.int (1 : Int32))] [(.int r__6)])) := (by
    refine s_aloadN X0 hx (D d11_0) rfl rfl ?_
    refine st1 _ ?_
    refine s_iloadN X1 hx (D d11_4) rfl ?_
    refine X1.iaload hx (j := (3 : Int32)) (v := (.int en3)) (by rw [e1]; exact (Ar2).1) (State.isArrayOf_alike hZ.alike (Ar2).2.1) (Ar2).2.2 hin2 (H2.at hin2 rfl) (g := (mkF m 5 #[.val (.ref hp), .val (.int (3 : Int32)), .unset, .unset, .unset] [(.int (3 : Int32)), (.ref aE)])) rfl rfl (D d11_5) _ ?_
    refine s_istoreN X1 hx (D d11_6) (l' := #[.val (.ref hp), .val (.int (3 : Int32)), .val (.int en3), .unset, .unset]) rfl ?_
    refine s_iloadN X1 hx (D d11_7) rfl ?_
    refine s_istoreN X1 hx (D d11_8) (l' := #[.val (.ref hp), .val (.int (3 : Int32)), .val (.int en3), .val (.int (3 : Int32)), .unset]) rfl ?_
    refine s_iloadN X1 hx (D d11_9) rfl ?_
    refine s_ifNo X1 hx (D d11_10) ((if0 _ _).trans (tlt (by decide : (0 : Int32) < (3 : Int32))).2.2.2) ?_
    refine s_iloadN X1 hx (D d11_13) rfl ?_
    refine s_iconst X1 hx (1 : Int32) (D d11_14) rfl ?_
    refine s_isub X1 hx (D d11_15) (r := (2 : Int32)) (by decide) ?_
    refine s_iconst X1 hx (2 : Int32) (D d11_16) rfl ?_
    refine s_idiv X1 hx (D d11_17) (by decide) (r := (1 : Int32)) (by decide) ?_
    refine s_istore X1 hx (D d11_18) (l' := #[.val (.ref hp), .val (.int (3 : Int32)), .val (.int en3), .val (.int (3 : Int32)), .val (.int (1 : Int32))]) rfl ?_
    refine s_aloadN X1 hx (D d11_20) rfl rfl ?_
    refine st3 _ ?_
    refine s_iloadN X3 hx (D d11_24) rfl ?_
    refine s_aloadN X3 hx (D d11_25) rfl rfl ?_
    refine st4 _ ?_
    refine s_iload X4 hx (D d11_29) rfl ?_
    refine X4.iaload hx (j := (1 : Int32)) (v := (.int en1)) (by rw [e4]; exact (Ar5).1) (State.isArrayOf_alike hZ.alike (Ar5).2.1) (Ar5).2.2 hin5 (H5.at hin5 rfl) (g := (mkF m 31 #[.val (.ref hp), .val (.int (3 : Int32)), .val (.int en3), .val (.int (3 : Int32)), .val (.int (1 : Int32))] [(.int (1 : Int32)), (.ref aE), (.int en3), (.ref lo)])) rfl rfl (D d11_31) _ ?_
    refine so6 _ ?_
    exact Steps.refl _)
  by_cases hc8 : r__6 = (0 : Int32)
  · have f9 := (E_hp.keep K6)
    have f10 := (F_hp_order.keep K6 nin0)
    have f11 := (F_hp_entries.keep K6 nin0)
    have f12 := (F_hp_positions.keep K6 nin0)
    have f13 := (V_aE.keep K6 nin0)
    have f14 := (V_aP.keep K6 nin0)
    obtain ⟨cq15, q15, q15'⟩ := f9.cell
    obtain ⟨_, _, ⟨T15, L15, k15, n15⟩, -, X15, ⟨Lc15, hQ15, l15, y15, z15⟩, st15⟩ := Xc6.privateBack hx (y := (⟨"com/example/leasewise/leasewise/IndexedHeap", "place", "(II)V"⟩ : MethodName)) hown (mvT hZ (wd 92 rfl)) (mvT hZ (wd 93 rfl)) (own_selpriv (y := (⟨"com/example/leasewise/leasewise/IndexedHeap", "place", "(II)V"⟩ : MethodName)) (mvT hZ (wd 59 rfl)) rfl (Cond.privateMethod_at (mvP hZ (wd 94 rfl) (args := #[]))) (mvT hZ (wd 93 rfl)) (by decide)) (Cond.privateMethod_at (mvP hZ (wd 94 rfl) (args := #[]))) (mvT hZ (wd 95 rfl)) (by decide) (own_backH (W := 0) (rm_place_3 l Z a0 hw [] hp en3 kq aF aO aW aK aB aA aI lo aE aP kE kP en0 en1 en2 en3 po0 po1 po2 po3 T6.heap n0 O6 f9 f10 f11 f12 f13 f14 g_aE g_aP NDp (own_en_3 HI0 hlt)) hZH (wd 95 rfl) (wd 33 rfl) (by decide) (by decide)) (g := (mkF m 64 #[.val (.ref hp), .val (.int (3 : Int32)), .val (.int en3), .val (.int (3 : Int32)), .val (.int (1 : Int32))] [(.int (3 : Int32)), (.int en3), (.ref hp)])) rfl (by rw [hml]; rfl) (Steps.refl _) (a := hp) (by rw [eo6]; exact q15) q15' (argsL := [(.int en3), (.int (3 : Int32))]) (rest := []) (lenOf pd_1 rfl) rfl (by show 2 * 0 + _ ≤ _; exact Nat.le_of_eq rfl) (D d11_64) (fun _ _ => ⟨rfl, eo6, (by decide : 0 + 0 ≤ _), (by decide : 0 + 0 ≤ _)⟩)
    dsimp only [Pt.U, Pt.locs, Pt.cells, Pt.slots] at X15 l15 y15 z15 st15 hQ15
    subst l15 y15 z15
    obtain ⟨rfl, N15q, K15, Q15_0, Q15_1⟩ := hQ15
    have O15 := O6.keep K15 (allS g_aE (allS g_aP all0))
    have KK15 : Keep h0 T15.heap [aE, aP] := KK6.trans K15 (allS (own_mem 0 rfl) (allS (own_mem 1 rfl) all0))
    have N15 := Fr.app N6 N15q
    obtain ⟨fs, hr, hrun, hended, hW, hsame⟩ := X15.leave (v := some (.int (3 : Int32))) (fun h => by rw [Bd.returns] at h; cases h)
    refine ⟨_, _, pre0 _ ?_, hrun, hended, _, _, rfl, ?_, ⟨_, rfl⟩, hW, hsame.mono (by decide) (by decide)⟩
    · refine cs7.trans ?_
      refine s_ifNo Xc6 hx (D d11_37) ((if0 _ _).trans (teq hc8).2) ?_
      refine s_goto Xc6 hx 61 (D d11_40) (of_decide_eq_true rfl) rfl ?_
      refine s_aloadN Xc6 hx (D d11_61) rfl rfl ?_
      refine s_iloadN Xc6 hx (D d11_62) rfl ?_
      refine s_iloadN Xc6 hx (D d11_63) rfl ?_
      refine st15.trans ?_
      refine s_iloadN X15 hx (D d11_67) rfl ?_
      exact retI X15 hx Bd.returns (D d11_68) hr
    · show Q_rm_up_3 Z hp (3 : Int32) kq aF aO aW aK aB aA aI lo aE aP cK kK kE kP sz en0 en1 en2 en3 po0 po1 po2 po3 h0 n0 _ T15.heap _
      exact ⟨en0, en1, en2, en3, (s4 en3 0 (3 : Int32) po0), (s4 en3 1 (3 : Int32) po1), (s4 en3 2 (3 : Int32) po2), (s4 en3 3 (3 : Int32) po3), (3 : Int32), rfl, N15, KK15, Q15_0, Q15_1, (own_l0 HI0 hlt), ⟨own_i3, hlt⟩⟩
  · have f16 := (F_hp_entries.keep K6 nin0)
    obtain ⟨T17, X17, e17, st17⟩ := getF Xc6 hx hZ hown (host := "") (Or.inl (wd 44 rfl)) Via.refl eo6 f16 (g := (mkF m 45 #[.val (.ref hp), .val (.int (3 : Int32)), .val (.int en3), .val (.int (3 : Int32)), .val (.int (1 : Int32))] [(.ref hp), (.ref hp)])) rfl rfl (D d11_45)
    have f19 := (V_aE.keep K6 nin0)
    obtain ⟨cl18, Ar18, q18, S18, Nn18, H18, G18⟩ := id f19
    have hin18 : ¬ ((1 : Int32) < 0 ∨ cl18.slots.size ≤ ((1 : Int32)).toNatClampNeg) := inb_of S18 ⟨by decide, by decide⟩
    have f20 := (E_hp.keep K6)
    have f21 := (F_hp_order.keep K6 nin0)
    have f22 := (F_hp_positions.keep K6 nin0)
    have f23 := (V_aP.keep K6 nin0)
    obtain ⟨cq24, q24, q24'⟩ := f20.cell
    obtain ⟨_, _, ⟨T24, L24, k24, n24⟩, -, X24, ⟨Lc24, hQ24, l24, y24, z24⟩, st24⟩ := X17.privateBack hx (y := (⟨"com/example/leasewise/leasewise/IndexedHeap", "place", "(II)V"⟩ : MethodName)) hown (mvT hZ (wd 92 rfl)) (mvT hZ (wd 93 rfl)) (own_selpriv (y := (⟨"com/example/leasewise/leasewise/IndexedHeap", "place", "(II)V"⟩ : MethodName)) (mvT hZ (wd 59 rfl)) rfl (Cond.privateMethod_at (mvP hZ (wd 94 rfl) (args := #[]))) (mvT hZ (wd 93 rfl)) (by decide)) (Cond.privateMethod_at (mvP hZ (wd 94 rfl) (args := #[]))) (mvT hZ (wd 95 rfl)) (by decide) (own_backH (W := 0) (rm_place_3 l Z a0 hw [] hp en1 kq aF aO aW aK aB aA aI lo aE aP kE kP en0 en1 en2 en3 po0 po1 po2 po3 T6.heap n0 O6 f20 f21 f16 f22 f19 f23 g_aE g_aP NDp (own_en_1 HI0 (Int32.lt_trans (by decide) hlt))) hZH (wd 95 rfl) (wd 33 rfl) (by decide) (by decide)) (g := (mkF m 52 #[.val (.ref hp), .val (.int (3 : Int32)), .val (.int en3), .val (.int (3 : Int32)), .val (.int (1 : Int32))] [(.int (3 : Int32)), (.int en1), (.ref hp)])) rfl (by rw [hml]; rfl) (Steps.refl _) (a := hp) (by rw [e17]; exact q24) q24' (argsL := [(.int en1), (.int (3 : Int32))]) (rest := []) (lenOf pd_1 rfl) rfl (by show 2 * 0 + _ ≤ _; exact Nat.le_of_eq rfl) (D d11_52) (fun _ _ => ⟨rfl, e17, (by decide : 0 + 0 ≤ _), (by decide : 0 + 0 ≤ _)⟩)
    dsimp only [Pt.U, Pt.locs, Pt.cells, Pt.slots] at X24 l24 y24 z24 st24 hQ24
    subst l24 y24 z24
    obtain ⟨rfl, N24q, K24, Q24_0, Q24_1⟩ := hQ24
    have O24 := O6.keep K24 (allS g_aE (allS g_aP all0))
    have KK24 : Keep h0 T24.heap [aE, aP] := KK6.trans K24 (allS (own_mem 0 rfl) (allS (own_mem 1 rfl) all0))
    have N24 := Fr.app N6 N24q
    have f25 := (f21.keep K24 (nn3 NDp))
    obtain ⟨T26, X26, e26, st26⟩ := getF X24 hx hZ hown (host := "") (Or.inl (wd 42 rfl)) Via.refl rfl f25 (g := (mkF m 21 #[.val (.ref hp), .val (.int (3 : Int32)), .val (.int en3), .val (.int (1 : Int32)), .val (.int (0 : Int32))] [(.ref hp)])) rfl rfl (D d11_21)
    have f27 := (f16.keep K24 (nn3 NDp))
    obtain ⟨T28, X28, e28, st28⟩ := getF X26 hx hZ hown (host := "") (Or.inl (wd 44 rfl)) Via.refl e26 f27 (g := (mkF m 26 #[.val (.ref hp), .val (.int (3 : Int32)), .val (.int en3), .val (.int (1 : Int32)), .val (.int (0 : Int32))] [(.ref hp), (.int en3), (.ref lo)])) rfl rfl (D d11_26)
    obtain ⟨cl29, Ar29, q29, S29, Nn29, H29, G29⟩ := id Q24_0
    have hin29 : ¬ ((0 : Int32) < 0 ∨ cl29.slots.size ≤ ((0 : Int32)).toNatClampNeg) := inb_of S29 ⟨by decide, by decide⟩
    have f31 := ((V_aK.keep K6 nin0).keep K24 (nn4 NDp))
    have f32 := ((E_kq.keep K6).keep K24)
    have f33 := ((F_kq_keys.keep K6 nin0).keep K24 (nn5 NDp))
    have f34 := ((Y_lo.keep K6 nin0).keep K24 (nn6 NDp))
    obtain ⟨cy30, yc30, yk30, yv30, ys30⟩ := id f34
    obtain ⟨mk30, ck30, U30, sb30, Y30, hb30, hm30, hr30, hZ30, eU30, out30⟩ := own_enter X28 hx hZH (host := "com/example/leasewise/leasewise/KilometreQueue") (σ := sgm) (xi := (⟨"com/example/leasewise/leasewise/IndexedHeap$Order", "before", "(II)Z"⟩ : MethodName)) hown (wd 96 rfl) (wd 97 rfl) (mvT hZ (wd 98 rfl)) (by decide +kernel) (by decide) MDc (LamO.fn f34 e28) own_fwdok (g := (mkF m 32 #[.val (.ref hp), .val (.int (3 : Int32)), .val (.int en3), .val (.int (1 : Int32)), .val (.int (0 : Int32))] [(.int en0), (.int en3), (.ref lo)])) rfl (by rw [hml]; rfl) (argsL := [(.int en3), (.int en0)]) (rest := []) (L0 := #[.val (.ref lo), .val (.int en3), .val (.int en0)]) (lenOf pd_0 rfl) rfl (D d11_32) (fun _ => by first | rfl | (simp [entryFrame, mkF, argsToLocals, Value.category]; done)) (R' := ({ frames := 1, cells := 0, slots := 0, locals := 14 } : Room)) (by decide) (Nat.le_of_ble_eq_true rfl) (by decide) (by decide)
    obtain ⟨_, ⟨T30, L30, k30, n30⟩, Yx30, ⟨Lc30, hQ30, l30, y30, z30⟩, sx30⟩ := own_fvp Y30 hx hZ30 MDc rfl own_refok (by decide) (wd 101 rfl) (own_selpriv (y := (⟨"com/example/leasewise/leasewise/KilometreQueue", "lambda$new$0", "(II)Z"⟩ : MethodName)) (wd 54 rfl) rfl (Cond.privateMethod_at (wd 100 rfl)) (wd 99 rfl) (by decide)) (wd 99 rfl) (own_backH (W := 0) (rm_lam l Z a0 hw [] kq en3 en0 aK kK T24.heap n0 O24 f32 f33 (own_en_3 HI0 hlt) (own_en_0 HI0 (Int32.lt_trans (by decide) hlt)) f31) hZ30 (wd 101 rfl) (wd 2 rfl) (by decide) (by decide)) (eU30.trans e28) f32 (g := mkF ⟨cK, 1⟩ 6 #[.val (.ref lo), .val (.int en3), .val (.int en0)] [(.int en0), (.int en3), .ref kq]) rfl (by rw [hm30]; rfl) (argsL := [(.int en3), (.int en0)]) (rest := []) (lenOf pd_0 rfl) rfl (by show 2 * 0 + _ ≤ _; exact Nat.le_of_eq rfl) (by rw [hb30]; exact own_f6) ⟨rfl, (eU30.trans e28), Nat.le_of_ble_eq_true rfl, Nat.le_of_ble_eq_true rfl⟩
    dsimp only [Pt.U, Pt.locs, Pt.cells, Pt.slots] at Yx30 l30 y30 z30 sx30 hQ30
    subst l30 y30 z30
    obtain ⟨r__30, rfl, N30q, K30, Q30_0⟩ := hQ30
    have O30 := O24.keep K30 all0
    have KK30 : Keep h0 T30.heap [aE, aP] := KK24.trans K30 all0
    have sf30 : Steps p.tables e (.java { (mkF m 32 #[.val (.ref hp), .val (.int (3 : Int32)), .val (.int en3), .val (.int (1 : Int32)), .val (.int (0 : Int32))] [(.int en0), (.int en3), (.ref lo)]) with stack := [] } :: below) (U30.setTop (mkF ⟨cK, 1⟩ 0 #[.val (.ref lo), .val (.int en3), .val (.int en0)] [])) (T30.setTop (mkF ⟨cK, 1⟩ 9 #[.val (.ref lo), .val (.int en3), .val (.int en0)] [(.int r__30)])) := by
      refine XS.aloadN Y30.here hx rfl (by rw [hb30]; exact own_f0) rfl rfl ?_
      refine getCap (s := Z) hx Y30.here (State.WarmedH.trans hZ30 Y30.warmed) MDc own_capok (wd 37 rfl) (by rw [(eU30.trans e28)]; exact yc30) yv30 ys30 rfl rfl (by rw [hb30]; exact own_f1) ?_
      refine XS.iloadN Y30.here hx rfl (by rw [hb30]; exact own_f4) rfl ?_
      refine XS.iloadN Y30.here hx rfl (by rw [hb30]; exact own_f5) rfl ?_
      exact sx30 _ (Steps.refl _)
    obtain ⟨Tc30, Xc30, eo30, so30⟩ := out30 T30 _ _ _ (some (.int r__30)) 9 #[.val (.ref lo), .val (.int en3), .val (.int en0)] .ireturn Yx30 (by rw [hb30]; exact own_f9) (Or.inl ⟨.boolean, _, rfl, Or.inr (Or.inl rfl), own_nb01 Q30_0, rfl, rfl⟩) sf30
    have N30 := Fr.app N24 (Fr.app (Fr.nil n0) N30q)
    have cs35 : Steps p.tables e below (s₁.setTop (mkF m 0 #[.val (.ref hp), .val (.int (3 : Int32)), .unset, .unset, .unset] [])) (Tc30.setTop (mkF m 37 #[.val (.ref hp), .val (.int (3 : Int32)), .val (.int en3), .val (.int (1 : Int32)), .val (.int (0 : Int32))] [(.int r__30)])) := cs7.trans (by
      refine s_ifYes Xc6 hx 43 (D d11_37) ((if0 _ _).trans (feq hc8).2) (of_decide_eq_true rfl) rfl ?_
      refine s_aloadN Xc6 hx (D d11_43) rfl rfl ?_
      refine s_aloadN Xc6 hx (D d11_44) rfl rfl ?_
      refine st17 _ ?_
      refine s_iload X17 hx (D d11_48) rfl ?_
      refine X17.iaload hx (j := (1 : Int32)) (v := (.int en1)) (by rw [e17]; exact (Ar18).1) (State.isArrayOf_alike hZ.alike (Ar18).2.1) (Ar18).2.2 hin18 (H18.at hin18 rfl) (g := (mkF m 50 #[.val (.ref hp), .val (.int (3 : Int32)), .val (.int en3), .val (.int (3 : Int32)), .val (.int (1 : Int32))] [(.int (1 : Int32)), (.ref aE), (.ref hp)])) rfl rfl (D d11_50) _ ?_
      refine s_iloadN X17 hx (D d11_51) rfl ?_
      refine st24.trans ?_
      refine s_iload X24 hx (D d11_55) rfl ?_
      refine s_istoreN X24 hx (D d11_57) (l' := #[.val (.ref hp), .val (.int (3 : Int32)), .val (.int en3), .val (.int (1 : Int32)), .val (.int (1 : Int32))]) rfl ?_
      refine s_goto X24 hx 9 (D d11_58) (of_decide_eq_true rfl) rfl ?_
      refine s_iloadN X24 hx (D d11_9) rfl ?_
      refine s_ifNo X24 hx (D d11_10) ((if0 _ _).trans (tlt (by decide : (0 : Int32) < (1 : Int32))).2.2.2) ?_
      refine s_iloadN X24 hx (D d11_13) rfl ?_
      refine s_iconst X24 hx (1 : Int32) (D d11_14) rfl ?_
      refine s_isub X24 hx (D d11_15) (r := (0 : Int32)) (by decide) ?_
      refine s_iconst X24 hx (2 : Int32) (D d11_16) rfl ?_
      refine s_idiv X24 hx (D d11_17) (by decide) (r := (0 : Int32)) (by decide) ?_
      refine s_istore X24 hx (D d11_18) (l' := #[.val (.ref hp), .val (.int (3 : Int32)), .val (.int en3), .val (.int (1 : Int32)), .val (.int (0 : Int32))]) rfl ?_
      refine s_aloadN X24 hx (D d11_20) rfl rfl ?_
      refine st26 _ ?_
      refine s_iloadN X26 hx (D d11_24) rfl ?_
      refine s_aloadN X26 hx (D d11_25) rfl rfl ?_
      refine st28 _ ?_
      refine s_iload X28 hx (D d11_29) rfl ?_
      refine X28.iaload hx (j := (0 : Int32)) (v := (.int en0)) (by rw [e28]; exact (Ar29).1) (State.isArrayOf_alike hZ.alike (Ar29).2.1) (Ar29).2.2 hin29 (H29.at hin29 rfl) (g := (mkF m 31 #[.val (.ref hp), .val (.int (3 : Int32)), .val (.int en3), .val (.int (1 : Int32)), .val (.int (0 : Int32))] [(.int (0 : Int32)), (.ref aE), (.int en3), (.ref lo)])) rfl rfl (D d11_31) _ ?_
      refine so30 _ ?_
      exact Steps.refl _)
    by_cases hc36 : r__30 = (0 : Int32)
    · have f37 := ((f20.keep K24).keep K30)
      have f38 := (f25.keep K30 nin0)
      have f39 := (f27.keep K30 nin0)
      have f40 := ((f22.keep K24 (nn3 NDp)).keep K30 nin0)
      have f41 := (Q24_0.keep K30 nin0)
      have f42 := (Q24_1.keep K30 nin0)
      obtain ⟨cq43, q43, q43'⟩ := f37.cell
      obtain ⟨_, _, ⟨T43, L43, k43, n43⟩, -, X43, ⟨Lc43, hQ43, l43, y43, z43⟩, st43⟩ := Xc30.privateBack hx (y := (⟨"com/example/leasewise/leasewise/IndexedHeap", "place", "(II)V"⟩ : MethodName)) hown (mvT hZ (wd 92 rfl)) (mvT hZ (wd 93 rfl)) (own_selpriv (y := (⟨"com/example/leasewise/leasewise/IndexedHeap", "place", "(II)V"⟩ : MethodName)) (mvT hZ (wd 59 rfl)) rfl (Cond.privateMethod_at (mvP hZ (wd 94 rfl) (args := #[]))) (mvT hZ (wd 93 rfl)) (by decide)) (Cond.privateMethod_at (mvP hZ (wd 94 rfl) (args := #[]))) (mvT hZ (wd 95 rfl)) (by decide) (own_backH (W := 0) (rm_place_1 l Z a0 hw [] hp en3 kq aF aO aW aK aB aA aI lo aE aP kE kP en0 en1 en2 en1 (s4 en1 0 (3 : Int32) po0) (s4 en1 1 (3 : Int32) po1) (s4 en1 2 (3 : Int32) po2) (s4 en1 3 (3 : Int32) po3) T30.heap n0 O30 f37 f38 f39 f40 f41 f42 g_aE g_aP NDp (own_en_3 HI0 hlt)) hZH (wd 95 rfl) (wd 33 rfl) (by decide) (by decide)) (g := (mkF m 64 #[.val (.ref hp), .val (.int (3 : Int32)), .val (.int en3), .val (.int (1 : Int32)), .val (.int (0 : Int32))] [(.int (1 : Int32)), (.int en3), (.ref hp)])) rfl (by rw [hml]; rfl) (Steps.refl _) (a := hp) (by rw [eo30]; exact q43) q43' (argsL := [(.int en3), (.int (1 : Int32))]) (rest := []) (lenOf pd_1 rfl) rfl (by show 2 * 0 + _ ≤ _; exact Nat.le_of_eq rfl) (D d11_64) (fun _ _ => ⟨rfl, eo30, (by decide : 0 + 0 ≤ _), (by decide : 0 + 0 ≤ _)⟩)
      dsimp only [Pt.U, Pt.locs, Pt.cells, Pt.slots] at X43 l43 y43 z43 st43 hQ43
      subst l43 y43 z43
      obtain ⟨rfl, N43q, K43, Q43_0, Q43_1⟩ := hQ43
      have O43 := O30.keep K43 (allS g_aE (allS g_aP all0))
      have KK43 : Keep h0 T43.heap [aE, aP] := KK30.trans K43 (allS (own_mem 0 rfl) (allS (own_mem 1 rfl) all0))
      have N43 := Fr.app N30 N43q
      obtain ⟨fs, hr, hrun, hended, hW, hsame⟩ := X43.leave (v := some (.int (1 : Int32))) (fun h => by rw [Bd.returns] at h; cases h)
      refine ⟨_, _, pre0 _ ?_, hrun, hended, _, _, rfl, ?_, ⟨_, rfl⟩, hW, hsame.mono (by decide) (by decide)⟩
      · refine cs35.trans ?_
        refine s_ifNo Xc30 hx (D d11_37) ((if0 _ _).trans (teq hc36).2) ?_
        refine s_goto Xc30 hx 61 (D d11_40) (of_decide_eq_true rfl) rfl ?_
        refine s_aloadN Xc30 hx (D d11_61) rfl rfl ?_
        refine s_iloadN Xc30 hx (D d11_62) rfl ?_
        refine s_iloadN Xc30 hx (D d11_63) rfl ?_
        refine st43.trans ?_
        refine s_iloadN X43 hx (D d11_67) rfl ?_
        exact retI X43 hx Bd.returns (D d11_68) hr
      · show Q_rm_up_3 Z hp (3 : Int32) kq aF aO aW aK aB aA aI lo aE aP cK kK kE kP sz en0 en1 en2 en3 po0 po1 po2 po3 h0 n0 _ T43.heap _
        exact ⟨en0, en3, en2, en1, (s4 en3 0 (1 : Int32) (s4 en1 0 (3 : Int32) po0)), (s4 en3 1 (1 : Int32) (s4 en1 1 (3 : Int32) po1)), (s4 en3 2 (1 : Int32) (s4 en1 2 (3 : Int32) po2)), (s4 en3 3 (1 : Int32) (s4 en1 3 (3 : Int32) po3)), (1 : Int32), rfl, N43, KK43, Q43_0, Q43_1, (own_l1 HI0 hlt), ⟨own_i1, (Int32.lt_trans (by decide) hlt)⟩⟩
    · have f44 := (f27.keep K30 nin0)
      obtain ⟨T45, X45, e45, st45⟩ := getF Xc30 hx hZ hown (host := "") (Or.inl (wd 44 rfl)) Via.refl eo30 f44 (g := (mkF m 45 #[.val (.ref hp), .val (.int (3 : Int32)), .val (.int en3), .val (.int (1 : Int32)), .val (.int (0 : Int32))] [(.ref hp), (.ref hp)])) rfl rfl (D d11_45)
      have f47 := (Q24_0.keep K30 nin0)
      obtain ⟨cl46, Ar46, q46, S46, Nn46, H46, G46⟩ := id f47
      have hin46 : ¬ ((0 : Int32) < 0 ∨ cl46.slots.size ≤ ((0 : Int32)).toNatClampNeg) := inb_of S46 ⟨by decide, by decide⟩
      have f48 := ((f20.keep K24).keep K30)
      have f49 := (f25.keep K30 nin0)
      have f50 := ((f22.keep K24 (nn3 NDp)).keep K30 nin0)
      have f51 := (Q24_1.keep K30 nin0)
      obtain ⟨cq52, q52, q52'⟩ := f48.cell
      obtain ⟨_, _, ⟨T52, L52, k52, n52⟩, -, X52, ⟨Lc52, hQ52, l52, y52, z52⟩, st52⟩ := X45.privateBack hx (y := (⟨"com/example/leasewise/leasewise/IndexedHeap", "place", "(II)V"⟩ : MethodName)) hown (mvT hZ (wd 92 rfl)) (mvT hZ (wd 93 rfl)) (own_selpriv (y := (⟨"com/example/leasewise/leasewise/IndexedHeap", "place", "(II)V"⟩ : MethodName)) (mvT hZ (wd 59 rfl)) rfl (Cond.privateMethod_at (mvP hZ (wd 94 rfl) (args := #[]))) (mvT hZ (wd 93 rfl)) (by decide)) (Cond.privateMethod_at (mvP hZ (wd 94 rfl) (args := #[]))) (mvT hZ (wd 95 rfl)) (by decide) (own_backH (W := 0) (rm_place_1 l Z a0 hw [] hp en0 kq aF aO aW aK aB aA aI lo aE aP kE kP en0 en1 en2 en1 (s4 en1 0 (3 : Int32) po0) (s4 en1 1 (3 : Int32) po1) (s4 en1 2 (3 : Int32) po2) (s4 en1 3 (3 : Int32) po3) T30.heap n0 O30 f48 f49 f44 f50 f47 f51 g_aE g_aP NDp (own_en_0 HI0 (Int32.lt_trans (by decide) hlt))) hZH (wd 95 rfl) (wd 33 rfl) (by decide) (by decide)) (g := (mkF m 52 #[.val (.ref hp), .val (.int (3 : Int32)), .val (.int en3), .val (.int (1 : Int32)), .val (.int (0 : Int32))] [(.int (1 : Int32)), (.int en0), (.ref hp)])) rfl (by rw [hml]; rfl) (Steps.refl _) (a := hp) (by rw [e45]; exact q52) q52' (argsL := [(.int en0), (.int (1 : Int32))]) (rest := []) (lenOf pd_1 rfl) rfl (by show 2 * 0 + _ ≤ _; exact Nat.le_of_eq rfl) (D d11_52) (fun _ _ => ⟨rfl, e45, (by decide : 0 + 0 ≤ _), (by decide : 0 + 0 ≤ _)⟩)
      dsimp only [Pt.U, Pt.locs, Pt.cells, Pt.slots] at X52 l52 y52 z52 st52 hQ52
      subst l52 y52 z52
      obtain ⟨rfl, N52q, K52, Q52_0, Q52_1⟩ := hQ52
      have O52 := O30.keep K52 (allS g_aE (allS g_aP all0))
      have KK52 : Keep h0 T52.heap [aE, aP] := KK30.trans K52 (allS (own_mem 0 rfl) (allS (own_mem 1 rfl) all0))
      have N52 := Fr.app N30 N52q
      have f53 := (f48.keep K52)
      have f54 := (f49.keep K52 (nn3 NDp))
      have f55 := (f44.keep K52 (nn3 NDp))
      have f56 := (f50.keep K52 (nn3 NDp))
      obtain ⟨cq57, q57, q57'⟩ := f53.cell
      obtain ⟨_, _, ⟨T57, L57, k57, n57⟩, -, X57, ⟨Lc57, hQ57, l57, y57, z57⟩, st57⟩ := X52.privateBack hx (y := (⟨"com/example/leasewise/leasewise/IndexedHeap", "place", "(II)V"⟩ : MethodName)) hown (mvT hZ (wd 92 rfl)) (mvT hZ (wd 93 rfl)) (own_selpriv (y := (⟨"com/example/leasewise/leasewise/IndexedHeap", "place", "(II)V"⟩ : MethodName)) (mvT hZ (wd 59 rfl)) rfl (Cond.privateMethod_at (mvP hZ (wd 94 rfl) (args := #[]))) (mvT hZ (wd 93 rfl)) (by decide)) (Cond.privateMethod_at (mvP hZ (wd 94 rfl) (args := #[]))) (mvT hZ (wd 95 rfl)) (by decide) (own_backH (W := 0) (rm_place_0 l Z a0 hw [] hp en3 kq aF aO aW aK aB aA aI lo aE aP kE kP en0 en0 en2 en1 (s4 en0 0 (1 : Int32) (s4 en1 0 (3 : Int32) po0)) (s4 en0 1 (1 : Int32) (s4 en1 1 (3 : Int32) po1)) (s4 en0 2 (1 : Int32) (s4 en1 2 (3 : Int32) po2)) (s4 en0 3 (1 : Int32) (s4 en1 3 (3 : Int32) po3)) T52.heap n0 O52 f53 f54 f55 f56 Q52_0 Q52_1 g_aE g_aP NDp (own_en_3 HI0 hlt)) hZH (wd 95 rfl) (wd 33 rfl) (by decide) (by decide)) (g := (mkF m 64 #[.val (.ref hp), .val (.int (3 : Int32)), .val (.int en3), .val (.int (0 : Int32)), .val (.int (0 : Int32))] [(.int (0 : Int32)), (.int en3), (.ref hp)])) rfl (by rw [hml]; rfl) (Steps.refl _) (a := hp) (by exact q57) q57' (argsL := [(.int en3), (.int (0 : Int32))]) (rest := []) (lenOf pd_1 rfl) rfl (by show 2 * 0 + _ ≤ _; exact Nat.le_of_eq rfl) (D d11_64) (fun _ _ => ⟨rfl, rfl, (by decide : 0 + 0 ≤ _), (by decide : 0 + 0 ≤ _)⟩)
      dsimp only [Pt.U, Pt.locs, Pt.cells, Pt.slots] at X57 l57 y57 z57 st57 hQ57
      subst l57 y57 z57
      obtain ⟨rfl, N57q, K57, Q57_0, Q57_1⟩ := hQ57
      have O57 := O52.keep K57 (allS g_aE (allS g_aP all0))
      have KK57 : Keep h0 T57.heap [aE, aP] := KK52.trans K57 (allS (own_mem 0 rfl) (allS (own_mem 1 rfl) all0))
      have N57 := Fr.app N52 N57q
      obtain ⟨fs, hr, hrun, hended, hW, hsame⟩ := X57.leave (v := some (.int (0 : Int32))) (fun h => by rw [Bd.returns] at h; cases h)
      refine ⟨_, _, pre0 _ ?_, hrun, hended, _, _, rfl, ?_, ⟨_, rfl⟩, hW, hsame.mono (by decide) (by decide)⟩
      · refine cs35.trans ?_
        refine s_ifYes Xc30 hx 43 (D d11_37) ((if0 _ _).trans (feq hc36).2) (of_decide_eq_true rfl) rfl ?_
        refine s_aloadN Xc30 hx (D d11_43) rfl rfl ?_
        refine s_aloadN Xc30 hx (D d11_44) rfl rfl ?_
        refine st45 _ ?_
        refine s_iload X45 hx (D d11_48) rfl ?_
        refine X45.iaload hx (j := (0 : Int32)) (v := (.int en0)) (by rw [e45]; exact (Ar46).1) (State.isArrayOf_alike hZ.alike (Ar46).2.1) (Ar46).2.2 hin46 (H46.at hin46 rfl) (g := (mkF m 50 #[.val (.ref hp), .val (.int (3 : Int32)), .val (.int en3), .val (.int (1 : Int32)), .val (.int (0 : Int32))] [(.int (0 : Int32)), (.ref aE), (.ref hp)])) rfl rfl (D d11_50) _ ?_
        refine s_iloadN X45 hx (D d11_51) rfl ?_
        refine st52.trans ?_
        refine s_iload X52 hx (D d11_55) rfl ?_
        refine s_istoreN X52 hx (D d11_57) (l' := #[.val (.ref hp), .val (.int (3 : Int32)), .val (.int en3), .val (.int (0 : Int32)), .val (.int (0 : Int32))]) rfl ?_
        refine s_goto X52 hx 9 (D d11_58) (of_decide_eq_true rfl) rfl ?_
        refine s_iloadN X52 hx (D d11_9) rfl ?_
        refine s_ifYes X52 hx 61 (D d11_10) ((if0 _ _).trans (flt (by decide : ¬ ((0 : Int32) < (0 : Int32)))).2.2.2) (of_decide_eq_true rfl) rfl ?_
        refine s_aloadN X52 hx (D d11_61) rfl rfl ?_
        refine s_iloadN X52 hx (D d11_62) rfl ?_
        refine s_iloadN X52 hx (D d11_63) rfl ?_
        refine st57.trans ?_
        refine s_iloadN X57 hx (D d11_67) rfl ?_
        exact retI X57 hx Bd.returns (D d11_68) hr
      · show Q_rm_up_3 Z hp (3 : Int32) kq aF aO aW aK aB aA aI lo aE aP cK kK kE kP sz en0 en1 en2 en3 po0 po1 po2 po3 h0 n0 _ T57.heap _
        exact ⟨en3, en0, en2, en1, (s4 en3 0 (0 : Int32) (s4 en0 0 (1 : Int32) (s4 en1 0 (3 : Int32) po0))), (s4 en3 1 (0 : Int32) (s4 en0 1 (1 : Int32) (s4 en1 1 (3 : Int32) po1))), (s4 en3 2 (0 : Int32) (s4 en0 2 (1 : Int32) (s4 en1 2 (3 : Int32) po2))), (s4 en3 3 (0 : Int32) (s4 en0 3 (1 : Int32) (s4 en1 3 (3 : Int32) po3))), (0 : Int32), rfl, N57, KK57, Q57_0, Q57_1, (own_l2 HI0 hlt), ⟨own_i0, (Int32.lt_trans (by decide) hlt)⟩⟩
theorem own_l3_1_k : ∀ L ∈ hAll, L.length = 1 → [(L.getD 0 0)] ∈ hAll ∧ hPos [(L.getD 0 0)] 0 = (s4 (L.getD 0 0) 0 (0 : Int32) (hPos L 0)) ∧ hPos [(L.getD 0 0)] 1 = (s4 (L.getD 0 0) 1 (0 : Int32) (hPos L 1)) ∧ hPos [(L.getD 0 0)] 2 = (s4 (L.getD 0 0) 2 (0 : Int32) (hPos L 2)) ∧ hPos [(L.getD 0 0)] 3 = (s4 (L.getD 0 0) 3 (0 : Int32) (hPos L 3)) ∧ ((s4 (L.getD 0 0) 0 (0 : Int32) (hPos L 0)) = -1 ↔ hPos L 0 = -1) ∧ ((s4 (L.getD 0 0) 1 (0 : Int32) (hPos L 1)) = -1 ↔ hPos L 1 = -1) ∧ ((s4 (L.getD 0 0) 2 (0 : Int32) (hPos L 2)) = -1 ↔ hPos L 2 = -1) ∧ ((s4 (L.getD 0 0) 3 (0 : Int32) (hPos L 3)) = -1 ↔ hPos L 3 = -1) := by decide +kernel
theorem own_l3_1 {e0 e1 e2 e3 p0 p1 p2 p3 : Int32} (H : HI (1 : Int32) e0 e1 e2 e3 p0 p1 p2 p3) : HI (1 : Int32) e0 e1 e2 e3 (s4 e0 0 (0 : Int32) p0) (s4 e0 1 (0 : Int32) p1) (s4 e0 2 (0 : Int32) p2) (s4 e0 3 (0 : Int32) p3) ∧ SM p0 p1 p2 p3 (s4 e0 0 (0 : Int32) p0) (s4 e0 1 (0 : Int32) p1) (s4 e0 2 (0 : Int32) p2) (s4 e0 3 (0 : Int32) p3) := by
  obtain ⟨L, hL, hn, h0, h1, h2, h3, rfl, rfl, rfl, rfl⟩ := H
  have hlen : L.length = 1 := own_hl1 L hL hn
  have g0 := h0 (by omega); subst g0
  have K := own_l3_1_k L hL hlen
  obtain ⟨k1, k2, k3, k4, k5, k6⟩ := K
  refine ⟨⟨[(L.getD 0 0)], k1, rfl, ?_, ?_, ?_, ?_, k2.symm, k3.symm, k4.symm, k5.symm⟩, k6⟩
  all_goals (intro hh; first | rfl | (exfalso; revert hh; decide) | (exfalso; simp at hh))
theorem own_l3_2_k : ∀ L ∈ hAll, L.length = 2 → [(L.getD 0 0), (L.getD 1 0)] ∈ hAll ∧ hPos [(L.getD 0 0), (L.getD 1 0)] 0 = (s4 (L.getD 0 0) 0 (0 : Int32) (hPos L 0)) ∧ hPos [(L.getD 0 0), (L.getD 1 0)] 1 = (s4 (L.getD 0 0) 1 (0 : Int32) (hPos L 1)) ∧ hPos [(L.getD 0 0), (L.getD 1 0)] 2 = (s4 (L.getD 0 0) 2 (0 : Int32) (hPos L 2)) ∧ hPos [(L.getD 0 0), (L.getD 1 0)] 3 = (s4 (L.getD 0 0) 3 (0 : Int32) (hPos L 3)) ∧ ((s4 (L.getD 0 0) 0 (0 : Int32) (hPos L 0)) = -1 ↔ hPos L 0 = -1) ∧ ((s4 (L.getD 0 0) 1 (0 : Int32) (hPos L 1)) = -1 ↔ hPos L 1 = -1) ∧ ((s4 (L.getD 0 0) 2 (0 : Int32) (hPos L 2)) = -1 ↔ hPos L 2 = -1) ∧ ((s4 (L.getD 0 0) 3 (0 : Int32) (hPos L 3)) = -1 ↔ hPos L 3 = -1) := by decide +kernel
theorem own_l3_2 {e0 e1 e2 e3 p0 p1 p2 p3 : Int32} (H : HI (2 : Int32) e0 e1 e2 e3 p0 p1 p2 p3) : HI (2 : Int32) e0 e1 e2 e3 (s4 e0 0 (0 : Int32) p0) (s4 e0 1 (0 : Int32) p1) (s4 e0 2 (0 : Int32) p2) (s4 e0 3 (0 : Int32) p3) ∧ SM p0 p1 p2 p3 (s4 e0 0 (0 : Int32) p0) (s4 e0 1 (0 : Int32) p1) (s4 e0 2 (0 : Int32) p2) (s4 e0 3 (0 : Int32) p3) := by
  obtain ⟨L, hL, hn, h0, h1, h2, h3, rfl, rfl, rfl, rfl⟩ := H
  have hlen : L.length = 2 := own_hl2 L hL hn
  have g0 := h0 (by omega); subst g0
  have g1 := h1 (by omega); subst g1
  have K := own_l3_2_k L hL hlen
  obtain ⟨k1, k2, k3, k4, k5, k6⟩ := K
  refine ⟨⟨[(L.getD 0 0), (L.getD 1 0)], k1, rfl, ?_, ?_, ?_, ?_, k2.symm, k3.symm, k4.symm, k5.symm⟩, k6⟩
  all_goals (intro hh; first | rfl | (exfalso; revert hh; decide) | (exfalso; simp at hh))
theorem own_l3_3_k : ∀ L ∈ hAll, L.length = 3 → [(L.getD 0 0), (L.getD 1 0), (L.getD 2 0)] ∈ hAll ∧ hPos [(L.getD 0 0), (L.getD 1 0), (L.getD 2 0)] 0 = (s4 (L.getD 0 0) 0 (0 : Int32) (hPos L 0)) ∧ hPos [(L.getD 0 0), (L.getD 1 0), (L.getD 2 0)] 1 = (s4 (L.getD 0 0) 1 (0 : Int32) (hPos L 1)) ∧ hPos [(L.getD 0 0), (L.getD 1 0), (L.getD 2 0)] 2 = (s4 (L.getD 0 0) 2 (0 : Int32) (hPos L 2)) ∧ hPos [(L.getD 0 0), (L.getD 1 0), (L.getD 2 0)] 3 = (s4 (L.getD 0 0) 3 (0 : Int32) (hPos L 3)) ∧ ((s4 (L.getD 0 0) 0 (0 : Int32) (hPos L 0)) = -1 ↔ hPos L 0 = -1) ∧ ((s4 (L.getD 0 0) 1 (0 : Int32) (hPos L 1)) = -1 ↔ hPos L 1 = -1) ∧ ((s4 (L.getD 0 0) 2 (0 : Int32) (hPos L 2)) = -1 ↔ hPos L 2 = -1) ∧ ((s4 (L.getD 0 0) 3 (0 : Int32) (hPos L 3)) = -1 ↔ hPos L 3 = -1) := by decide +kernel
theorem own_l3_3 {e0 e1 e2 e3 p0 p1 p2 p3 : Int32} (H : HI (3 : Int32) e0 e1 e2 e3 p0 p1 p2 p3) : HI (3 : Int32) e0 e1 e2 e3 (s4 e0 0 (0 : Int32) p0) (s4 e0 1 (0 : Int32) p1) (s4 e0 2 (0 : Int32) p2) (s4 e0 3 (0 : Int32) p3) ∧ SM p0 p1 p2 p3 (s4 e0 0 (0 : Int32) p0) (s4 e0 1 (0 : Int32) p1) (s4 e0 2 (0 : Int32) p2) (s4 e0 3 (0 : Int32) p3) := by
  obtain ⟨L, hL, hn, h0, h1, h2, h3, rfl, rfl, rfl, rfl⟩ := H
  have hlen : L.length = 3 := own_hl3 L hL hn
  have g0 := h0 (by omega); subst g0
  have g1 := h1 (by omega); subst g1
  have g2 := h2 (by omega); subst g2
  have K := own_l3_3_k L hL hlen
  obtain ⟨k1, k2, k3, k4, k5, k6⟩ := K
  refine ⟨⟨[(L.getD 0 0), (L.getD 1 0), (L.getD 2 0)], k1, rfl, ?_, ?_, ?_, ?_, k2.symm, k3.symm, k4.symm, k5.symm⟩, k6⟩
  all_goals (intro hh; first | rfl | (exfalso; revert hh; decide) | (exfalso; simp at hh))
theorem own_l3_4_k : ∀ L ∈ hAll, L.length = 4 → [(L.getD 0 0), (L.getD 1 0), (L.getD 2 0), (L.getD 3 0)] ∈ hAll ∧ hPos [(L.getD 0 0), (L.getD 1 0), (L.getD 2 0), (L.getD 3 0)] 0 = (s4 (L.getD 0 0) 0 (0 : Int32) (hPos L 0)) ∧ hPos [(L.getD 0 0), (L.getD 1 0), (L.getD 2 0), (L.getD 3 0)] 1 = (s4 (L.getD 0 0) 1 (0 : Int32) (hPos L 1)) ∧ hPos [(L.getD 0 0), (L.getD 1 0), (L.getD 2 0), (L.getD 3 0)] 2 = (s4 (L.getD 0 0) 2 (0 : Int32) (hPos L 2)) ∧ hPos [(L.getD 0 0), (L.getD 1 0), (L.getD 2 0), (L.getD 3 0)] 3 = (s4 (L.getD 0 0) 3 (0 : Int32) (hPos L 3)) ∧ ((s4 (L.getD 0 0) 0 (0 : Int32) (hPos L 0)) = -1 ↔ hPos L 0 = -1) ∧ ((s4 (L.getD 0 0) 1 (0 : Int32) (hPos L 1)) = -1 ↔ hPos L 1 = -1) ∧ ((s4 (L.getD 0 0) 2 (0 : Int32) (hPos L 2)) = -1 ↔ hPos L 2 = -1) ∧ ((s4 (L.getD 0 0) 3 (0 : Int32) (hPos L 3)) = -1 ↔ hPos L 3 = -1) := by decide +kernel
theorem own_l3_4 {e0 e1 e2 e3 p0 p1 p2 p3 : Int32} (H : HI (4 : Int32) e0 e1 e2 e3 p0 p1 p2 p3) : HI (4 : Int32) e0 e1 e2 e3 (s4 e0 0 (0 : Int32) p0) (s4 e0 1 (0 : Int32) p1) (s4 e0 2 (0 : Int32) p2) (s4 e0 3 (0 : Int32) p3) ∧ SM p0 p1 p2 p3 (s4 e0 0 (0 : Int32) p0) (s4 e0 1 (0 : Int32) p1) (s4 e0 2 (0 : Int32) p2) (s4 e0 3 (0 : Int32) p3) := by
  obtain ⟨L, hL, hn, h0, h1, h2, h3, rfl, rfl, rfl, rfl⟩ := H
  have hlen : L.length = 4 := own_hl4 L hL hn
  have g0 := h0 (by omega); subst g0
  have g1 := h1 (by omega); subst g1
  have g2 := h2 (by omega); subst g2
  have g3 := h3 (by omega); subst g3
  have K := own_l3_4_k L hL hlen
  obtain ⟨k1, k2, k3, k4, k5, k6⟩ := K
  refine ⟨⟨[(L.getD 0 0), (L.getD 1 0), (L.getD 2 0), (L.getD 3 0)], k1, rfl, ?_, ?_, ?_, ?_, k2.symm, k3.symm, k4.symm, k5.symm⟩, k6⟩
  all_goals (intro hh; first | rfl | (exfalso; revert hh; decide) | (exfalso; simp at hh))
theorem own_l3 {n e0 e1 e2 e3 p0 p1 p2 p3 : Int32} (H : HI n e0 e1 e2 e3 p0 p1 p2 p3) (hl : (0 : Int32) < n) : HI n e0 e1 e2 e3 (s4 e0 0 (0 : Int32) p0) (s4 e0 1 (0 : Int32) p1) (s4 e0 2 (0 : Int32) p2) (s4 e0 3 (0 : Int32) p3) ∧ SM p0 p1 p2 p3 (s4 e0 0 (0 : Int32) p0) (s4 e0 1 (0 : Int32) p1) (s4 e0 2 (0 : Int32) p2) (s4 e0 3 (0 : Int32) p3) := by
  rcases own_gt_0 H hl with rfl | rfl | rfl | rfl
  · exact own_l3_1 H
  · exact own_l3_2 H
  · exact own_l3_3 H
  · exact own_l3_4 H
theorem ef_rm_up_0 (m : MethodId) (x0 : Addr) (x1 : Int32) : entryFrame m #[(.ref x0), (.int x1)] 5 = mkF m 0 #[.val (.ref x0), .val (.int x1), .unset, .unset, .unset] [] := by first | (simp [entryFrame, mkF, argsToLocals, Value.category]; done) | rfl
set_option maxRecDepth 65536 in
set_option maxHeartbeats 40000000 in
theorem rm_up_0 (l : Launch) (Z : State) (a0 : Array Value) (hw : ∀ d ∈ tables_1, d.before a0 Z = true) (ws : List Jvm.Cond) (hp : Addr) (pp : Int32) (kq aF aO aW aK aB aA aI lo aE aP : Addr) (cK kK kE kP : ClassId) (sz en0 en1 en2 en3 po0 po1 po2 po3 : Int32) (h0 : Heap) (n0 : Nat) (O0 : Old Z n0 h0) (E_hp : Exa Z h0 hp "com/example/leasewise/leasewise/IndexedHeap") (F_hp_order : Fld Z h0 hp "com/example/leasewise/leasewise/IndexedHeap" "order" "Lcom/example/leasewise/leasewise/IndexedHeap$Order;" (.ref lo)) (F_hp_entries : Fld Z h0 hp "com/example/leasewise/leasewise/IndexedHeap" "entries" "[I" (.ref aE)) (F_hp_positions : Fld Z h0 hp "com/example/leasewise/leasewise/IndexedHeap" "positions" "[I" (.ref aP)) (F_hp_size : Fld Z h0 hp "com/example/leasewise/leasewise/IndexedHeap" "size" "I" (.int sz)) (E_kq : Exa Z h0 kq "com/example/leasewise/leasewise/KilometreQueue") (F_kq_keys : Fld Z h0 kq "com/example/leasewise/leasewise/KilometreQueue" "keys" "[J" (.ref aK)) (MDc : Jvm.LamKit.Made Z "com/example/leasewise/leasewise/KilometreQueue" sgm cK) (V_aE : Arv Z h0 aE kE .int (4 : Int32) [(.int en0), (.int en1), (.int en2), (.int en3)] (.int (0 : Int32))) (V_aP : Arv Z h0 aP kP .int (4 : Int32) [(.int po0), (.int po1), (.int po2), (.int po3)] (.int (-1 : Int32))) (g_aE : n0 ≤ aE) (g_aP : n0 ≤ aP) (NDp : List.Nodup [kq, aF, aO, aW, aK, aB, aA, aI, hp, lo, aE, aP]) (HI0 : HI sz en0 en1 en2 en3 po0 po1 po2 po3) (hpp : pp = (0 : Int32)) (hlt : pp < sz) (V_aK : Arp Z h0 aK kK .long (4 : Int32) PJ) (Y_lo : LamO h0 lo cK kq) :
    MetFree l (⟨"com/example/leasewise/leasewise/IndexedHeap", "siftUp", "(I)I"⟩ : MethodName) (head1 (Jvm.Cond.code (⟨"com/example/leasewise/leasewise/IndexedHeap", "siftUp", "(I)I"⟩ : MethodName) prog_35_method_8_code 5 (some .int) :: ws) ({ frames := 2, cells := 0, slots := 0, locals := 28 } : Room)) (fun a U => a = #[(.ref hp), (.int pp)] ∧ Z.WarmedH U.vm ∧ U.heap = h0) (fun _ _ _ _ _ => True) (fun _ U o U' => ∃ v L, o = .returned v ∧ Q_rm_up_3 Z hp pp kq aF aO aW aK aB aA aI lo aE aP cK kK kE kP sz en0 en1 en2 en3 po0 po1 po2 po3 h0 n0 v U'.heap L ∧ FrameEnd U o U' L ({ frames := 2, cells := 0, slots := 0, locals := 28 } : Room).cells ({ frames := 2, cells := 0, slots := 0, locals := 28 } : Room).slots) := by
  refine MetFree.of_bodySF (plainFor_of_name pn_1) hisR ?_
  intro p e s m args below meth c s₁ Bd hml0 hP hK
  obtain ⟨rfl, hZH, hh⟩ := hP
  have hZ := hZH.wide
  have hx := Bd.exec
  have hby := Bd.bytes
  have D := fun {pc : Nat} {r : Except ClassFile.DecodeError (ClassFile.Instr × Nat)} (q : decode prog_35_method_8_code pc = r) => hb (pc := pc) hby q
  have hml : c.maxLocals = 5 := hml0
  have hown : s.vm.findClass "com/example/leasewise/leasewise/IndexedHeap" = some m.cls := findClass_of_methodNamed Bd.named
  have hnm := (name_of_methodNamed Bd.named Bd.method).1
  have X0 : Stand p l e ({ frames := 2, cells := 0, slots := 0, locals := 28 } : Room) s m #[(.ref hp), (.int pp)] below meth c s₁ [] 0 0 := Stand.of_body Bd
  have e0 : s₁.heap = h0 := by rw [← hh, Bd.state]; rfl
  have N0 := Fr.nil n0
  have pre0 : ∀ t, Steps p.tables e below (s₁.setTop (mkF m 0 #[.val (.ref hp), .val (.int pp), .unset, .unset, .unset] [])) t → Steps p.tables e below (s₁.setTop (entryFrame m #[(.ref hp), (.int pp)] 5)) t := fun t k => castTop (ef_rm_up_0 m (hp) (pp)) k
  have wd := fun {d : Jvm.Cond} (i : Nat) (h : tables_1[i]? = some d) => hw d (List.mem_of_getElem? h)
  subst hpp
  obtain ⟨T1, X1, e1, st1⟩ := getF X0 hx hZ hown (host := "") (Or.inl (wd 44 rfl)) Via.refl e0 F_hp_entries (g := (mkF m 1 #[.val (.ref hp), .val (.int (0 : Int32)), .unset, .unset, .unset] [(.ref hp)])) rfl rfl (D d11_1)
  obtain ⟨cl2, Ar2, q2, S2, Nn2, H2, G2⟩ := id V_aE
  have hin2 : ¬ ((0 : Int32) < 0 ∨ cl2.slots.size ≤ ((0 : Int32)).toNatClampNeg) := inb_of S2 ⟨by decide, by decide⟩
  obtain ⟨cq3, q3, q3'⟩ := E_hp.cell
  obtain ⟨_, _, ⟨T3, L3, k3, n3⟩, -, X3, ⟨Lc3, hQ3, l3, y3, z3⟩, st3⟩ := X1.privateBack hx (y := (⟨"com/example/leasewise/leasewise/IndexedHeap", "place", "(II)V"⟩ : MethodName)) hown (mvT hZ (wd 92 rfl)) (mvT hZ (wd 93 rfl)) (own_selpriv (y := (⟨"com/example/leasewise/leasewise/IndexedHeap", "place", "(II)V"⟩ : MethodName)) (mvT hZ (wd 59 rfl)) rfl (Cond.privateMethod_at (mvP hZ (wd 94 rfl) (args := #[]))) (mvT hZ (wd 93 rfl)) (by decide)) (Cond.privateMethod_at (mvP hZ (wd 94 rfl) (args := #[]))) (mvT hZ (wd 95 rfl)) (by decide) (own_backH (W := 0) (rm_place_0 l Z a0 hw [] hp en0 kq aF aO aW aK aB aA aI lo aE aP kE kP en0 en1 en2 en3 po0 po1 po2 po3 h0 n0 O0 E_hp F_hp_order F_hp_entries F_hp_positions V_aE V_aP g_aE g_aP NDp (own_en_0 HI0 hlt)) hZH (wd 95 rfl) (wd 33 rfl) (by decide) (by decide)) (g := (mkF m 64 #[.val (.ref hp), .val (.int (0 : Int32)), .val (.int en0), .val (.int (0 : Int32)), .unset] [(.int (0 : Int32)), (.int en0), (.ref hp)])) rfl (by rw [hml]; rfl) (Steps.refl _) (a := hp) (by rw [e1]; exact q3) q3' (argsL := [(.int en0), (.int (0 : Int32))]) (rest := []) (lenOf pd_1 rfl) rfl (by show 2 * 0 + _ ≤ _; exact Nat.le_of_eq rfl) (D d11_64) (fun _ _ => ⟨rfl, e1, (by decide : 0 + 0 ≤ _), (by decide : 0 + 0 ≤ _)⟩)
  dsimp only [Pt.U, Pt.locs, Pt.cells, Pt.slots] at X3 l3 y3 z3 st3 hQ3
  subst l3 y3 z3
  obtain ⟨rfl, N3q, K3, Q3_0, Q3_1⟩ := hQ3
  have O3 := O0.keep K3 (allS g_aE (allS g_aP all0))
  have KK3 : Keep h0 T3.heap [aE, aP] := (Keep.refl h0 [aE, aP]).trans K3 (allS (own_mem 0 rfl) (allS (own_mem 1 rfl) all0))
  have N3 := Fr.app N0 N3q
  obtain ⟨fs, hr, hrun, hended, hW, hsame⟩ := X3.leave (v := some (.int (0 : Int32))) (fun h => by rw [Bd.returns] at h; cases h)
  refine ⟨_, _, pre0 _ ?_, hrun, hended, _, _, rfl, ?_, ⟨_, rfl⟩, hW, hsame.mono (by decide) (by decide)⟩
  · refine s_aloadN X0 hx (D d11_0) rfl rfl ?_
    refine st1 _ ?_
    refine s_iloadN X1 hx (D d11_4) rfl ?_
    refine X1.iaload hx (j := (0 : Int32)) (v := (.int en0)) (by rw [e1]; exact (Ar2).1) (State.isArrayOf_alike hZ.alike (Ar2).2.1) (Ar2).2.2 hin2 (H2.at hin2 rfl) (g := (mkF m 5 #[.val (.ref hp), .val (.int (0 : Int32)), .unset, .unset, .unset] [(.int (0 : Int32)), (.ref aE)])) rfl rfl (D d11_5) _ ?_
    refine s_istoreN X1 hx (D d11_6) (l' := #[.val (.ref hp), .val (.int (0 : Int32)), .val (.int en0), .unset, .unset]) rfl ?_
    refine s_iloadN X1 hx (D d11_7) rfl ?_
    refine s_istoreN X1 hx (D d11_8) (l' := #[.val (.ref hp), .val (.int (0 : Int32)), .val (.int en0), .val (.int (0 : Int32)), .unset]) rfl ?_
    refine s_iloadN X1 hx (D d11_9) rfl ?_
    refine s_ifYes X1 hx 61 (D d11_10) ((if0 _ _).trans (flt (by decide : ¬ ((0 : Int32) < (0 : Int32)))).2.2.2) (of_decide_eq_true rfl) rfl ?_
    refine s_aloadN X1 hx (D d11_61) rfl rfl ?_
    refine s_iloadN X1 hx (D d11_62) rfl ?_
    refine s_iloadN X1 hx (D d11_63) rfl ?_
    refine st3.trans ?_
    refine s_iloadN X3 hx (D d11_67) rfl ?_
    exact retI X3 hx Bd.returns (D d11_68) hr
  · show Q_rm_up_3 Z hp (0 : Int32) kq aF aO aW aK aB aA aI lo aE aP cK kK kE kP sz en0 en1 en2 en3 po0 po1 po2 po3 h0 n0 _ T3.heap _
    exact ⟨en0, en1, en2, en3, (s4 en0 0 (0 : Int32) po0), (s4 en0 1 (0 : Int32) po1), (s4 en0 2 (0 : Int32) po2), (s4 en0 3 (0 : Int32) po3), (0 : Int32), rfl, N3, KK3, Q3_0, Q3_1, (own_l3 HI0 hlt), ⟨own_i0, hlt⟩⟩
theorem own_l4_2_k : ∀ L ∈ hAll, L.length = 2 → [(L.getD 0 0), (L.getD 1 0)] ∈ hAll ∧ hPos [(L.getD 0 0), (L.getD 1 0)] 0 = (s4 (L.getD 1 0) 0 (1 : Int32) (hPos L 0)) ∧ hPos [(L.getD 0 0), (L.getD 1 0)] 1 = (s4 (L.getD 1 0) 1 (1 : Int32) (hPos L 1)) ∧ hPos [(L.getD 0 0), (L.getD 1 0)] 2 = (s4 (L.getD 1 0) 2 (1 : Int32) (hPos L 2)) ∧ hPos [(L.getD 0 0), (L.getD 1 0)] 3 = (s4 (L.getD 1 0) 3 (1 : Int32) (hPos L 3)) ∧ ((s4 (L.getD 1 0) 0 (1 : Int32) (hPos L 0)) = -1 ↔ hPos L 0 = -1) ∧ ((s4 (L.getD 1 0) 1 (1 : Int32) (hPos L 1)) = -1 ↔ hPos L 1 = -1) ∧ ((s4 (L.getD 1 0) 2 (1 : Int32) (hPos L 2)) = -1 ↔ hPos L 2 = -1) ∧ ((s4 (L.getD 1 0) 3 (1 : Int32) (hPos L 3)) = -1 ↔ hPos L 3 = -1) := by decide +kernel
theorem own_l4_2 {e0 e1 e2 e3 p0 p1 p2 p3 : Int32} (H : HI (2 : Int32) e0 e1 e2 e3 p0 p1 p2 p3) : HI (2 : Int32) e0 e1 e2 e3 (s4 e1 0 (1 : Int32) p0) (s4 e1 1 (1 : Int32) p1) (s4 e1 2 (1 : Int32) p2) (s4 e1 3 (1 : Int32) p3) ∧ SM p0 p1 p2 p3 (s4 e1 0 (1 : Int32) p0) (s4 e1 1 (1 : Int32) p1) (s4 e1 2 (1 : Int32) p2) (s4 e1 3 (1 : Int32) p3) := by
  obtain ⟨L, hL, hn, h0, h1, h2, h3, rfl, rfl, rfl, rfl⟩ := H
  have hlen : L.length = 2 := own_hl2 L hL hn
  have g0 := h0 (by omega); subst g0
  have g1 := h1 (by omega); subst g1
  have K := own_l4_2_k L hL hlen
  obtain ⟨k1, k2, k3, k4, k5, k6⟩ := K
  refine ⟨⟨[(L.getD 0 0), (L.getD 1 0)], k1, rfl, ?_, ?_, ?_, ?_, k2.symm, k3.symm, k4.symm, k5.symm⟩, k6⟩
  all_goals (intro hh; first | rfl | (exfalso; revert hh; decide) | (exfalso; simp at hh))
theorem own_l4_3_k : ∀ L ∈ hAll, L.length = 3 → [(L.getD 0 0), (L.getD 1 0), (L.getD 2 0)] ∈ hAll ∧ hPos [(L.getD 0 0), (L.getD 1 0), (L.getD 2 0)] 0 = (s4 (L.getD 1 0) 0 (1 : Int32) (hPos L 0)) ∧ hPos [(L.getD 0 0), (L.getD 1 0), (L.getD 2 0)] 1 = (s4 (L.getD 1 0) 1 (1 : Int32) (hPos L 1)) ∧ hPos [(L.getD 0 0), (L.getD 1 0), (L.getD 2 0)] 2 = (s4 (L.getD 1 0) 2 (1 : Int32) (hPos L 2)) ∧ hPos [(L.getD 0 0), (L.getD 1 0), (L.getD 2 0)] 3 = (s4 (L.getD 1 0) 3 (1 : Int32) (hPos L 3)) ∧ ((s4 (L.getD 1 0) 0 (1 : Int32) (hPos L 0)) = -1 ↔ hPos L 0 = -1) ∧ ((s4 (L.getD 1 0) 1 (1 : Int32) (hPos L 1)) = -1 ↔ hPos L 1 = -1) ∧ ((s4 (L.getD 1 0) 2 (1 : Int32) (hPos L 2)) = -1 ↔ hPos L 2 = -1) ∧ ((s4 (L.getD 1 0) 3 (1 : Int32) (hPos L 3)) = -1 ↔ hPos L 3 = -1) := by decide +kernel
theorem own_l4_3 {e0 e1 e2 e3 p0 p1 p2 p3 : Int32} (H : HI (3 : Int32) e0 e1 e2 e3 p0 p1 p2 p3) : HI (3 : Int32) e0 e1 e2 e3 (s4 e1 0 (1 : Int32) p0) (s4 e1 1 (1 : Int32) p1) (s4 e1 2 (1 : Int32) p2) (s4 e1 3 (1 : Int32) p3) ∧ SM p0 p1 p2 p3 (s4 e1 0 (1 : Int32) p0) (s4 e1 1 (1 : Int32) p1) (s4 e1 2 (1 : Int32) p2) (s4 e1 3 (1 : Int32) p3) := by
  obtain ⟨L, hL, hn, h0, h1, h2, h3, rfl, rfl, rfl, rfl⟩ := H
  have hlen : L.length = 3 := own_hl3 L hL hn
  have g0 := h0 (by omega); subst g0
  have g1 := h1 (by omega); subst g1
  have g2 := h2 (by omega); subst g2
  have K := own_l4_3_k L hL hlen
  obtain ⟨k1, k2, k3, k4, k5, k6⟩ := K
  refine ⟨⟨[(L.getD 0 0), (L.getD 1 0), (L.getD 2 0)], k1, rfl, ?_, ?_, ?_, ?_, k2.symm, k3.symm, k4.symm, k5.symm⟩, k6⟩
  all_goals (intro hh; first | rfl | (exfalso; revert hh; decide) | (exfalso; simp at hh))
theorem own_l4_4_k : ∀ L ∈ hAll, L.length = 4 → [(L.getD 0 0), (L.getD 1 0), (L.getD 2 0), (L.getD 3 0)] ∈ hAll ∧ hPos [(L.getD 0 0), (L.getD 1 0), (L.getD 2 0), (L.getD 3 0)] 0 = (s4 (L.getD 1 0) 0 (1 : Int32) (hPos L 0)) ∧ hPos [(L.getD 0 0), (L.getD 1 0), (L.getD 2 0), (L.getD 3 0)] 1 = (s4 (L.getD 1 0) 1 (1 : Int32) (hPos L 1)) ∧ hPos [(L.getD 0 0), (L.getD 1 0), (L.getD 2 0), (L.getD 3 0)] 2 = (s4 (L.getD 1 0) 2 (1 : Int32) (hPos L 2)) ∧ hPos [(L.getD 0 0), (L.getD 1 0), (L.getD 2 0), (L.getD 3 0)] 3 = (s4 (L.getD 1 0) 3 (1 : Int32) (hPos L 3)) ∧ ((s4 (L.getD 1 0) 0 (1 : Int32) (hPos L 0)) = -1 ↔ hPos L 0 = -1) ∧ ((s4 (L.getD 1 0) 1 (1 : Int32) (hPos L 1)) = -1 ↔ hPos L 1 = -1) ∧ ((s4 (L.getD 1 0) 2 (1 : Int32) (hPos L 2)) = -1 ↔ hPos L 2 = -1) ∧ ((s4 (L.getD 1 0) 3 (1 : Int32) (hPos L 3)) = -1 ↔ hPos L 3 = -1) := by decide +kernel
theorem own_l4_4 {e0 e1 e2 e3 p0 p1 p2 p3 : Int32} (H : HI (4 : Int32) e0 e1 e2 e3 p0 p1 p2 p3) : HI (4 : Int32) e0 e1 e2 e3 (s4 e1 0 (1 : Int32) p0) (s4 e1 1 (1 : Int32) p1) (s4 e1 2 (1 : Int32) p2) (s4 e1 3 (1 : Int32) p3) ∧ SM p0 p1 p2 p3 (s4 e1 0 (1 : Int32) p0) (s4 e1 1 (1 : Int32) p1) (s4 e1 2 (1 : Int32) p2) (s4 e1 3 (1 : Int32) p3) := by
  obtain ⟨L, hL, hn, h0, h1, h2, h3, rfl, rfl, rfl, rfl⟩ := H
  have hlen : L.length = 4 := own_hl4 L hL hn
  have g0 := h0 (by omega); subst g0
  have g1 := h1 (by omega); subst g1
  have g2 := h2 (by omega); subst g2
  have g3 := h3 (by omega); subst g3
  have K := own_l4_4_k L hL hlen
  obtain ⟨k1, k2, k3, k4, k5, k6⟩ := K
  refine ⟨⟨[(L.getD 0 0), (L.getD 1 0), (L.getD 2 0), (L.getD 3 0)], k1, rfl, ?_, ?_, ?_, ?_, k2.symm, k3.symm, k4.symm, k5.symm⟩, k6⟩
  all_goals (intro hh; first | rfl | (exfalso; revert hh; decide) | (exfalso; simp at hh))
theorem own_l4 {n e0 e1 e2 e3 p0 p1 p2 p3 : Int32} (H : HI n e0 e1 e2 e3 p0 p1 p2 p3) (hl : (1 : Int32) < n) : HI n e0 e1 e2 e3 (s4 e1 0 (1 : Int32) p0) (s4 e1 1 (1 : Int32) p1) (s4 e1 2 (1 : Int32) p2) (s4 e1 3 (1 : Int32) p3) ∧ SM p0 p1 p2 p3 (s4 e1 0 (1 : Int32) p0) (s4 e1 1 (1 : Int32) p1) (s4 e1 2 (1 : Int32) p2) (s4 e1 3 (1 : Int32) p3) := by
  rcases own_gt_1 H hl with rfl | rfl | rfl
  · exact own_l4_2 H
  · exact own_l4_3 H
  · exact own_l4_4 H
theorem own_l5_2_k : ∀ L ∈ hAll, L.length = 2 → [(L.getD 1 0), (L.getD 0 0)] ∈ hAll ∧ hPos [(L.getD 1 0), (L.getD 0 0)] 0 = (s4 (L.getD 1 0) 0 (0 : Int32) (s4 (L.getD 0 0) 0 (1 : Int32) (hPos L 0))) ∧ hPos [(L.getD 1 0), (L.getD 0 0)] 1 = (s4 (L.getD 1 0) 1 (0 : Int32) (s4 (L.getD 0 0) 1 (1 : Int32) (hPos L 1))) ∧ hPos [(L.getD 1 0), (L.getD 0 0)] 2 = (s4 (L.getD 1 0) 2 (0 : Int32) (s4 (L.getD 0 0) 2 (1 : Int32) (hPos L 2))) ∧ hPos [(L.getD 1 0), (L.getD 0 0)] 3 = (s4 (L.getD 1 0) 3 (0 : Int32) (s4 (L.getD 0 0) 3 (1 : Int32) (hPos L 3))) ∧ ((s4 (L.getD 1 0) 0 (0 : Int32) (s4 (L.getD 0 0) 0 (1 : Int32) (hPos L 0))) = -1 ↔ hPos L 0 = -1) ∧ ((s4 (L.getD 1 0) 1 (0 : Int32) (s4 (L.getD 0 0) 1 (1 : Int32) (hPos L 1))) = -1 ↔ hPos L 1 = -1) ∧ ((s4 (L.getD 1 0) 2 (0 : Int32) (s4 (L.getD 0 0) 2 (1 : Int32) (hPos L 2))) = -1 ↔ hPos L 2 = -1) ∧ ((s4 (L.getD 1 0) 3 (0 : Int32) (s4 (L.getD 0 0) 3 (1 : Int32) (hPos L 3))) = -1 ↔ hPos L 3 = -1) := by decide +kernel
theorem own_l5_2 {e0 e1 e2 e3 p0 p1 p2 p3 : Int32} (H : HI (2 : Int32) e0 e1 e2 e3 p0 p1 p2 p3) : HI (2 : Int32) e1 e0 e2 e3 (s4 e1 0 (0 : Int32) (s4 e0 0 (1 : Int32) p0)) (s4 e1 1 (0 : Int32) (s4 e0 1 (1 : Int32) p1)) (s4 e1 2 (0 : Int32) (s4 e0 2 (1 : Int32) p2)) (s4 e1 3 (0 : Int32) (s4 e0 3 (1 : Int32) p3)) ∧ SM p0 p1 p2 p3 (s4 e1 0 (0 : Int32) (s4 e0 0 (1 : Int32) p0)) (s4 e1 1 (0 : Int32) (s4 e0 1 (1 : Int32) p1)) (s4 e1 2 (0 : Int32) (s4 e0 2 (1 : Int32) p2)) (s4 e1 3 (0 : Int32) (s4 e0 3 (1 : Int32) p3)) := by
  obtain ⟨L, hL, hn, h0, h1, h2, h3, rfl, rfl, rfl, rfl⟩ := H
  have hlen : L.length = 2 := own_hl2 L hL hn
  have g0 := h0 (by omega); subst g0
  have g1 := h1 (by omega); subst g1
  have K := own_l5_2_k L hL hlen
  obtain ⟨k1, k2, k3, k4, k5, k6⟩ := K
  refine ⟨⟨[(L.getD 1 0), (L.getD 0 0)], k1, rfl, ?_, ?_, ?_, ?_, k2.symm, k3.symm, k4.symm, k5.symm⟩, k6⟩
  all_goals (intro hh; first | rfl | (exfalso; revert hh; decide) | (exfalso; simp at hh))
theorem own_l5_3_k : ∀ L ∈ hAll, L.length = 3 → [(L.getD 1 0), (L.getD 0 0), (L.getD 2 0)] ∈ hAll ∧ hPos [(L.getD 1 0), (L.getD 0 0), (L.getD 2 0)] 0 = (s4 (L.getD 1 0) 0 (0 : Int32) (s4 (L.getD 0 0) 0 (1 : Int32) (hPos L 0))) ∧ hPos [(L.getD 1 0), (L.getD 0 0), (L.getD 2 0)] 1 = (s4 (L.getD 1 0) 1 (0 : Int32) (s4 (L.getD 0 0) 1 (1 : Int32) (hPos L 1))) ∧ hPos [(L.getD 1 0), (L.getD 0 0), (L.getD 2 0)] 2 = (s4 (L.getD 1 0) 2 (0 : Int32) (s4 (L.getD 0 0) 2 (1 : Int32) (hPos L 2))) ∧ hPos [(L.getD 1 0), (L.getD 0 0), (L.getD 2 0)] 3 = (s4 (L.getD 1 0) 3 (0 : Int32) (s4 (L.getD 0 0) 3 (1 : Int32) (hPos L 3))) ∧ ((s4 (L.getD 1 0) 0 (0 : Int32) (s4 (L.getD 0 0) 0 (1 : Int32) (hPos L 0))) = -1 ↔ hPos L 0 = -1) ∧ ((s4 (L.getD 1 0) 1 (0 : Int32) (s4 (L.getD 0 0) 1 (1 : Int32) (hPos L 1))) = -1 ↔ hPos L 1 = -1) ∧ ((s4 (L.getD 1 0) 2 (0 : Int32) (s4 (L.getD 0 0) 2 (1 : Int32) (hPos L 2))) = -1 ↔ hPos L 2 = -1) ∧ ((s4 (L.getD 1 0) 3 (0 : Int32) (s4 (L.getD 0 0) 3 (1 : Int32) (hPos L 3))) = -1 ↔ hPos L 3 = -1) := by decide +kernel
theorem own_l5_3 {e0 e1 e2 e3 p0 p1 p2 p3 : Int32} (H : HI (3 : Int32) e0 e1 e2 e3 p0 p1 p2 p3) : HI (3 : Int32) e1 e0 e2 e3 (s4 e1 0 (0 : Int32) (s4 e0 0 (1 : Int32) p0)) (s4 e1 1 (0 : Int32) (s4 e0 1 (1 : Int32) p1)) (s4 e1 2 (0 : Int32) (s4 e0 2 (1 : Int32) p2)) (s4 e1 3 (0 : Int32) (s4 e0 3 (1 : Int32) p3)) ∧ SM p0 p1 p2 p3 (s4 e1 0 (0 : Int32) (s4 e0 0 (1 : Int32) p0)) (s4 e1 1 (0 : Int32) (s4 e0 1 (1 : Int32) p1)) (s4 e1 2 (0 : Int32) (s4 e0 2 (1 : Int32) p2)) (s4 e1 3 (0 : Int32) (s4 e0 3 (1 : Int32) p3)) := by
  obtain ⟨L, hL, hn, h0, h1, h2, h3, rfl, rfl, rfl, rfl⟩ := H
  have hlen : L.length = 3 := own_hl3 L hL hn
  have g0 := h0 (by omega); subst g0
  have g1 := h1 (by omega); subst g1
  have g2 := h2 (by omega); subst g2
  have K := own_l5_3_k L hL hlen
  obtain ⟨k1, k2, k3, k4, k5, k6⟩ := K
  refine ⟨⟨[(L.getD 1 0), (L.getD 0 0), (L.getD 2 0)], k1, rfl, ?_, ?_, ?_, ?_, k2.symm, k3.symm, k4.symm, k5.symm⟩, k6⟩
  all_goals (intro hh; first | rfl | (exfalso; revert hh; decide) | (exfalso; simp at hh))
theorem own_l5_4_k : ∀ L ∈ hAll, L.length = 4 → [(L.getD 1 0), (L.getD 0 0), (L.getD 2 0), (L.getD 3 0)] ∈ hAll ∧ hPos [(L.getD 1 0), (L.getD 0 0), (L.getD 2 0), (L.getD 3 0)] 0 = (s4 (L.getD 1 0) 0 (0 : Int32) (s4 (L.getD 0 0) 0 (1 : Int32) (hPos L 0))) ∧ hPos [(L.getD 1 0), (L.getD 0 0), (L.getD 2 0), (L.getD 3 0)] 1 = (s4 (L.getD 1 0) 1 (0 : Int32) (s4 (L.getD 0 0) 1 (1 : Int32) (hPos L 1))) ∧ hPos [(L.getD 1 0), (L.getD 0 0), (L.getD 2 0), (L.getD 3 0)] 2 = (s4 (L.getD 1 0) 2 (0 : Int32) (s4 (L.getD 0 0) 2 (1 : Int32) (hPos L 2))) ∧ hPos [(L.getD 1 0), (L.getD 0 0), (L.getD 2 0), (L.getD 3 0)] 3 = (s4 (L.getD 1 0) 3 (0 : Int32) (s4 (L.getD 0 0) 3 (1 : Int32) (hPos L 3))) ∧ ((s4 (L.getD 1 0) 0 (0 : Int32) (s4 (L.getD 0 0) 0 (1 : Int32) (hPos L 0))) = -1 ↔ hPos L 0 = -1) ∧ ((s4 (L.getD 1 0) 1 (0 : Int32) (s4 (L.getD 0 0) 1 (1 : Int32) (hPos L 1))) = -1 ↔ hPos L 1 = -1) ∧ ((s4 (L.getD 1 0) 2 (0 : Int32) (s4 (L.getD 0 0) 2 (1 : Int32) (hPos L 2))) = -1 ↔ hPos L 2 = -1) ∧ ((s4 (L.getD 1 0) 3 (0 : Int32) (s4 (L.getD 0 0) 3 (1 : Int32) (hPos L 3))) = -1 ↔ hPos L 3 = -1) := by decide +kernel
theorem own_l5_4 {e0 e1 e2 e3 p0 p1 p2 p3 : Int32} (H : HI (4 : Int32) e0 e1 e2 e3 p0 p1 p2 p3) : HI (4 : Int32) e1 e0 e2 e3 (s4 e1 0 (0 : Int32) (s4 e0 0 (1 : Int32) p0)) (s4 e1 1 (0 : Int32) (s4 e0 1 (1 : Int32) p1)) (s4 e1 2 (0 : Int32) (s4 e0 2 (1 : Int32) p2)) (s4 e1 3 (0 : Int32) (s4 e0 3 (1 : Int32) p3)) ∧ SM p0 p1 p2 p3 (s4 e1 0 (0 : Int32) (s4 e0 0 (1 : Int32) p0)) (s4 e1 1 (0 : Int32) (s4 e0 1 (1 : Int32) p1)) (s4 e1 2 (0 : Int32) (s4 e0 2 (1 : Int32) p2)) (s4 e1 3 (0 : Int32) (s4 e0 3 (1 : Int32) p3)) := by
  obtain ⟨L, hL, hn, h0, h1, h2, h3, rfl, rfl, rfl, rfl⟩ := H
  have hlen : L.length = 4 := own_hl4 L hL hn
  have g0 := h0 (by omega); subst g0
  have g1 := h1 (by omega); subst g1
  have g2 := h2 (by omega); subst g2
  have g3 := h3 (by omega); subst g3
  have K := own_l5_4_k L hL hlen
  obtain ⟨k1, k2, k3, k4, k5, k6⟩ := K
  refine ⟨⟨[(L.getD 1 0), (L.getD 0 0), (L.getD 2 0), (L.getD 3 0)], k1, rfl, ?_, ?_, ?_, ?_, k2.symm, k3.symm, k4.symm, k5.symm⟩, k6⟩
  all_goals (intro hh; first | rfl | (exfalso; revert hh; decide) | (exfalso; simp at hh))
theorem own_l5 {n e0 e1 e2 e3 p0 p1 p2 p3 : Int32} (H : HI n e0 e1 e2 e3 p0 p1 p2 p3) (hl : (1 : Int32) < n) : HI n e1 e0 e2 e3 (s4 e1 0 (0 : Int32) (s4 e0 0 (1 : Int32) p0)) (s4 e1 1 (0 : Int32) (s4 e0 1 (1 : Int32) p1)) (s4 e1 2 (0 : Int32) (s4 e0 2 (1 : Int32) p2)) (s4 e1 3 (0 : Int32) (s4 e0 3 (1 : Int32) p3)) ∧ SM p0 p1 p2 p3 (s4 e1 0 (0 : Int32) (s4 e0 0 (1 : Int32) p0)) (s4 e1 1 (0 : Int32) (s4 e0 1 (1 : Int32) p1)) (s4 e1 2 (0 : Int32) (s4 e0 2 (1 : Int32) p2)) (s4 e1 3 (0 : Int32) (s4 e0 3 (1 : Int32) p3)) := by
  rcases own_gt_1 H hl with rfl | rfl | rfl
  · exact own_l5_2 H
  · exact own_l5_3 H
  · exact own_l5_4 H
theorem ef_rm_up_1 (m : MethodId) (x0 : Addr) (x1 : Int32) : entryFrame m #[(.ref x0), (.int x1)] 5 = mkF m 0 #[.val (.ref x0), .val (.int x1), .unset, .unset, .unset] [] := by first | (simp [entryFrame, mkF, argsToLocals, Value.category]; done) | rfl
set_option maxRecDepth 65536 in
set_option maxHeartbeats 40000000 in
theorem rm_up_1 (l : Launch) (Z : State) (a0 : Array Value) (hw : ∀ d ∈ tables_1, d.before a0 Z = true) (ws : List Jvm.Cond) (hp : Addr) (pp : Int32) (kq aF aO aW aK aB aA aI lo aE aP : Addr) (cK kK kE kP : ClassId) (sz en0 en1 en2 en3 po0 po1 po2 po3 : Int32) (h0 : Heap) (n0 : Nat) (O0 : Old Z n0 h0) (E_hp : Exa Z h0 hp "com/example/leasewise/leasewise/IndexedHeap") (F_hp_order : Fld Z h0 hp "com/example/leasewise/leasewise/IndexedHeap" "order" "Lcom/example/leasewise/leasewise/IndexedHeap$Order;" (.ref lo)) (F_hp_entries : Fld Z h0 hp "com/example/leasewise/leasewise/IndexedHeap" "entries" "[I" (.ref aE)) (F_hp_positions : Fld Z h0 hp "com/example/leasewise/leasewise/IndexedHeap" "positions" "[I" (.ref aP)) (F_hp_size : Fld Z h0 hp "com/example/leasewise/leasewise/IndexedHeap" "size" "I" (.int sz)) (E_kq : Exa Z h0 kq "com/example/leasewise/leasewise/KilometreQueue") (F_kq_keys : Fld Z h0 kq "com/example/leasewise/leasewise/KilometreQueue" "keys" "[J" (.ref aK)) (MDc : Jvm.LamKit.Made Z "com/example/leasewise/leasewise/KilometreQueue" sgm cK) (V_aE : Arv Z h0 aE kE .int (4 : Int32) [(.int en0), (.int en1), (.int en2), (.int en3)] (.int (0 : Int32))) (V_aP : Arv Z h0 aP kP .int (4 : Int32) [(.int po0), (.int po1), (.int po2), (.int po3)] (.int (-1 : Int32))) (g_aE : n0 ≤ aE) (g_aP : n0 ≤ aP) (NDp : List.Nodup [kq, aF, aO, aW, aK, aB, aA, aI, hp, lo, aE, aP]) (HI0 : HI sz en0 en1 en2 en3 po0 po1 po2 po3) (hpp : pp = (1 : Int32)) (hlt : pp < sz) (V_aK : Arp Z h0 aK kK .long (4 : Int32) PJ) (Y_lo : LamO h0 lo cK kq) :
    MetFree l (⟨"com/example/leasewise/leasewise/IndexedHeap", "siftUp", "(I)I"⟩ : MethodName) (head1 (Jvm.Cond.code (⟨"com/example/leasewise/leasewise/IndexedHeap", "siftUp", "(I)I"⟩ : MethodName) prog_35_method_8_code 5 (some .int) :: ws) ({ frames := 2, cells := 0, slots := 0, locals := 28 } : Room)) (fun a U => a = #[(.ref hp), (.int pp)] ∧ Z.WarmedH U.vm ∧ U.heap = h0) (fun _ _ _ _ _ => True) (fun _ U o U' => ∃ v L, o = .returned v ∧ Q_rm_up_3 Z hp pp kq aF aO aW aK aB aA aI lo aE aP cK kK kE kP sz en0 en1 en2 en3 po0 po1 po2 po3 h0 n0 v U'.heap L ∧ FrameEnd U o U' L ({ frames := 2, cells := 0, slots := 0, locals := 28 } : Room).cells ({ frames := 2, cells := 0, slots := 0, locals := 28 } : Room).slots) := by
  refine MetFree.of_bodySF (plainFor_of_name pn_1) hisR ?_
  intro p e s m args below meth c s₁ Bd hml0 hP hK
  obtain ⟨rfl, hZH, hh⟩ := hP
  have hZ := hZH.wide
  have hx := Bd.exec
  have hby := Bd.bytes
  have D := fun {pc : Nat} {r : Except ClassFile.DecodeError (ClassFile.Instr × Nat)} (q : decode prog_35_method_8_code pc = r) => hb (pc := pc) hby q
  have hml : c.maxLocals = 5 := hml0
  have hown : s.vm.findClass "com/example/leasewise/leasewise/IndexedHeap" = some m.cls := findClass_of_methodNamed Bd.named
  have hnm := (name_of_methodNamed Bd.named Bd.method).1
  have X0 : Stand p l e ({ frames := 2, cells := 0, slots := 0, locals := 28 } : Room) s m #[(.ref hp), (.int pp)] below meth c s₁ [] 0 0 := Stand.of_body Bd
  have e0 : s₁.heap = h0 := by rw [← hh, Bd.state]; rfl
  have N0 := Fr.nil n0
  have pre0 : ∀ t, Steps p.tables e below (s₁.setTop (mkF m 0 #[.val (.ref hp), .val (.int pp), .unset, .unset, .unset] [])) t → Steps p.tables e below (s₁.setTop (entryFrame m #[(.ref hp), (.int pp)] 5)) t := fun t k => castTop (ef_rm_up_1 m (hp) (pp)) k
  have wd := fun {d : Jvm.Cond} (i : Nat) (h : tables_1[i]? = some d) => hw d (List.mem_of_getElem? h)
  subst hpp
  obtain ⟨T1, X1, e1, st1⟩ := getF X0 hx hZ hown (host := "") (Or.inl (wd 44 rfl)) Via.refl e0 F_hp_entries (g := (mkF m 1 #[.val (.ref hp), .val (.int (1 : Int32)), .unset, .unset, .unset] [(.ref hp)])) rfl rfl (D d11_1)
  obtain ⟨cl2, Ar2, q2, S2, Nn2, H2, G2⟩ := id V_aE
  have hin2 : ¬ ((1 : Int32) < 0 ∨ cl2.slots.size ≤ ((1 : Int32)).toNatClampNeg) := inb_of S2 ⟨by decide, by decide⟩
  obtain ⟨T3, X3, e3, st3⟩ := getF X1 hx hZ hown (host := "") (Or.inl (wd 42 rfl)) Via.refl e1 F_hp_order (g := (mkF m 21 #[.val (.ref hp), .val (.int (1 : Int32)), .val (.int en1), .val (.int (1 : Int32)), .val (.int (0 : Int32))] [(.ref hp)])) rfl rfl (D d11_21)
  obtain ⟨T4, X4, e4, st4⟩ := getF X3 hx hZ hown (host := "") (Or.inl (wd 44 rfl)) Via.refl e3 F_hp_entries (g := (mkF m 26 #[.val (.ref hp), .val (.int (1 : Int32)), .val (.int en1), .val (.int (1 : Int32)), .val (.int (0 : Int32))] [(.ref hp), (.int en1), (.ref lo)])) rfl rfl (D d11_26)
  obtain ⟨cl5, Ar5, q5, S5, Nn5, H5, G5⟩ := id V_aE
  have hin5 : ¬ ((0 : Int32) < 0 ∨ cl5.slots.size ≤ ((0 : Int32)).toNatClampNeg) := inb_of S5 ⟨by decide, by decide⟩
  obtain ⟨cy6, yc6, yk6, yv6, ys6⟩ := id Y_lo
  obtain ⟨mk6, ck6, U6, sb6, Y6, hb6, hm6, hr6, hZ6, eU6, out6⟩ := own_enter X4 hx hZH (host := "com/example/leasewise/leasewise/KilometreQueue") (σ := sgm) (xi := (⟨"com/example/leasewise/leasewise/IndexedHeap$Order", "before", "(II)Z"⟩ : MethodName)) hown (wd 96 rfl) (wd 97 rfl) (mvT hZ (wd 98 rfl)) (by decide +kernel) (by decide) MDc (LamO.fn Y_lo e4) own_fwdok (g := (mkF m 32 #[.val (.ref hp), .val (.int (1 : Int32)), .val (.int en1), .val (.int (1 : Int32)), .val (.int (0 : Int32))] [(.int en0), (.int en1), (.ref lo)])) rfl (by rw [hml]; rfl) (argsL := [(.int en1), (.int en0)]) (rest := []) (L0 := #[.val (.ref lo), .val (.int en1), .val (.int en0)]) (lenOf pd_0 rfl) rfl (D d11_32) (fun _ => by first | rfl | (simp [entryFrame, mkF, argsToLocals, Value.category]; done)) (R' := ({ frames := 1, cells := 0, slots := 0, locals := 14 } : Room)) (by decide) (Nat.le_of_ble_eq_true rfl) (by decide) (by decide)
  obtain ⟨_, ⟨T6, L6, k6, n6⟩, Yx6, ⟨Lc6, hQ6, l6, y6, z6⟩, sx6⟩ := own_fvp Y6 hx hZ6 MDc rfl own_refok (by decide) (wd 101 rfl) (own_selpriv (y := (⟨"com/example/leasewise/leasewise/KilometreQueue", "lambda$new$0", "(II)Z"⟩ : MethodName)) (wd 54 rfl) rfl (Cond.privateMethod_at (wd 100 rfl)) (wd 99 rfl) (by decide)) (wd 99 rfl) (own_backH (W := 0) (rm_lam l Z a0 hw [] kq en1 en0 aK kK h0 n0 O0 E_kq F_kq_keys (own_en_1 HI0 hlt) (own_en_0 HI0 (Int32.lt_trans (by decide) hlt)) V_aK) hZ6 (wd 101 rfl) (wd 2 rfl) (by decide) (by decide)) (eU6.trans e4) E_kq (g := mkF ⟨cK, 1⟩ 6 #[.val (.ref lo), .val (.int en1), .val (.int en0)] [(.int en0), (.int en1), .ref kq]) rfl (by rw [hm6]; rfl) (argsL := [(.int en1), (.int en0)]) (rest := []) (lenOf pd_0 rfl) rfl (by show 2 * 0 + _ ≤ _; exact Nat.le_of_eq rfl) (by rw [hb6]; exact own_f6) ⟨rfl, (eU6.trans e4), Nat.le_of_ble_eq_true rfl, Nat.le_of_ble_eq_true rfl⟩
  dsimp only [Pt.U, Pt.locs, Pt.cells, Pt.slots] at Yx6 l6 y6 z6 sx6 hQ6
  subst l6 y6 z6
  obtain ⟨r__6, rfl, N6q, K6, Q6_0⟩ := hQ6
  have O6 := O0.keep K6 all0
  have KK6 : Keep h0 T6.heap [aE, aP] := (Keep.refl h0 [aE, aP]).trans K6 all0
  have sf6 : Steps p.tables e (.java { (mkF m 32 #[.val (.ref hp), .val (.int (1 : Int32)), .val (.int en1), .val (.int (1 : Int32)), .val (.int (0 : Int32))] [(.int en0), (.int en1), (.ref lo)]) with stack := [] } :: below) (U6.setTop (mkF ⟨cK, 1⟩ 0 #[.val (.ref lo), .val (.int en1), .val (.int en0)] [])) (T6.setTop (mkF ⟨cK, 1⟩ 9 #[.val (.ref lo), .val (.int en1), .val (.int en0)] [(.int r__6)])) := by
    refine XS.aloadN Y6.here hx rfl (by rw [hb6]; exact own_f0) rfl rfl ?_
    refine getCap (s := Z) hx Y6.here (State.WarmedH.trans hZ6 Y6.warmed) MDc own_capok (wd 37 rfl) (by rw [(eU6.trans e4)]; exact yc6) yv6 ys6 rfl rfl (by rw [hb6]; exact own_f1) ?_
    refine XS.iloadN Y6.here hx rfl (by rw [hb6]; exact own_f4) rfl ?_
    refine XS.iloadN Y6.here hx rfl (by rw [hb6]; exact own_f5) rfl ?_
    exact sx6 _ (Steps.refl _)
  obtain ⟨Tc6, Xc6, eo6, so6⟩ := out6 T6 _ _ _ (some (.int r__6)) 9 #[.val (.ref lo), .val (.int en1), .val (.int en0)] .ireturn Yx6 (by rw [hb6]; exact own_f9) (Or.inl ⟨.boolean, _, rfl, Or.inr (Or.inl rfl), own_nb01 Q6_0, rfl, rfl⟩) sf6
  have N6 := Fr.app N0 (Fr.app (Fr.nil n0) N6q)
  have cs7 : Steps p.tables e below (s₁.setTop (mkF m 0 #[.val (.ref hp), .val (.int (1 : Int32)), .unset, .unset, .unset] [])) (Tc6.setTop (mkF m 37 #[.val (.ref hp), .val (.int (1 : Int32)), .val (.int en1), .val (.int (1 : Int32)), .val (.int (0 : Int32))] [(.int r__6)])) := (by
    refine s_aloadN X0 hx (D d11_0) rfl rfl ?_
    refine st1 _ ?_
    refine s_iloadN X1 hx (D d11_4) rfl ?_
    refine X1.iaload hx (j := (1 : Int32)) (v := (.int en1)) (by rw [e1]; exact (Ar2).1) (State.isArrayOf_alike hZ.alike (Ar2).2.1) (Ar2).2.2 hin2 (H2.at hin2 rfl) (g := (mkF m 5 #[.val (.ref hp), .val (.int (1 : Int32)), .unset, .unset, .unset] [(.int (1 : Int32)), (.ref aE)])) rfl rfl (D d11_5) _ ?_
    refine s_istoreN X1 hx (D d11_6) (l' := #[.val (.ref hp), .val (.int (1 : Int32)), .val (.int en1), .unset, .unset]) rfl ?_
    refine s_iloadN X1 hx (D d11_7) rfl ?_
    refine s_istoreN X1 hx (D d11_8) (l' := #[.val (.ref hp), .val (.int (1 : Int32)), .val (.int en1), .val (.int (1 : Int32)), .unset]) rfl ?_
    refine s_iloadN X1 hx (D d11_9) rfl ?_
    refine s_ifNo X1 hx (D d11_10) ((if0 _ _).trans (tlt (by decide : (0 : Int32) < (1 : Int32))).2.2.2) ?_
    refine s_iloadN X1 hx (D d11_13) rfl ?_
    refine s_iconst X1 hx (1 : Int32) (D d11_14) rfl ?_
    refine s_isub X1 hx (D d11_15) (r := (0 : Int32)) (by decide) ?_
    refine s_iconst X1 hx (2 : Int32) (D d11_16) rfl ?_
    refine s_idiv X1 hx (D d11_17) (by decide) (r := (0 : Int32)) (by decide) ?_
    refine s_istore X1 hx (D d11_18) (l' := #[.val (.ref hp), .val (.int (1 : Int32)), .val (.int en1), .val (.int (1 : Int32)), .val (.int (0 : Int32))]) rfl ?_
    refine s_aloadN X1 hx (D d11_20) rfl rfl ?_
    refine st3 _ ?_
    refine s_iloadN X3 hx (D d11_24) rfl ?_
    refine s_aloadN X3 hx (D d11_25) rfl rfl ?_
    refine st4 _ ?_
    refine s_iload X4 hx (D d11_29) rfl ?_
    refine X4.iaload hx (j := (0 : Int32)) (v := (.int en0)) (by rw [e4]; exact (Ar5).1) (State.isArrayOf_alike hZ.alike (Ar5).2.1) (Ar5).2.2 hin5 (H5.at hin5 rfl) (g := (mkF m 31 #[.val (.ref hp), .val (.int (1 : Int32)), .val (.int en1), .val (.int (1 : Int32)), .val (.int (0 : Int32))] [(.int (0 : Int32)), (.ref aE), (.int en1), (.ref lo)])) rfl rfl (D d11_31) _ ?_
    refine so6 _ ?_
    exact Steps.refl _)
  by_cases hc8 : r__6 = (0 : Int32)
  · have f9 := (E_hp.keep K6)
    have f10 := (F_hp_order.keep K6 nin0)
    have f11 := (F_hp_entries.keep K6 nin0)
    have f12 := (F_hp_positions.keep K6 nin0)
    have f13 := (V_aE.keep K6 nin0)
    have f14 := (V_aP.keep K6 nin0)
    obtain ⟨cq15, q15, q15'⟩ := f9.cell
    obtain ⟨_, _, ⟨T15, L15, k15, n15⟩, -, X15, ⟨Lc15, hQ15, l15, y15, z15⟩, st15⟩ := Xc6.privateBack hx (y := (⟨"com/example/leasewise/leasewise/IndexedHeap", "place", "(II)V"⟩ : MethodName)) hown (mvT hZ (wd 92 rfl)) (mvT hZ (wd 93 rfl)) (own_selpriv (y := (⟨"com/example/leasewise/leasewise/IndexedHeap", "place", "(II)V"⟩ : MethodName)) (mvT hZ (wd 59 rfl)) rfl (Cond.privateMethod_at (mvP hZ (wd 94 rfl) (args := #[]))) (mvT hZ (wd 93 rfl)) (by decide)) (Cond.privateMethod_at (mvP hZ (wd 94 rfl) (args := #[]))) (mvT hZ (wd 95 rfl)) (by decide) (own_backH (W := 0) (rm_place_1 l Z a0 hw [] hp en1 kq aF aO aW aK aB aA aI lo aE aP kE kP en0 en1 en2 en3 po0 po1 po2 po3 T6.heap n0 O6 f9 f10 f11 f12 f13 f14 g_aE g_aP NDp (own_en_1 HI0 hlt)) hZH (wd 95 rfl) (wd 33 rfl) (by decide) (by decide)) (g := (mkF m 64 #[.val (.ref hp), .val (.int (1 : Int32)), .val (.int en1), .val (.int (1 : Int32)), .val (.int (0 : Int32))] [(.int (1 : Int32)), (.int en1), (.ref hp)])) rfl (by rw [hml]; rfl) (Steps.refl _) (a := hp) (by rw [eo6]; exact q15) q15' (argsL := [(.int en1), (.int (1 : Int32))]) (rest := []) (lenOf pd_1 rfl) rfl (by show 2 * 0 + _ ≤ _; exact Nat.le_of_eq rfl) (D d11_64) (fun _ _ => ⟨rfl, eo6, (by decide : 0 + 0 ≤ _), (by decide : 0 + 0 ≤ _)⟩)
    dsimp only [Pt.U, Pt.locs, Pt.cells, Pt.slots] at X15 l15 y15 z15 st15 hQ15
    subst l15 y15 z15
    obtain ⟨rfl, N15q, K15, Q15_0, Q15_1⟩ := hQ15
    have O15 := O6.keep K15 (allS g_aE (allS g_aP all0))
    have KK15 : Keep h0 T15.heap [aE, aP] := KK6.trans K15 (allS (own_mem 0 rfl) (allS (own_mem 1 rfl) all0))
    have N15 := Fr.app N6 N15q
    obtain ⟨fs, hr, hrun, hended, hW, hsame⟩ := X15.leave (v := some (.int (1 : Int32))) (fun h => by rw [Bd.returns] at h; cases h)
    refine ⟨_, _, pre0 _ ?_, hrun, hended, _, _, rfl, ?_, ⟨_, rfl⟩, hW, hsame.mono (by decide) (by decide)⟩
    · refine cs7.trans ?_
      refine s_ifNo Xc6 hx (D d11_37) ((if0 _ _).trans (teq hc8).2) ?_
      refine s_goto Xc6 hx 61 (D d11_40) (of_decide_eq_true rfl) rfl ?_
      refine s_aloadN Xc6 hx (D d11_61) rfl rfl ?_
      refine s_iloadN Xc6 hx (D d11_62) rfl ?_
      refine s_iloadN Xc6 hx (D d11_63) rfl ?_
      refine st15.trans ?_
      refine s_iloadN X15 hx (D d11_67) rfl ?_
      exact retI X15 hx Bd.returns (D d11_68) hr
    · show Q_rm_up_3 Z hp (1 : Int32) kq aF aO aW aK aB aA aI lo aE aP cK kK kE kP sz en0 en1 en2 en3 po0 po1 po2 po3 h0 n0 _ T15.heap _
      exact ⟨en0, en1, en2, en3, (s4 en1 0 (1 : Int32) po0), (s4 en1 1 (1 : Int32) po1), (s4 en1 2 (1 : Int32) po2), (s4 en1 3 (1 : Int32) po3), (1 : Int32), rfl, N15, KK15, Q15_0, Q15_1, (own_l4 HI0 hlt), ⟨own_i1, hlt⟩⟩
  · have f16 := (F_hp_entries.keep K6 nin0)
    obtain ⟨T17, X17, e17, st17⟩ := getF Xc6 hx hZ hown (host := "") (Or.inl (wd 44 rfl)) Via.refl eo6 f16 (g := (mkF m 45 #[.val (.ref hp), .val (.int (1 : Int32)), .val (.int en1), .val (.int (1 : Int32)), .val (.int (0 : Int32))] [(.ref hp), (.ref hp)])) rfl rfl (D d11_45)
    have f19 := (V_aE.keep K6 nin0)
    obtain ⟨cl18, Ar18, q18, S18, Nn18, H18, G18⟩ := id f19
    have hin18 : ¬ ((0 : Int32) < 0 ∨ cl18.slots.size ≤ ((0 : Int32)).toNatClampNeg) := inb_of S18 ⟨by decide, by decide⟩
    have f20 := (E_hp.keep K6)
    have f21 := (F_hp_order.keep K6 nin0)
    have f22 := (F_hp_positions.keep K6 nin0)
    have f23 := (V_aP.keep K6 nin0)
    obtain ⟨cq24, q24, q24'⟩ := f20.cell
    obtain ⟨_, _, ⟨T24, L24, k24, n24⟩, -, X24, ⟨Lc24, hQ24, l24, y24, z24⟩, st24⟩ := X17.privateBack hx (y := (⟨"com/example/leasewise/leasewise/IndexedHeap", "place", "(II)V"⟩ : MethodName)) hown (mvT hZ (wd 92 rfl)) (mvT hZ (wd 93 rfl)) (own_selpriv (y := (⟨"com/example/leasewise/leasewise/IndexedHeap", "place", "(II)V"⟩ : MethodName)) (mvT hZ (wd 59 rfl)) rfl (Cond.privateMethod_at (mvP hZ (wd 94 rfl) (args := #[]))) (mvT hZ (wd 93 rfl)) (by decide)) (Cond.privateMethod_at (mvP hZ (wd 94 rfl) (args := #[]))) (mvT hZ (wd 95 rfl)) (by decide) (own_backH (W := 0) (rm_place_1 l Z a0 hw [] hp en0 kq aF aO aW aK aB aA aI lo aE aP kE kP en0 en1 en2 en3 po0 po1 po2 po3 T6.heap n0 O6 f20 f21 f16 f22 f19 f23 g_aE g_aP NDp (own_en_0 HI0 (Int32.lt_trans (by decide) hlt))) hZH (wd 95 rfl) (wd 33 rfl) (by decide) (by decide)) (g := (mkF m 52 #[.val (.ref hp), .val (.int (1 : Int32)), .val (.int en1), .val (.int (1 : Int32)), .val (.int (0 : Int32))] [(.int (1 : Int32)), (.int en0), (.ref hp)])) rfl (by rw [hml]; rfl) (Steps.refl _) (a := hp) (by rw [e17]; exact q24) q24' (argsL := [(.int en0), (.int (1 : Int32))]) (rest := []) (lenOf pd_1 rfl) rfl (by show 2 * 0 + _ ≤ _; exact Nat.le_of_eq rfl) (D d11_52) (fun _ _ => ⟨rfl, e17, (by decide : 0 + 0 ≤ _), (by decide : 0 + 0 ≤ _)⟩)
    dsimp only [Pt.U, Pt.locs, Pt.cells, Pt.slots] at X24 l24 y24 z24 st24 hQ24
    subst l24 y24 z24
    obtain ⟨rfl, N24q, K24, Q24_0, Q24_1⟩ := hQ24
    have O24 := O6.keep K24 (allS g_aE (allS g_aP all0))
    have KK24 : Keep h0 T24.heap [aE, aP] := KK6.trans K24 (allS (own_mem 0 rfl) (allS (own_mem 1 rfl) all0))
    have N24 := Fr.app N6 N24q
    have f25 := (f20.keep K24)
    have f26 := (f21.keep K24 (nn3 NDp))
    have f27 := (f16.keep K24 (nn3 NDp))
    have f28 := (f22.keep K24 (nn3 NDp))
    obtain ⟨cq29, q29, q29'⟩ := f25.cell
    obtain ⟨_, _, ⟨T29, L29, k29, n29⟩, -, X29, ⟨Lc29, hQ29, l29, y29, z29⟩, st29⟩ := X24.privateBack hx (y := (⟨"com/example/leasewise/leasewise/IndexedHeap", "place", "(II)V"⟩ : MethodName)) hown (mvT hZ (wd 92 rfl)) (mvT hZ (wd 93 rfl)) (own_selpriv (y := (⟨"com/example/leasewise/leasewise/IndexedHeap", "place", "(II)V"⟩ : MethodName)) (mvT hZ (wd 59 rfl)) rfl (Cond.privateMethod_at (mvP hZ (wd 94 rfl) (args := #[]))) (mvT hZ (wd 93 rfl)) (by decide)) (Cond.privateMethod_at (mvP hZ (wd 94 rfl) (args := #[]))) (mvT hZ (wd 95 rfl)) (by decide) (own_backH (W := 0) (rm_place_0 l Z a0 hw [] hp en1 kq aF aO aW aK aB aA aI lo aE aP kE kP en0 en0 en2 en3 (s4 en0 0 (1 : Int32) po0) (s4 en0 1 (1 : Int32) po1) (s4 en0 2 (1 : Int32) po2) (s4 en0 3 (1 : Int32) po3) T24.heap n0 O24 f25 f26 f27 f28 Q24_0 Q24_1 g_aE g_aP NDp (own_en_1 HI0 hlt)) hZH (wd 95 rfl) (wd 33 rfl) (by decide) (by decide)) (g := (mkF m 64 #[.val (.ref hp), .val (.int (1 : Int32)), .val (.int en1), .val (.int (0 : Int32)), .val (.int (0 : Int32))] [(.int (0 : Int32)), (.int en1), (.ref hp)])) rfl (by rw [hml]; rfl) (Steps.refl _) (a := hp) (by exact q29) q29' (argsL := [(.int en1), (.int (0 : Int32))]) (rest := []) (lenOf pd_1 rfl) rfl (by show 2 * 0 + _ ≤ _; exact Nat.le_of_eq rfl) (D d11_64) (fun _ _ => ⟨rfl, rfl, (by decide : 0 + 0 ≤ _), (by decide : 0 + 0 ≤ _)⟩)
    dsimp only [Pt.U, Pt.locs, Pt.cells, Pt.slots] at X29 l29 y29 z29 st29 hQ29
    subst l29 y29 z29
    obtain ⟨rfl, N29q, K29, Q29_0, Q29_1⟩ := hQ29
    have O29 := O24.keep K29 (allS g_aE (allS g_aP all0))
    have KK29 : Keep h0 T29.heap [aE, aP] := KK24.trans K29 (allS (own_mem 0 rfl) (allS (own_mem 1 rfl) all0))
    have N29 := Fr.app N24 N29q
    obtain ⟨fs, hr, hrun, hended, hW, hsame⟩ := X29.leave (v := some (.int (0 : Int32))) (fun h => by rw [Bd.returns] at h; cases h)
    refine ⟨_, _, pre0 _ ?_, hrun, hended, _, _, rfl, ?_, ⟨_, rfl⟩, hW, hsame.mono (by decide) (by decide)⟩
    · refine cs7.trans ?_
      refine s_ifYes Xc6 hx 43 (D d11_37) ((if0 _ _).trans (feq hc8).2) (of_decide_eq_true rfl) rfl ?_
      refine s_aloadN Xc6 hx (D d11_43) rfl rfl ?_
      refine s_aloadN Xc6 hx (D d11_44) rfl rfl ?_
      refine st17 _ ?_
      refine s_iload X17 hx (D d11_48) rfl ?_
      refine X17.iaload hx (j := (0 : Int32)) (v := (.int en0)) (by rw [e17]; exact (Ar18).1) (State.isArrayOf_alike hZ.alike (Ar18).2.1) (Ar18).2.2 hin18 (H18.at hin18 rfl) (g := (mkF m 50 #[.val (.ref hp), .val (.int (1 : Int32)), .val (.int en1), .val (.int (1 : Int32)), .val (.int (0 : Int32))] [(.int (0 : Int32)), (.ref aE), (.ref hp)])) rfl rfl (D d11_50) _ ?_
      refine s_iloadN X17 hx (D d11_51) rfl ?_
      refine st24.trans ?_
      refine s_iload X24 hx (D d11_55) rfl ?_
      refine s_istoreN X24 hx (D d11_57) (l' := #[.val (.ref hp), .val (.int (1 : Int32)), .val (.int en1), .val (.int (0 : Int32)), .val (.int (0 : Int32))]) rfl ?_
      refine s_goto X24 hx 9 (D d11_58) (of_decide_eq_true rfl) rfl ?_
      refine s_iloadN X24 hx (D d11_9) rfl ?_
      refine s_ifYes X24 hx 61 (D d11_10) ((if0 _ _).trans (flt (by decide : ¬ ((0 : Int32) < (0 : Int32)))).2.2.2) (of_decide_eq_true rfl) rfl ?_
      refine s_aloadN X24 hx (D d11_61) rfl rfl ?_
      refine s_iloadN X24 hx (D d11_62) rfl ?_
      refine s_iloadN X24 hx (D d11_63) rfl ?_
      refine st29.trans ?_
      refine s_iloadN X29 hx (D d11_67) rfl ?_
      exact retI X29 hx Bd.returns (D d11_68) hr
    · show Q_rm_up_3 Z hp (1 : Int32) kq aF aO aW aK aB aA aI lo aE aP cK kK kE kP sz en0 en1 en2 en3 po0 po1 po2 po3 h0 n0 _ T29.heap _
      exact ⟨en1, en0, en2, en3, (s4 en1 0 (0 : Int32) (s4 en0 0 (1 : Int32) po0)), (s4 en1 1 (0 : Int32) (s4 en0 1 (1 : Int32) po1)), (s4 en1 2 (0 : Int32) (s4 en0 2 (1 : Int32) po2)), (s4 en1 3 (0 : Int32) (s4 en0 3 (1 : Int32) po3)), (0 : Int32), rfl, N29, KK29, Q29_0, Q29_1, (own_l5 HI0 hlt), ⟨own_i0, (Int32.lt_trans (by decide) hlt)⟩⟩
theorem own_l6_3_k : ∀ L ∈ hAll, L.length = 3 → [(L.getD 0 0), (L.getD 1 0), (L.getD 2 0)] ∈ hAll ∧ hPos [(L.getD 0 0), (L.getD 1 0), (L.getD 2 0)] 0 = (s4 (L.getD 2 0) 0 (2 : Int32) (hPos L 0)) ∧ hPos [(L.getD 0 0), (L.getD 1 0), (L.getD 2 0)] 1 = (s4 (L.getD 2 0) 1 (2 : Int32) (hPos L 1)) ∧ hPos [(L.getD 0 0), (L.getD 1 0), (L.getD 2 0)] 2 = (s4 (L.getD 2 0) 2 (2 : Int32) (hPos L 2)) ∧ hPos [(L.getD 0 0), (L.getD 1 0), (L.getD 2 0)] 3 = (s4 (L.getD 2 0) 3 (2 : Int32) (hPos L 3)) ∧ ((s4 (L.getD 2 0) 0 (2 : Int32) (hPos L 0)) = -1 ↔ hPos L 0 = -1) ∧ ((s4 (L.getD 2 0) 1 (2 : Int32) (hPos L 1)) = -1 ↔ hPos L 1 = -1) ∧ ((s4 (L.getD 2 0) 2 (2 : Int32) (hPos L 2)) = -1 ↔ hPos L 2 = -1) ∧ ((s4 (L.getD 2 0) 3 (2 : Int32) (hPos L 3)) = -1 ↔ hPos L 3 = -1) := by decide +kernel
theorem own_l6_3 {e0 e1 e2 e3 p0 p1 p2 p3 : Int32} (H : HI (3 : Int32) e0 e1 e2 e3 p0 p1 p2 p3) : HI (3 : Int32) e0 e1 e2 e3 (s4 e2 0 (2 : Int32) p0) (s4 e2 1 (2 : Int32) p1) (s4 e2 2 (2 : Int32) p2) (s4 e2 3 (2 : Int32) p3) ∧ SM p0 p1 p2 p3 (s4 e2 0 (2 : Int32) p0) (s4 e2 1 (2 : Int32) p1) (s4 e2 2 (2 : Int32) p2) (s4 e2 3 (2 : Int32) p3) := by
  obtain ⟨L, hL, hn, h0, h1, h2, h3, rfl, rfl, rfl, rfl⟩ := H
  have hlen : L.length = 3 := own_hl3 L hL hn
  have g0 := h0 (by omega); subst g0
  have g1 := h1 (by omega); subst g1
  have g2 := h2 (by omega); subst g2
  have K := own_l6_3_k L hL hlen
  obtain ⟨k1, k2, k3, k4, k5, k6⟩ := K
  refine ⟨⟨[(L.getD 0 0), (L.getD 1 0), (L.getD 2 0)], k1, rfl, ?_, ?_, ?_, ?_, k2.symm, k3.symm, k4.symm, k5.symm⟩, k6⟩
  all_goals (intro hh; first | rfl | (exfalso; revert hh; decide) | (exfalso; simp at hh))
theorem own_l6_4_k : ∀ L ∈ hAll, L.length = 4 → [(L.getD 0 0), (L.getD 1 0), (L.getD 2 0), (L.getD 3 0)] ∈ hAll ∧ hPos [(L.getD 0 0), (L.getD 1 0), (L.getD 2 0), (L.getD 3 0)] 0 = (s4 (L.getD 2 0) 0 (2 : Int32) (hPos L 0)) ∧ hPos [(L.getD 0 0), (L.getD 1 0), (L.getD 2 0), (L.getD 3 0)] 1 = (s4 (L.getD 2 0) 1 (2 : Int32) (hPos L 1)) ∧ hPos [(L.getD 0 0), (L.getD 1 0), (L.getD 2 0), (L.getD 3 0)] 2 = (s4 (L.getD 2 0) 2 (2 : Int32) (hPos L 2)) ∧ hPos [(L.getD 0 0), (L.getD 1 0), (L.getD 2 0), (L.getD 3 0)] 3 = (s4 (L.getD 2 0) 3 (2 : Int32) (hPos L 3)) ∧ ((s4 (L.getD 2 0) 0 (2 : Int32) (hPos L 0)) = -1 ↔ hPos L 0 = -1) ∧ ((s4 (L.getD 2 0) 1 (2 : Int32) (hPos L 1)) = -1 ↔ hPos L 1 = -1) ∧ ((s4 (L.getD 2 0) 2 (2 : Int32) (hPos L 2)) = -1 ↔ hPos L 2 = -1) ∧ ((s4 (L.getD 2 0) 3 (2 : Int32) (hPos L 3)) = -1 ↔ hPos L 3 = -1) := by decide +kernel
theorem own_l6_4 {e0 e1 e2 e3 p0 p1 p2 p3 : Int32} (H : HI (4 : Int32) e0 e1 e2 e3 p0 p1 p2 p3) : HI (4 : Int32) e0 e1 e2 e3 (s4 e2 0 (2 : Int32) p0) (s4 e2 1 (2 : Int32) p1) (s4 e2 2 (2 : Int32) p2) (s4 e2 3 (2 : Int32) p3) ∧ SM p0 p1 p2 p3 (s4 e2 0 (2 : Int32) p0) (s4 e2 1 (2 : Int32) p1) (s4 e2 2 (2 : Int32) p2) (s4 e2 3 (2 : Int32) p3) := by
  obtain ⟨L, hL, hn, h0, h1, h2, h3, rfl, rfl, rfl, rfl⟩ := H
  have hlen : L.length = 4 := own_hl4 L hL hn
  have g0 := h0 (by omega); subst g0
  have g1 := h1 (by omega); subst g1
  have g2 := h2 (by omega); subst g2
  have g3 := h3 (by omega); subst g3
  have K := own_l6_4_k L hL hlen
  obtain ⟨k1, k2, k3, k4, k5, k6⟩ := K
  refine ⟨⟨[(L.getD 0 0), (L.getD 1 0), (L.getD 2 0), (L.getD 3 0)], k1, rfl, ?_, ?_, ?_, ?_, k2.symm, k3.symm, k4.symm, k5.symm⟩, k6⟩
  all_goals (intro hh; first | rfl | (exfalso; revert hh; decide) | (exfalso; simp at hh))
theorem own_l6 {n e0 e1 e2 e3 p0 p1 p2 p3 : Int32} (H : HI n e0 e1 e2 e3 p0 p1 p2 p3) (hl : (2 : Int32) < n) : HI n e0 e1 e2 e3 (s4 e2 0 (2 : Int32) p0) (s4 e2 1 (2 : Int32) p1) (s4 e2 2 (2 : Int32) p2) (s4 e2 3 (2 : Int32) p3) ∧ SM p0 p1 p2 p3 (s4 e2 0 (2 : Int32) p0) (s4 e2 1 (2 : Int32) p1) (s4 e2 2 (2 : Int32) p2) (s4 e2 3 (2 : Int32) p3) := by
  rcases own_gt_2 H hl with rfl | rfl
  · exact own_l6_3 H
  · exact own_l6_4 H
theorem own_l7_3_k : ∀ L ∈ hAll, L.length = 3 → [(L.getD 2 0), (L.getD 1 0), (L.getD 0 0)] ∈ hAll ∧ hPos [(L.getD 2 0), (L.getD 1 0), (L.getD 0 0)] 0 = (s4 (L.getD 2 0) 0 (0 : Int32) (s4 (L.getD 0 0) 0 (2 : Int32) (hPos L 0))) ∧ hPos [(L.getD 2 0), (L.getD 1 0), (L.getD 0 0)] 1 = (s4 (L.getD 2 0) 1 (0 : Int32) (s4 (L.getD 0 0) 1 (2 : Int32) (hPos L 1))) ∧ hPos [(L.getD 2 0), (L.getD 1 0), (L.getD 0 0)] 2 = (s4 (L.getD 2 0) 2 (0 : Int32) (s4 (L.getD 0 0) 2 (2 : Int32) (hPos L 2))) ∧ hPos [(L.getD 2 0), (L.getD 1 0), (L.getD 0 0)] 3 = (s4 (L.getD 2 0) 3 (0 : Int32) (s4 (L.getD 0 0) 3 (2 : Int32) (hPos L 3))) ∧ ((s4 (L.getD 2 0) 0 (0 : Int32) (s4 (L.getD 0 0) 0 (2 : Int32) (hPos L 0))) = -1 ↔ hPos L 0 = -1) ∧ ((s4 (L.getD 2 0) 1 (0 : Int32) (s4 (L.getD 0 0) 1 (2 : Int32) (hPos L 1))) = -1 ↔ hPos L 1 = -1) ∧ ((s4 (L.getD 2 0) 2 (0 : Int32) (s4 (L.getD 0 0) 2 (2 : Int32) (hPos L 2))) = -1 ↔ hPos L 2 = -1) ∧ ((s4 (L.getD 2 0) 3 (0 : Int32) (s4 (L.getD 0 0) 3 (2 : Int32) (hPos L 3))) = -1 ↔ hPos L 3 = -1) := by decide +kernel
theorem own_l7_3 {e0 e1 e2 e3 p0 p1 p2 p3 : Int32} (H : HI (3 : Int32) e0 e1 e2 e3 p0 p1 p2 p3) : HI (3 : Int32) e2 e1 e0 e3 (s4 e2 0 (0 : Int32) (s4 e0 0 (2 : Int32) p0)) (s4 e2 1 (0 : Int32) (s4 e0 1 (2 : Int32) p1)) (s4 e2 2 (0 : Int32) (s4 e0 2 (2 : Int32) p2)) (s4 e2 3 (0 : Int32) (s4 e0 3 (2 : Int32) p3)) ∧ SM p0 p1 p2 p3 (s4 e2 0 (0 : Int32) (s4 e0 0 (2 : Int32) p0)) (s4 e2 1 (0 : Int32) (s4 e0 1 (2 : Int32) p1)) (s4 e2 2 (0 : Int32) (s4 e0 2 (2 : Int32) p2)) (s4 e2 3 (0 : Int32) (s4 e0 3 (2 : Int32) p3)) := by
  obtain ⟨L, hL, hn, h0, h1, h2, h3, rfl, rfl, rfl, rfl⟩ := H
  have hlen : L.length = 3 := own_hl3 L hL hn
  have g0 := h0 (by omega); subst g0
  have g1 := h1 (by omega); subst g1
  have g2 := h2 (by omega); subst g2
  have K := own_l7_3_k L hL hlen
  obtain ⟨k1, k2, k3, k4, k5, k6⟩ := K
  refine ⟨⟨[(L.getD 2 0), (L.getD 1 0), (L.getD 0 0)], k1, rfl, ?_, ?_, ?_, ?_, k2.symm, k3.symm, k4.symm, k5.symm⟩, k6⟩
  all_goals (intro hh; first | rfl | (exfalso; revert hh; decide) | (exfalso; simp at hh))
theorem own_l7_4_k : ∀ L ∈ hAll, L.length = 4 → [(L.getD 2 0), (L.getD 1 0), (L.getD 0 0), (L.getD 3 0)] ∈ hAll ∧ hPos [(L.getD 2 0), (L.getD 1 0), (L.getD 0 0), (L.getD 3 0)] 0 = (s4 (L.getD 2 0) 0 (0 : Int32) (s4 (L.getD 0 0) 0 (2 : Int32) (hPos L 0))) ∧ hPos [(L.getD 2 0), (L.getD 1 0), (L.getD 0 0), (L.getD 3 0)] 1 = (s4 (L.getD 2 0) 1 (0 : Int32) (s4 (L.getD 0 0) 1 (2 : Int32) (hPos L 1))) ∧ hPos [(L.getD 2 0), (L.getD 1 0), (L.getD 0 0), (L.getD 3 0)] 2 = (s4 (L.getD 2 0) 2 (0 : Int32) (s4 (L.getD 0 0) 2 (2 : Int32) (hPos L 2))) ∧ hPos [(L.getD 2 0), (L.getD 1 0), (L.getD 0 0), (L.getD 3 0)] 3 = (s4 (L.getD 2 0) 3 (0 : Int32) (s4 (L.getD 0 0) 3 (2 : Int32) (hPos L 3))) ∧ ((s4 (L.getD 2 0) 0 (0 : Int32) (s4 (L.getD 0 0) 0 (2 : Int32) (hPos L 0))) = -1 ↔ hPos L 0 = -1) ∧ ((s4 (L.getD 2 0) 1 (0 : Int32) (s4 (L.getD 0 0) 1 (2 : Int32) (hPos L 1))) = -1 ↔ hPos L 1 = -1) ∧ ((s4 (L.getD 2 0) 2 (0 : Int32) (s4 (L.getD 0 0) 2 (2 : Int32) (hPos L 2))) = -1 ↔ hPos L 2 = -1) ∧ ((s4 (L.getD 2 0) 3 (0 : Int32) (s4 (L.getD 0 0) 3 (2 : Int32) (hPos L 3))) = -1 ↔ hPos L 3 = -1) := by decide +kernel
theorem own_l7_4 {e0 e1 e2 e3 p0 p1 p2 p3 : Int32} (H : HI (4 : Int32) e0 e1 e2 e3 p0 p1 p2 p3) : HI (4 : Int32) e2 e1 e0 e3 (s4 e2 0 (0 : Int32) (s4 e0 0 (2 : Int32) p0)) (s4 e2 1 (0 : Int32) (s4 e0 1 (2 : Int32) p1)) (s4 e2 2 (0 : Int32) (s4 e0 2 (2 : Int32) p2)) (s4 e2 3 (0 : Int32) (s4 e0 3 (2 : Int32) p3)) ∧ SM p0 p1 p2 p3 (s4 e2 0 (0 : Int32) (s4 e0 0 (2 : Int32) p0)) (s4 e2 1 (0 : Int32) (s4 e0 1 (2 : Int32) p1)) (s4 e2 2 (0 : Int32) (s4 e0 2 (2 : Int32) p2)) (s4 e2 3 (0 : Int32) (s4 e0 3 (2 : Int32) p3)) := by
  obtain ⟨L, hL, hn, h0, h1, h2, h3, rfl, rfl, rfl, rfl⟩ := H
  have hlen : L.length = 4 := own_hl4 L hL hn
  have g0 := h0 (by omega); subst g0
  have g1 := h1 (by omega); subst g1
  have g2 := h2 (by omega); subst g2
  have g3 := h3 (by omega); subst g3
  have K := own_l7_4_k L hL hlen
  obtain ⟨k1, k2, k3, k4, k5, k6⟩ := K
  refine ⟨⟨[(L.getD 2 0), (L.getD 1 0), (L.getD 0 0), (L.getD 3 0)], k1, rfl, ?_, ?_, ?_, ?_, k2.symm, k3.symm, k4.symm, k5.symm⟩, k6⟩
  all_goals (intro hh; first | rfl | (exfalso; revert hh; decide) | (exfalso; simp at hh))
theorem own_l7 {n e0 e1 e2 e3 p0 p1 p2 p3 : Int32} (H : HI n e0 e1 e2 e3 p0 p1 p2 p3) (hl : (2 : Int32) < n) : HI n e2 e1 e0 e3 (s4 e2 0 (0 : Int32) (s4 e0 0 (2 : Int32) p0)) (s4 e2 1 (0 : Int32) (s4 e0 1 (2 : Int32) p1)) (s4 e2 2 (0 : Int32) (s4 e0 2 (2 : Int32) p2)) (s4 e2 3 (0 : Int32) (s4 e0 3 (2 : Int32) p3)) ∧ SM p0 p1 p2 p3 (s4 e2 0 (0 : Int32) (s4 e0 0 (2 : Int32) p0)) (s4 e2 1 (0 : Int32) (s4 e0 1 (2 : Int32) p1)) (s4 e2 2 (0 : Int32) (s4 e0 2 (2 : Int32) p2)) (s4 e2 3 (0 : Int32) (s4 e0 3 (2 : Int32) p3)) := by
  rcases own_gt_2 H hl with rfl | rfl
  · exact own_l7_3 H
  · exact own_l7_4 H
theorem ef_rm_up_2 (m : MethodId) (x0 : Addr) (x1 : Int32) : entryFrame m #[(.ref x0), (.int x1)] 5 = mkF m 0 #[.val (.ref x0), .val (.int x1), .unset, .unset, .unset] [] := by first | (simp [entryFrame, mkF, argsToLocals, Value.category]; done) | rfl
set_option maxRecDepth 65536 in
set_option maxHeartbeats 40000000 in
theorem rm_up_2 (l : Launch) (Z : State) (a0 : Array Value) (hw : ∀ d ∈ tables_1, d.before a0 Z = true) (ws : List Jvm.Cond) (hp : Addr) (pp : Int32) (kq aF aO aW aK aB aA aI lo aE aP : Addr) (cK kK kE kP : ClassId) (sz en0 en1 en2 en3 po0 po1 po2 po3 : Int32) (h0 : Heap) (n0 : Nat) (O0 : Old Z n0 h0) (E_hp : Exa Z h0 hp "com/example/leasewise/leasewise/IndexedHeap") (F_hp_order : Fld Z h0 hp "com/example/leasewise/leasewise/IndexedHeap" "order" "Lcom/example/leasewise/leasewise/IndexedHeap$Order;" (.ref lo)) (F_hp_entries : Fld Z h0 hp "com/example/leasewise/leasewise/IndexedHeap" "entries" "[I" (.ref aE)) (F_hp_positions : Fld Z h0 hp "com/example/leasewise/leasewise/IndexedHeap" "positions" "[I" (.ref aP)) (F_hp_size : Fld Z h0 hp "com/example/leasewise/leasewise/IndexedHeap" "size" "I" (.int sz)) (E_kq : Exa Z h0 kq "com/example/leasewise/leasewise/KilometreQueue") (F_kq_keys : Fld Z h0 kq "com/example/leasewise/leasewise/KilometreQueue" "keys" "[J" (.ref aK)) (MDc : Jvm.LamKit.Made Z "com/example/leasewise/leasewise/KilometreQueue" sgm cK) (V_aE : Arv Z h0 aE kE .int (4 : Int32) [(.int en0), (.int en1), (.int en2), (.int en3)] (.int (0 : Int32))) (V_aP : Arv Z h0 aP kP .int (4 : Int32) [(.int po0), (.int po1), (.int po2), (.int po3)] (.int (-1 : Int32))) (g_aE : n0 ≤ aE) (g_aP : n0 ≤ aP) (NDp : List.Nodup [kq, aF, aO, aW, aK, aB, aA, aI, hp, lo, aE, aP]) (HI0 : HI sz en0 en1 en2 en3 po0 po1 po2 po3) (hpp : pp = (2 : Int32)) (hlt : pp < sz) (V_aK : Arp Z h0 aK kK .long (4 : Int32) PJ) (Y_lo : LamO h0 lo cK kq) :
    MetFree l (⟨"com/example/leasewise/leasewise/IndexedHeap", "siftUp", "(I)I"⟩ : MethodName) (head1 (Jvm.Cond.code (⟨"com/example/leasewise/leasewise/IndexedHeap", "siftUp", "(I)I"⟩ : MethodName) prog_35_method_8_code 5 (some .int) :: ws) ({ frames := 2, cells := 0, slots := 0, locals := 28 } : Room)) (fun a U => a = #[(.ref hp), (.int pp)] ∧ Z.WarmedH U.vm ∧ U.heap = h0) (fun _ _ _ _ _ => True) (fun _ U o U' => ∃ v L, o = .returned v ∧ Q_rm_up_3 Z hp pp kq aF aO aW aK aB aA aI lo aE aP cK kK kE kP sz en0 en1 en2 en3 po0 po1 po2 po3 h0 n0 v U'.heap L ∧ FrameEnd U o U' L ({ frames := 2, cells := 0, slots := 0, locals := 28 } : Room).cells ({ frames := 2, cells := 0, slots := 0, locals := 28 } : Room).slots) := by
  refine MetFree.of_bodySF (plainFor_of_name pn_1) hisR ?_
  intro p e s m args below meth c s₁ Bd hml0 hP hK
  obtain ⟨rfl, hZH, hh⟩ := hP
  have hZ := hZH.wide
  have hx := Bd.exec
  have hby := Bd.bytes
  have D := fun {pc : Nat} {r : Except ClassFile.DecodeError (ClassFile.Instr × Nat)} (q : decode prog_35_method_8_code pc = r) => hb (pc := pc) hby q
  have hml : c.maxLocals = 5 := hml0
  have hown : s.vm.findClass "com/example/leasewise/leasewise/IndexedHeap" = some m.cls := findClass_of_methodNamed Bd.named
  have hnm := (name_of_methodNamed Bd.named Bd.method).1
  have X0 : Stand p l e ({ frames := 2, cells := 0, slots := 0, locals := 28 } : Room) s m #[(.ref hp), (.int pp)] below meth c s₁ [] 0 0 := Stand.of_body Bd
  have e0 : s₁.heap = h0 := by rw [← hh, Bd.state]; rfl
  have N0 := Fr.nil n0
  have pre0 : ∀ t, Steps p.tables e below (s₁.setTop (mkF m 0 #[.val (.ref hp), .val (.int pp), .unset, .unset, .unset] [])) t → Steps p.tables e below (s₁.setTop (entryFrame m #[(.ref hp), (.int pp)] 5)) t := fun t k => castTop (ef_rm_up_2 m (hp) (pp)) k
  have wd := fun {d : Jvm.Cond} (i : Nat) (h : tables_1[i]? = some d) => hw d (List.mem_of_getElem? h)
  subst hpp
  obtain ⟨T1, X1, e1, st1⟩ := getF X0 hx hZ hown (host := "") (Or.inl (wd 44 rfl)) Via.refl e0 F_hp_entries (g := (mkF m 1 #[.val (.ref hp), .val (.int (2 : Int32)), .unset, .unset, .unset] [(.ref hp)])) rfl rfl (D d11_1)
  obtain ⟨cl2, Ar2, q2, S2, Nn2, H2, G2⟩ := id V_aE
  have hin2 : ¬ ((2 : Int32) < 0 ∨ cl2.slots.size ≤ ((2 : Int32)).toNatClampNeg) := inb_of S2 ⟨by decide, by decide⟩
  obtain ⟨T3, X3, e3, st3⟩ := getF X1 hx hZ hown (host := "") (Or.inl (wd 42 rfl)) Via.refl e1 F_hp_order (g := (mkF m 21 #[.val (.ref hp), .val (.int (2 : Int32)), .val (.int en2), .val (.int (2 : Int32)), .val (.int (0 : Int32))] [(.ref hp)])) rfl rfl (D d11_21)
  obtain ⟨T4, X4, e4, st4⟩ := getF X3 hx hZ hown (host := "") (Or.inl (wd 44 rfl)) Via.refl e3 F_hp_entries (g := (mkF m 26 #[.val (.ref hp), .val (.int (2 : Int32)), .val (.int en2), .val (.int (2 : Int32)), .val (.int (0 : Int32))] [(.ref hp), (.int en2), (.ref lo)])) rfl rfl (D d11_26)
  obtain ⟨cl5, Ar5, q5, S5, Nn5, H5, G5⟩ := id V_aE
  have hin5 : ¬ ((0 : Int32) < 0 ∨ cl5.slots.size ≤ ((0 : Int32)).toNatClampNeg) := inb_of S5 ⟨by decide, by decide⟩
  obtain ⟨cy6, yc6, yk6, yv6, ys6⟩ := id Y_lo
  obtain ⟨mk6, ck6, U6, sb6, Y6, hb6, hm6, hr6, hZ6, eU6, out6⟩ := own_enter X4 hx hZH (host := "com/example/leasewise/leasewise/KilometreQueue") (σ := sgm) (xi := (⟨"com/example/leasewise/leasewise/IndexedHeap$Order", "before", "(II)Z"⟩ : MethodName)) hown (wd 96 rfl) (wd 97 rfl) (mvT hZ (wd 98 rfl)) (by decide +kernel) (by decide) MDc (LamO.fn Y_lo e4) own_fwdok (g := (mkF m 32 #[.val (.ref hp), .val (.int (2 : Int32)), .val (.int en2), .val (.int (2 : Int32)), .val (.int (0 : Int32))] [(.int en0), (.int en2), (.ref lo)])) rfl (by rw [hml]; rfl) (argsL := [(.int en2), (.int en0)]) (rest := []) (L0 := #[.val (.ref lo), .val (.int en2), .val (.int en0)]) (lenOf pd_0 rfl) rfl (D d11_32) (fun _ => by first | rfl | (simp [entryFrame, mkF, argsToLocals, Value.category]; done)) (R' := ({ frames := 1, cells := 0, slots := 0, locals := 14 } : Room)) (by decide) (Nat.le_of_ble_eq_true rfl) (by decide) (by decide)
  obtain ⟨_, ⟨T6, L6, k6, n6⟩, Yx6, ⟨Lc6, hQ6, l6, y6, z6⟩, sx6⟩ := own_fvp Y6 hx hZ6 MDc rfl own_refok (by decide) (wd 101 rfl) (own_selpriv (y := (⟨"com/example/leasewise/leasewise/KilometreQueue", "lambda$new$0", "(II)Z"⟩ : MethodName)) (wd 54 rfl) rfl (Cond.privateMethod_at (wd 100 rfl)) (wd 99 rfl) (by decide)) (wd 99 rfl) (own_backH (W := 0) (rm_lam l Z a0 hw [] kq en2 en0 aK kK h0 n0 O0 E_kq F_kq_keys (own_en_2 HI0 hlt) (own_en_0 HI0 (Int32.lt_trans (by decide) hlt)) V_aK) hZ6 (wd 101 rfl) (wd 2 rfl) (by decide) (by decide)) (eU6.trans e4) E_kq (g := mkF ⟨cK, 1⟩ 6 #[.val (.ref lo), .val (.int en2), .val (.int en0)] [(.int en0), (.int en2), .ref kq]) rfl (by rw [hm6]; rfl) (argsL := [(.int en2), (.int en0)]) (rest := []) (lenOf pd_0 rfl) rfl (by show 2 * 0 + _ ≤ _; exact Nat.le_of_eq rfl) (by rw [hb6]; exact own_f6) ⟨rfl, (eU6.trans e4), Nat.le_of_ble_eq_true rfl, Nat.le_of_ble_eq_true rfl⟩
  dsimp only [Pt.U, Pt.locs, Pt.cells, Pt.slots] at Yx6 l6 y6 z6 sx6 hQ6
  subst l6 y6 z6
  obtain ⟨r__6, rfl, N6q, K6, Q6_0⟩ := hQ6
  have O6 := O0.keep K6 all0
  have KK6 : Keep h0 T6.heap [aE, aP] := (Keep.refl h0 [aE, aP]).trans K6 all0
  have sf6 : Steps p.tables e (.java { (mkF m 32 #[.val (.ref hp), .val (.int (2 : Int32)), .val (.int en2), .val (.int (2 : Int32)), .val (.int (0 : Int32))] [(.int en0), (.int en2), (.ref lo)]) with stack := [] } :: below) (U6.setTop (mkF ⟨cK, 1⟩ 0 #[.val (.ref lo), .val (.int en2), .val (.int en0)] [])) (T6.setTop (mkF ⟨cK, 1⟩ 9 #[.val (.ref lo), .val (.int en2), .val (.int en0)] [(.int r__6)])) := by
    refine XS.aloadN Y6.here hx rfl (by rw [hb6]; exact own_f0) rfl rfl ?_
    refine getCap (s := Z) hx Y6.here (State.WarmedH.trans hZ6 Y6.warmed) MDc own_capok (wd 37 rfl) (by rw [(eU6.trans e4)]; exact yc6) yv6 ys6 rfl rfl (by rw [hb6]; exact own_f1) ?_
    refine XS.iloadN Y6.here hx rfl (by rw [hb6]; exact own_f4) rfl ?_
    refine XS.iloadN Y6.here hx rfl (by rw [hb6]; exact own_f5) rfl ?_
    exact sx6 _ (Steps.refl _)
  obtain ⟨Tc6, Xc6, eo6, so6⟩ := out6 T6 _ _ _ (some (.int r__6)) 9 #[.val (.ref lo), .val (.int en2), .val (.int en0)] .ireturn Yx6 (by rw [hb6]; exact own_f9) (Or.inl ⟨.boolean, _, rfl, Or.inr (Or.inl rfl), own_nb01 Q6_0, rfl, rfl⟩) sf6
  have N6 := Fr.app N0 (Fr.app (Fr.nil n0) N6q)
  have cs7 : Steps p.tables e below (s₁.setTop (mkF m 0 #[.val (.ref hp), .val (.int (2 : Int32)), .unset, .unset, .unset] [])) (Tc6.setTop (mkF m 37 #[.val (.ref hp), .val (.int (2 : Int32)), .val (.int en2), .val (.int (2 : Int32)), .val (.int (0 : Int32))] [(.int r__6)])) := (by
    refine s_aloadN X0 hx (D d11_0) rfl rfl ?_
    refine st1 _ ?_
    refine s_iloadN X1 hx (D d11_4) rfl ?_
    refine X1.iaload hx (j := (2 : Int32)) (v := (.int en2)) (by rw [e1]; exact (Ar2).1) (State.isArrayOf_alike hZ.alike (Ar2).2.1) (Ar2).2.2 hin2 (H2.at hin2 rfl) (g := (mkF m 5 #[.val (.ref hp), .val (.int (2 : Int32)), .unset, .unset, .unset] [(.int (2 : Int32)), (.ref aE)])) rfl rfl (D d11_5) _ ?_
    refine s_istoreN X1 hx (D d11_6) (l' := #[.val (.ref hp), .val (.int (2 : Int32)), .val (.int en2), .unset, .unset]) rfl ?_
    refine s_iloadN X1 hx (D d11_7) rfl ?_
    refine s_istoreN X1 hx (D d11_8) (l' := #[.val (.ref hp), .val (.int (2 : Int32)), .val (.int en2), .val (.int (2 : Int32)), .unset]) rfl ?_
    refine s_iloadN X1 hx (D d11_9) rfl ?_
    refine s_ifNo X1 hx (D d11_10) ((if0 _ _).trans (tlt (by decide : (0 : Int32) < (2 : Int32))).2.2.2) ?_
    refine s_iloadN X1 hx (D d11_13) rfl ?_
    refine s_iconst X1 hx (1 : Int32) (D d11_14) rfl ?_
    refine s_isub X1 hx (D d11_15) (r := (1 : Int32)) (by decide) ?_
    refine s_iconst X1 hx (2 : Int32) (D d11_16) rfl ?_
    refine s_idiv X1 hx (D d11_17) (by decide) (r := (0 : Int32)) (by decide) ?_
    refine s_istore X1 hx (D d11_18) (l' := #[.val (.ref hp), .val (.int (2 : Int32)), .val (.int en2), .val (.int (2 : Int32)), .val (.int (0 : Int32))]) rfl ?_
    refine s_aloadN X1 hx (D d11_20) rfl rfl ?_
    refine st3 _ ?_
    refine s_iloadN X3 hx (D d11_24) rfl ?_
    refine s_aloadN X3 hx (D d11_25) rfl rfl ?_
    refine st4 _ ?_
    refine s_iload X4 hx (D d11_29) rfl ?_
    refine X4.iaload hx (j := (0 : Int32)) (v := (.int en0)) (by rw [e4]; exact (Ar5).1) (State.isArrayOf_alike hZ.alike (Ar5).2.1) (Ar5).2.2 hin5 (H5.at hin5 rfl) (g := (mkF m 31 #[.val (.ref hp), .val (.int (2 : Int32)), .val (.int en2), .val (.int (2 : Int32)), .val (.int (0 : Int32))] [(.int (0 : Int32)), (.ref aE), (.int en2), (.ref lo)])) rfl rfl (D d11_31) _ ?_
    refine so6 _ ?_
    exact Steps.refl _)
  by_cases hc8 : r__6 = (0 : Int32)
  · have f9 := (E_hp.keep K6)
    have f10 := (F_hp_order.keep K6 nin0)
    have f11 := (F_hp_entries.keep K6 nin0)
    have f12 := (F_hp_positions.keep K6 nin0)
    have f13 := (V_aE.keep K6 nin0)
    have f14 := (V_aP.keep K6 nin0)
    obtain ⟨cq15, q15, q15'⟩ := f9.cell
    obtain ⟨_, _, ⟨T15, L15, k15, n15⟩, -, X15, ⟨Lc15, hQ15, l15, y15, z15⟩, st15⟩ := Xc6.privateBack hx (y := (⟨"com/example/leasewise/leasewise/IndexedHeap", "place", "(II)V"⟩ : MethodName)) hown (mvT hZ (wd 92 rfl)) (mvT hZ (wd 93 rfl)) (own_selpriv (y := (⟨"com/example/leasewise/leasewise/IndexedHeap", "place", "(II)V"⟩ : MethodName)) (mvT hZ (wd 59 rfl)) rfl (Cond.privateMethod_at (mvP hZ (wd 94 rfl) (args := #[]))) (mvT hZ (wd 93 rfl)) (by decide)) (Cond.privateMethod_at (mvP hZ (wd 94 rfl) (args := #[]))) (mvT hZ (wd 95 rfl)) (by decide) (own_backH (W := 0) (rm_place_2 l Z a0 hw [] hp en2 kq aF aO aW aK aB aA aI lo aE aP kE kP en0 en1 en2 en3 po0 po1 po2 po3 T6.heap n0 O6 f9 f10 f11 f12 f13 f14 g_aE g_aP NDp (own_en_2 HI0 hlt)) hZH (wd 95 rfl) (wd 33 rfl) (by decide) (by decide)) (g := (mkF m 64 #[.val (.ref hp), .val (.int (2 : Int32)), .val (.int en2), .val (.int (2 : Int32)), .val (.int (0 : Int32))] [(.int (2 : Int32)), (.int en2), (.ref hp)])) rfl (by rw [hml]; rfl) (Steps.refl _) (a := hp) (by rw [eo6]; exact q15) q15' (argsL := [(.int en2), (.int (2 : Int32))]) (rest := []) (lenOf pd_1 rfl) rfl (by show 2 * 0 + _ ≤ _; exact Nat.le_of_eq rfl) (D d11_64) (fun _ _ => ⟨rfl, eo6, (by decide : 0 + 0 ≤ _), (by decide : 0 + 0 ≤ _)⟩)
    dsimp only [Pt.U, Pt.locs, Pt.cells, Pt.slots] at X15 l15 y15 z15 st15 hQ15
    subst l15 y15 z15
    obtain ⟨rfl, N15q, K15, Q15_0, Q15_1⟩ := hQ15
    have O15 := O6.keep K15 (allS g_aE (allS g_aP all0))
    have KK15 : Keep h0 T15.heap [aE, aP] := KK6.trans K15 (allS (own_mem 0 rfl) (allS (own_mem 1 rfl) all0))
    have N15 := Fr.app N6 N15q
    obtain ⟨fs, hr, hrun, hended, hW, hsame⟩ := X15.leave (v := some (.int (2 : Int32))) (fun h => by rw [Bd.returns] at h; cases h)
    refine ⟨_, _, pre0 _ ?_, hrun, hended, _, _, rfl, ?_, ⟨_, rfl⟩, hW, hsame.mono (by decide) (by decide)⟩
    · refine cs7.trans ?_
      refine s_ifNo Xc6 hx (D d11_37) ((if0 _ _).trans (teq hc8).2) ?_
      refine s_goto Xc6 hx 61 (D d11_40) (of_decide_eq_true rfl) rfl ?_
      refine s_aloadN Xc6 hx (D d11_61) rfl rfl ?_
      refine s_iloadN Xc6 hx (D d11_62) rfl ?_
      refine s_iloadN Xc6 hx (D d11_63) rfl ?_
      refine st15.trans ?_
      refine s_iloadN X15 hx (D d11_67) rfl ?_
      exact retI X15 hx Bd.returns (D d11_68) hr
    · show Q_rm_up_3 Z hp (2 : Int32) kq aF aO aW aK aB aA aI lo aE aP cK kK kE kP sz en0 en1 en2 en3 po0 po1 po2 po3 h0 n0 _ T15.heap _
      exact ⟨en0, en1, en2, en3, (s4 en2 0 (2 : Int32) po0), (s4 en2 1 (2 : Int32) po1), (s4 en2 2 (2 : Int32) po2), (s4 en2 3 (2 : Int32) po3), (2 : Int32), rfl, N15, KK15, Q15_0, Q15_1, (own_l6 HI0 hlt), ⟨own_i2, hlt⟩⟩
  · have f16 := (F_hp_entries.keep K6 nin0)
    obtain ⟨T17, X17, e17, st17⟩ := getF Xc6 hx hZ hown (host := "") (Or.inl (wd 44 rfl)) Via.refl eo6 f16 (g := (mkF m 45 #[.val (.ref hp), .val (.int (2 : Int32)), .val (.int en2), .val (.int (2 : Int32)), .val (.int (0 : Int32))] [(.ref hp), (.ref hp)])) rfl rfl (D d11_45)
    have f19 := (V_aE.keep K6 nin0)
    obtain ⟨cl18, Ar18, q18, S18, Nn18, H18, G18⟩ := id f19
    have hin18 : ¬ ((0 : Int32) < 0 ∨ cl18.slots.size ≤ ((0 : Int32)).toNatClampNeg) := inb_of S18 ⟨by decide, by decide⟩
    have f20 := (E_hp.keep K6)
    have f21 := (F_hp_order.keep K6 nin0)
    have f22 := (F_hp_positions.keep K6 nin0)
    have f23 := (V_aP.keep K6 nin0)
    obtain ⟨cq24, q24, q24'⟩ := f20.cell
    obtain ⟨_, _, ⟨T24, L24, k24, n24⟩, -, X24, ⟨Lc24, hQ24, l24, y24, z24⟩, st24⟩ := X17.privateBack hx (y := (⟨"com/example/leasewise/leasewise/IndexedHeap", "place", "(II)V"⟩ : MethodName)) hown (mvT hZ (wd 92 rfl)) (mvT hZ (wd 93 rfl)) (own_selpriv (y := (⟨"com/example/leasewise/leasewise/IndexedHeap", "place", "(II)V"⟩ : MethodName)) (mvT hZ (wd 59 rfl)) rfl (Cond.privateMethod_at (mvP hZ (wd 94 rfl) (args := #[]))) (mvT hZ (wd 93 rfl)) (by decide)) (Cond.privateMethod_at (mvP hZ (wd 94 rfl) (args := #[]))) (mvT hZ (wd 95 rfl)) (by decide) (own_backH (W := 0) (rm_place_2 l Z a0 hw [] hp en0 kq aF aO aW aK aB aA aI lo aE aP kE kP en0 en1 en2 en3 po0 po1 po2 po3 T6.heap n0 O6 f20 f21 f16 f22 f19 f23 g_aE g_aP NDp (own_en_0 HI0 (Int32.lt_trans (by decide) hlt))) hZH (wd 95 rfl) (wd 33 rfl) (by decide) (by decide)) (g := (mkF m 52 #[.val (.ref hp), .val (.int (2 : Int32)), .val (.int en2), .val (.int (2 : Int32)), .val (.int (0 : Int32))] [(.int (2 : Int32)), (.int en0), (.ref hp)])) rfl (by rw [hml]; rfl) (Steps.refl _) (a := hp) (by rw [e17]; exact q24) q24' (argsL := [(.int en0), (.int (2 : Int32))]) (rest := []) (lenOf pd_1 rfl) rfl (by show 2 * 0 + _ ≤ _; exact Nat.le_of_eq rfl) (D d11_52) (fun _ _ => ⟨rfl, e17, (by decide : 0 + 0 ≤ _), (by decide : 0 + 0 ≤ _)⟩)
    dsimp only [Pt.U, Pt.locs, Pt.cells, Pt.slots] at X24 l24 y24 z24 st24 hQ24
    subst l24 y24 z24
    obtain ⟨rfl, N24q, K24, Q24_0, Q24_1⟩ := hQ24
    have O24 := O6.keep K24 (allS g_aE (allS g_aP all0))
    have KK24 : Keep h0 T24.heap [aE, aP] := KK6.trans K24 (allS (own_mem 0 rfl) (allS (own_mem 1 rfl) all0))
    have N24 := Fr.app N6 N24q
    have f25 := (f20.keep K24)
    have f26 := (f21.keep K24 (nn3 NDp))
    have f27 := (f16.keep K24 (nn3 NDp))
    have f28 := (f22.keep K24 (nn3 NDp))
    obtain ⟨cq29, q29, q29'⟩ := f25.cell
    obtain ⟨_, _, ⟨T29, L29, k29, n29⟩, -, X29, ⟨Lc29, hQ29, l29, y29, z29⟩, st29⟩ := X24.privateBack hx (y := (⟨"com/example/leasewise/leasewise/IndexedHeap", "place", "(II)V"⟩ : MethodName)) hown (mvT hZ (wd 92 rfl)) (mvT hZ (wd 93 rfl)) (own_selpriv (y := (⟨"com/example/leasewise/leasewise/IndexedHeap", "place", "(II)V"⟩ : MethodName)) (mvT hZ (wd 59 rfl)) rfl (Cond.privateMethod_at (mvP hZ (wd 94 rfl) (args := #[]))) (mvT hZ (wd 93 rfl)) (by decide)) (Cond.privateMethod_at (mvP hZ (wd 94 rfl) (args := #[]))) (mvT hZ (wd 95 rfl)) (by decide) (own_backH (W := 0) (rm_place_0 l Z a0 hw [] hp en2 kq aF aO aW aK aB aA aI lo aE aP kE kP en0 en1 en0 en3 (s4 en0 0 (2 : Int32) po0) (s4 en0 1 (2 : Int32) po1) (s4 en0 2 (2 : Int32) po2) (s4 en0 3 (2 : Int32) po3) T24.heap n0 O24 f25 f26 f27 f28 Q24_0 Q24_1 g_aE g_aP NDp (own_en_2 HI0 hlt)) hZH (wd 95 rfl) (wd 33 rfl) (by decide) (by decide)) (g := (mkF m 64 #[.val (.ref hp), .val (.int (2 : Int32)), .val (.int en2), .val (.int (0 : Int32)), .val (.int (0 : Int32))] [(.int (0 : Int32)), (.int en2), (.ref hp)])) rfl (by rw [hml]; rfl) (Steps.refl _) (a := hp) (by exact q29) q29' (argsL := [(.int en2), (.int (0 : Int32))]) (rest := []) (lenOf pd_1 rfl) rfl (by show 2 * 0 + _ ≤ _; exact Nat.le_of_eq rfl) (D d11_64) (fun _ _ => ⟨rfl, rfl, (by decide : 0 + 0 ≤ _), (by decide : 0 + 0 ≤ _)⟩)
    dsimp only [Pt.U, Pt.locs, Pt.cells, Pt.slots] at X29 l29 y29 z29 st29 hQ29
    subst l29 y29 z29
    obtain ⟨rfl, N29q, K29, Q29_0, Q29_1⟩ := hQ29
    have O29 := O24.keep K29 (allS g_aE (allS g_aP all0))
    have KK29 : Keep h0 T29.heap [aE, aP] := KK24.trans K29 (allS (own_mem 0 rfl) (allS (own_mem 1 rfl) all0))
    have N29 := Fr.app N24 N29q
    obtain ⟨fs, hr, hrun, hended, hW, hsame⟩ := X29.leave (v := some (.int (0 : Int32))) (fun h => by rw [Bd.returns] at h; cases h)
    refine ⟨_, _, pre0 _ ?_, hrun, hended, _, _, rfl, ?_, ⟨_, rfl⟩, hW, hsame.mono (by decide) (by decide)⟩
    · refine cs7.trans ?_
      refine s_ifYes Xc6 hx 43 (D d11_37) ((if0 _ _).trans (feq hc8).2) (of_decide_eq_true rfl) rfl ?_
      refine s_aloadN Xc6 hx (D d11_43) rfl rfl ?_
      refine s_aloadN Xc6 hx (D d11_44) rfl rfl ?_
      refine st17 _ ?_
      refine s_iload X17 hx (D d11_48) rfl ?_
      refine X17.iaload hx (j := (0 : Int32)) (v := (.int en0)) (by rw [e17]; exact (Ar18).1) (State.isArrayOf_alike hZ.alike (Ar18).2.1) (Ar18).2.2 hin18 (H18.at hin18 rfl) (g := (mkF m 50 #[.val (.ref hp), .val (.int (2 : Int32)), .val (.int en2), .val (.int (2 : Int32)), .val (.int (0 : Int32))] [(.int (0 : Int32)), (.ref aE), (.ref hp)])) rfl rfl (D d11_50) _ ?_
      refine s_iloadN X17 hx (D d11_51) rfl ?_
      refine st24.trans ?_
      refine s_iload X24 hx (D d11_55) rfl ?_
      refine s_istoreN X24 hx (D d11_57) (l' := #[.val (.ref hp), .val (.int (2 : Int32)), .val (.int en2), .val (.int (0 : Int32)), .val (.int (0 : Int32))]) rfl ?_
      refine s_goto X24 hx 9 (D d11_58) (of_decide_eq_true rfl) rfl ?_
      refine s_iloadN X24 hx (D d11_9) rfl ?_
      refine s_ifYes X24 hx 61 (D d11_10) ((if0 _ _).trans (flt (by decide : ¬ ((0 : Int32) < (0 : Int32)))).2.2.2) (of_decide_eq_true rfl) rfl ?_
      refine s_aloadN X24 hx (D d11_61) rfl rfl ?_
      refine s_iloadN X24 hx (D d11_62) rfl ?_
      refine s_iloadN X24 hx (D d11_63) rfl ?_
      refine st29.trans ?_
      refine s_iloadN X29 hx (D d11_67) rfl ?_
      exact retI X29 hx Bd.returns (D d11_68) hr
    · show Q_rm_up_3 Z hp (2 : Int32) kq aF aO aW aK aB aA aI lo aE aP cK kK kE kP sz en0 en1 en2 en3 po0 po1 po2 po3 h0 n0 _ T29.heap _
      exact ⟨en2, en1, en0, en3, (s4 en2 0 (0 : Int32) (s4 en0 0 (2 : Int32) po0)), (s4 en2 1 (0 : Int32) (s4 en0 1 (2 : Int32) po1)), (s4 en2 2 (0 : Int32) (s4 en0 2 (2 : Int32) po2)), (s4 en2 3 (0 : Int32) (s4 en0 3 (2 : Int32) po3)), (0 : Int32), rfl, N29, KK29, Q29_0, Q29_1, (own_l7 HI0 hlt), ⟨own_i0, (Int32.lt_trans (by decide) hlt)⟩⟩
theorem rm_up (l : Launch) (Z : State) (a0 : Array Value) (hw : ∀ d ∈ tables_1, d.before a0 Z = true) (ws : List Jvm.Cond) (hp : Addr) (pp : Int32) (kq aF aO aW aK aB aA aI lo aE aP : Addr) (cK kK kE kP : ClassId) (sz en0 en1 en2 en3 po0 po1 po2 po3 : Int32) (h0 : Heap) (n0 : Nat) (O0 : Old Z n0 h0) (E_hp : Exa Z h0 hp "com/example/leasewise/leasewise/IndexedHeap") (F_hp_order : Fld Z h0 hp "com/example/leasewise/leasewise/IndexedHeap" "order" "Lcom/example/leasewise/leasewise/IndexedHeap$Order;" (.ref lo)) (F_hp_entries : Fld Z h0 hp "com/example/leasewise/leasewise/IndexedHeap" "entries" "[I" (.ref aE)) (F_hp_positions : Fld Z h0 hp "com/example/leasewise/leasewise/IndexedHeap" "positions" "[I" (.ref aP)) (F_hp_size : Fld Z h0 hp "com/example/leasewise/leasewise/IndexedHeap" "size" "I" (.int sz)) (E_kq : Exa Z h0 kq "com/example/leasewise/leasewise/KilometreQueue") (F_kq_keys : Fld Z h0 kq "com/example/leasewise/leasewise/KilometreQueue" "keys" "[J" (.ref aK)) (MDc : Jvm.LamKit.Made Z "com/example/leasewise/leasewise/KilometreQueue" sgm cK) (V_aE : Arv Z h0 aE kE .int (4 : Int32) [(.int en0), (.int en1), (.int en2), (.int en3)] (.int (0 : Int32))) (V_aP : Arv Z h0 aP kP .int (4 : Int32) [(.int po0), (.int po1), (.int po2), (.int po3)] (.int (-1 : Int32))) (g_aE : n0 ≤ aE) (g_aP : n0 ≤ aP) (NDp : List.Nodup [kq, aF, aO, aW, aK, aB, aA, aI, hp, lo, aE, aP]) (HI0 : HI sz en0 en1 en2 en3 po0 po1 po2 po3) (hpp : I4 pp) (hlt : pp < sz) (V_aK : Arp Z h0 aK kK .long (4 : Int32) PJ) (Y_lo : LamO h0 lo cK kq) :
    MetFree l (⟨"com/example/leasewise/leasewise/IndexedHeap", "siftUp", "(I)I"⟩ : MethodName) (head1 (Jvm.Cond.code (⟨"com/example/leasewise/leasewise/IndexedHeap", "siftUp", "(I)I"⟩ : MethodName) prog_35_method_8_code 5 (some .int) :: ws) ({ frames := 2, cells := 0, slots := 0, locals := 28 } : Room)) (fun a U => a = #[(.ref hp), (.int pp)] ∧ Z.WarmedH U.vm ∧ U.heap = h0) (fun _ _ _ _ _ => True) (fun _ U o U' => ∃ v L, o = .returned v ∧ Q_rm_up_3 Z hp pp kq aF aO aW aK aB aA aI lo aE aP cK kK kE kP sz en0 en1 en2 en3 po0 po1 po2 po3 h0 n0 v U'.heap L ∧ FrameEnd U o U' L ({ frames := 2, cells := 0, slots := 0, locals := 28 } : Room).cells ({ frames := 2, cells := 0, slots := 0, locals := 28 } : Room).slots) := by
  rcases hpp with rfl | rfl | rfl | rfl
  · exact rm_up_0 l Z a0 hw ws hp (0 : Int32) kq aF aO aW aK aB aA aI lo aE aP cK kK kE kP sz en0 en1 en2 en3 po0 po1 po2 po3 h0 n0 O0 E_hp F_hp_order F_hp_entries F_hp_positions F_hp_size E_kq F_kq_keys MDc V_aE V_aP g_aE g_aP NDp HI0 rfl hlt V_aK Y_lo
  · exact rm_up_1 l Z a0 hw ws hp (1 : Int32) kq aF aO aW aK aB aA aI lo aE aP cK kK kE kP sz en0 en1 en2 en3 po0 po1 po2 po3 h0 n0 O0 E_hp F_hp_order F_hp_entries F_hp_positions F_hp_size E_kq F_kq_keys MDc V_aE V_aP g_aE g_aP NDp HI0 rfl hlt V_aK Y_lo
  · exact rm_up_2 l Z a0 hw ws hp (2 : Int32) kq aF aO aW aK aB aA aI lo aE aP cK kK kE kP sz en0 en1 en2 en3 po0 po1 po2 po3 h0 n0 O0 E_hp F_hp_order F_hp_entries F_hp_positions F_hp_size E_kq F_kq_keys MDc V_aE V_aP g_aE g_aP NDp HI0 rfl hlt V_aK Y_lo
  · exact rm_up_3 l Z a0 hw ws hp (3 : Int32) kq aF aO aW aK aB aA aI lo aE aP cK kK kE kP sz en0 en1 en2 en3 po0 po1 po2 po3 h0 n0 O0 E_hp F_hp_order F_hp_entries F_hp_positions F_hp_size E_kq F_kq_keys MDc V_aE V_aP g_aE g_aP NDp HI0 rfl hlt V_aK Y_lo
theorem d16_0 : decode prog_35_method_9_code 0 = .ok (.aload_n 0, 1) := by decide +kernel
theorem d16_1 : decode prog_35_method_9_code 1 = .ok (.getfield 13, 3) := by decide +kernel
theorem d16_4 : decode prog_35_method_9_code 4 = .ok (.iload_n 1, 1) := by decide +kernel
theorem d16_5 : decode prog_35_method_9_code 5 = .ok (.iaload, 1) := by decide +kernel
theorem d16_6 : decode prog_35_method_9_code 6 = .ok (.istore_n 2, 1) := by decide +kernel
theorem d16_7 : decode prog_35_method_9_code 7 = .ok (.iload_n 1, 1) := by decide +kernel
theorem d16_8 : decode prog_35_method_9_code 8 = .ok (.istore_n 3, 1) := by decide +kernel
theorem d16_9 : decode prog_35_method_9_code 9 = .ok (.iconst 2, 1) := by decide +kernel
theorem d16_10 : decode prog_35_method_9_code 10 = .ok (.iload_n 3, 1) := by decide +kernel
theorem d16_11 : decode prog_35_method_9_code 11 = .ok (.imul, 1) := by decide +kernel
theorem d16_12 : decode prog_35_method_9_code 12 = .ok (.iconst 1, 1) := by decide +kernel
theorem d16_13 : decode prog_35_method_9_code 13 = .ok (.iadd, 1) := by decide +kernel
theorem d16_14 : decode prog_35_method_9_code 14 = .ok (.istore 4, 2) := by decide +kernel
theorem d16_16 : decode prog_35_method_9_code 16 = .ok (.iload 4, 2) := by decide +kernel
theorem d16_18 : decode prog_35_method_9_code 18 = .ok (.aload_n 0, 1) := by decide +kernel
theorem d16_19 : decode prog_35_method_9_code 19 = .ok (.getfield 26, 3) := by decide +kernel
theorem d16_22 : decode prog_35_method_9_code 22 = .ok (.if_icmp .lt 6, 3) := by decide +kernel
theorem d16_25 : decode prog_35_method_9_code 25 = .ok (.goto 86, 3) := by decide +kernel
theorem d16_28 : decode prog_35_method_9_code 28 = .ok (.iload 4, 2) := by decide +kernel
theorem d16_30 : decode prog_35_method_9_code 30 = .ok (.iconst 1, 1) := by decide +kernel
theorem d16_31 : decode prog_35_method_9_code 31 = .ok (.iadd, 1) := by decide +kernel
theorem d16_32 : decode prog_35_method_9_code 32 = .ok (.aload_n 0, 1) := by decide +kernel
theorem d16_33 : decode prog_35_method_9_code 33 = .ok (.getfield 26, 3) := by decide +kernel
theorem d16_36 : decode prog_35_method_9_code 36 = .ok (.if_icmp .ge 34, 3) := by decide +kernel
theorem d16_39 : decode prog_35_method_9_code 39 = .ok (.aload_n 0, 1) := by decide +kernel
theorem d16_40 : decode prog_35_method_9_code 40 = .ok (.getfield 7, 3) := by decide +kernel
theorem d16_43 : decode prog_35_method_9_code 43 = .ok (.aload_n 0, 1) := by decide +kernel
theorem d16_44 : decode prog_35_method_9_code 44 = .ok (.getfield 13, 3) := by decide +kernel
theorem d16_47 : decode prog_35_method_9_code 47 = .ok (.iload 4, 2) := by decide +kernel
theorem d16_49 : decode prog_35_method_9_code 49 = .ok (.iconst 1, 1) := by decide +kernel
theorem d16_50 : decode prog_35_method_9_code 50 = .ok (.iadd, 1) := by decide +kernel
theorem d16_51 : decode prog_35_method_9_code 51 = .ok (.iaload, 1) := by decide +kernel
theorem d16_52 : decode prog_35_method_9_code 52 = .ok (.aload_n 0, 1) := by decide +kernel
theorem d16_53 : decode prog_35_method_9_code 53 = .ok (.getfield 13, 3) := by decide +kernel
theorem d16_56 : decode prog_35_method_9_code 56 = .ok (.iload 4, 2) := by decide +kernel
theorem d16_58 : decode prog_35_method_9_code 58 = .ok (.iaload, 1) := by decide +kernel
theorem d16_59 : decode prog_35_method_9_code 59 = .ok (.invokeinterface 56 3, 5) := by decide +kernel
theorem d16_64 : decode prog_35_method_9_code 64 = .ok (.ifCond .eq 6, 3) := by decide +kernel
theorem d16_67 : decode prog_35_method_9_code 67 = .ok (.iinc 4 1, 3) := by decide +kernel
theorem d16_70 : decode prog_35_method_9_code 70 = .ok (.aload_n 0, 1) := by decide +kernel
theorem d16_71 : decode prog_35_method_9_code 71 = .ok (.getfield 7, 3) := by decide +kernel
theorem d16_74 : decode prog_35_method_9_code 74 = .ok (.aload_n 0, 1) := by decide +kernel
theorem d16_75 : decode prog_35_method_9_code 75 = .ok (.getfield 13, 3) := by decide +kernel
theorem d16_78 : decode prog_35_method_9_code 78 = .ok (.iload 4, 2) := by decide +kernel
theorem d16_80 : decode prog_35_method_9_code 80 = .ok (.iaload, 1) := by decide +kernel
theorem d16_81 : decode prog_35_method_9_code 81 = .ok (.iload_n 2, 1) := by decide +kernel
theorem d16_82 : decode prog_35_method_9_code 82 = .ok (.invokeinterface 56 3, 5) := by decide +kernel
theorem d16_87 : decode prog_35_method_9_code 87 = .ok (.ifCond .ne 6, 3) := by decide +kernel
theorem d16_90 : decode prog_35_method_9_code 90 = .ok (.goto 21, 3) := by decide +kernel
theorem d16_93 : decode prog_35_method_9_code 93 = .ok (.aload_n 0, 1) := by decide +kernel
theorem d16_94 : decode prog_35_method_9_code 94 = .ok (.aload_n 0, 1) := by decide +kernel
theorem d16_95 : decode prog_35_method_9_code 95 = .ok (.getfield 13, 3) := by decide +kernel
theorem d16_98 : decode prog_35_method_9_code 98 = .ok (.iload 4, 2) := by decide +kernel
theorem d16_100 : decode prog_35_method_9_code 100 = .ok (.iaload, 1) := by decide +kernel
theorem d16_101 : decode prog_35_method_9_code 101 = .ok (.iload_n 3, 1) := by decide +kernel
theorem d16_102 : decode prog_35_method_9_code 102 = .ok (.invokevirtual 62, 3) := by decide +kernel
theorem d16_105 : decode prog_35_method_9_code 105 = .ok (.iload 4, 2) := by decide +kernel
theorem d16_107 : decode prog_35_method_9_code 107 = .ok (.istore_n 3, 1) := by decide +kernel
theorem d16_108 : decode prog_35_method_9_code 108 = .ok (.goto (-99), 3) := by decide +kernel
theorem d16_111 : decode prog_35_method_9_code 111 = .ok (.aload_n 0, 1) := by decide +kernel
theorem d16_112 : decode prog_35_method_9_code 112 = .ok (.iload_n 2, 1) := by decide +kernel
theorem d16_113 : decode prog_35_method_9_code 113 = .ok (.iload_n 3, 1) := by decide +kernel
theorem d16_114 : decode prog_35_method_9_code 114 = .ok (.invokevirtual 62, 3) := by decide +kernel
theorem d16_117 : decode prog_35_method_9_code 117 = .ok (.return_, 1) := by decide +kernel
theorem own_l8_k : ∀ L ∈ hAll, L.length = 3 → [(L.getD 0 0), (L.getD 1 0), (L.getD 2 0)] ∈ hAll ∧ hPos [(L.getD 0 0), (L.getD 1 0), (L.getD 2 0)] 0 = (s4 (L.getD 0 0) 0 (0 : Int32) (hPos L 0)) ∧ hPos [(L.getD 0 0), (L.getD 1 0), (L.getD 2 0)] 1 = (s4 (L.getD 0 0) 1 (0 : Int32) (hPos L 1)) ∧ hPos [(L.getD 0 0), (L.getD 1 0), (L.getD 2 0)] 2 = (s4 (L.getD 0 0) 2 (0 : Int32) (hPos L 2)) ∧ hPos [(L.getD 0 0), (L.getD 1 0), (L.getD 2 0)] 3 = (s4 (L.getD 0 0) 3 (0 : Int32) (hPos L 3)) ∧ ((s4 (L.getD 0 0) 0 (0 : Int32) (hPos L 0)) = -1 ↔ hPos L 0 = -1) ∧ ((s4 (L.getD 0 0) 1 (0 : Int32) (hPos L 1)) = -1 ↔ hPos L 1 = -1) ∧ ((s4 (L.getD 0 0) 2 (0 : Int32) (hPos L 2)) = -1 ↔ hPos L 2 = -1) ∧ ((s4 (L.getD 0 0) 3 (0 : Int32) (hPos L 3)) = -1 ↔ hPos L 3 = -1) := by decide +kernel
theorem own_l8 {e0 e1 e2 e3 p0 p1 p2 p3 : Int32} (H : HI (3 : Int32) e0 e1 e2 e3 p0 p1 p2 p3) : HI (3 : Int32) e0 e1 e2 e3 (s4 e0 0 (0 : Int32) p0) (s4 e0 1 (0 : Int32) p1) (s4 e0 2 (0 : Int32) p2) (s4 e0 3 (0 : Int32) p3) ∧ SM p0 p1 p2 p3 (s4 e0 0 (0 : Int32) p0) (s4 e0 1 (0 : Int32) p1) (s4 e0 2 (0 : Int32) p2) (s4 e0 3 (0 : Int32) p3) := by
  obtain ⟨L, hL, hn, h0, h1, h2, h3, rfl, rfl, rfl, rfl⟩ := H
  have hlen : L.length = 3 := own_hl3 L hL hn
  have g0 := h0 (by omega); subst g0
  have g1 := h1 (by omega); subst g1
  have g2 := h2 (by omega); subst g2
  have K := own_l8_k L hL hlen
  obtain ⟨k1, k2, k3, k4, k5, k6⟩ := K
  refine ⟨⟨[(L.getD 0 0), (L.getD 1 0), (L.getD 2 0)], k1, rfl, ?_, ?_, ?_, ?_, k2.symm, k3.symm, k4.symm, k5.symm⟩, k6⟩
  all_goals (intro hh; first | rfl | (exfalso; revert hh; decide) | (exfalso; simp at hh))
theorem own_l9_k : ∀ L ∈ hAll, L.length = 3 → [(L.getD 1 0), (L.getD 0 0), (L.getD 2 0)] ∈ hAll ∧ hPos [(L.getD 1 0), (L.getD 0 0), (L.getD 2 0)] 0 = (s4 (L.getD 0 0) 0 (1 : Int32) (s4 (L.getD 1 0) 0 (0 : Int32) (hPos L 0))) ∧ hPos [(L.getD 1 0), (L.getD 0 0), (L.getD 2 0)] 1 = (s4 (L.getD 0 0) 1 (1 : Int32) (s4 (L.getD 1 0) 1 (0 : Int32) (hPos L 1))) ∧ hPos [(L.getD 1 0), (L.getD 0 0), (L.getD 2 0)] 2 = (s4 (L.getD 0 0) 2 (1 : Int32) (s4 (L.getD 1 0) 2 (0 : Int32) (hPos L 2))) ∧ hPos [(L.getD 1 0), (L.getD 0 0), (L.getD 2 0)] 3 = (s4 (L.getD 0 0) 3 (1 : Int32) (s4 (L.getD 1 0) 3 (0 : Int32) (hPos L 3))) ∧ ((s4 (L.getD 0 0) 0 (1 : Int32) (s4 (L.getD 1 0) 0 (0 : Int32) (hPos L 0))) = -1 ↔ hPos L 0 = -1) ∧ ((s4 (L.getD 0 0) 1 (1 : Int32) (s4 (L.getD 1 0) 1 (0 : Int32) (hPos L 1))) = -1 ↔ hPos L 1 = -1) ∧ ((s4 (L.getD 0 0) 2 (1 : Int32) (s4 (L.getD 1 0) 2 (0 : Int32) (hPos L 2))) = -1 ↔ hPos L 2 = -1) ∧ ((s4 (L.getD 0 0) 3 (1 : Int32) (s4 (L.getD 1 0) 3 (0 : Int32) (hPos L 3))) = -1 ↔ hPos L 3 = -1) := by decide +kernel
theorem own_l9 {e0 e1 e2 e3 p0 p1 p2 p3 : Int32} (H : HI (3 : Int32) e0 e1 e2 e3 p0 p1 p2 p3) : HI (3 : Int32) e1 e0 e2 e3 (s4 e0 0 (1 : Int32) (s4 e1 0 (0 : Int32) p0)) (s4 e0 1 (1 : Int32) (s4 e1 1 (0 : Int32) p1)) (s4 e0 2 (1 : Int32) (s4 e1 2 (0 : Int32) p2)) (s4 e0 3 (1 : Int32) (s4 e1 3 (0 : Int32) p3)) ∧ SM p0 p1 p2 p3 (s4 e0 0 (1 : Int32) (s4 e1 0 (0 : Int32) p0)) (s4 e0 1 (1 : Int32) (s4 e1 1 (0 : Int32) p1)) (s4 e0 2 (1 : Int32) (s4 e1 2 (0 : Int32) p2)) (s4 e0 3 (1 : Int32) (s4 e1 3 (0 : Int32) p3)) := by
  obtain ⟨L, hL, hn, h0, h1, h2, h3, rfl, rfl, rfl, rfl⟩ := H
  have hlen : L.length = 3 := own_hl3 L hL hn
  have g0 := h0 (by omega); subst g0
  have g1 := h1 (by omega); subst g1
  have g2 := h2 (by omega); subst g2
  have K := own_l9_k L hL hlen
  obtain ⟨k1, k2, k3, k4, k5, k6⟩ := K
  refine ⟨⟨[(L.getD 1 0), (L.getD 0 0), (L.getD 2 0)], k1, rfl, ?_, ?_, ?_, ?_, k2.symm, k3.symm, k4.symm, k5.symm⟩, k6⟩
  all_goals (intro hh; first | rfl | (exfalso; revert hh; decide) | (exfalso; simp at hh))
theorem own_l10_k : ∀ L ∈ hAll, L.length = 3 → [(L.getD 2 0), (L.getD 1 0), (L.getD 0 0)] ∈ hAll ∧ hPos [(L.getD 2 0), (L.getD 1 0), (L.getD 0 0)] 0 = (s4 (L.getD 0 0) 0 (2 : Int32) (s4 (L.getD 2 0) 0 (0 : Int32) (hPos L 0))) ∧ hPos [(L.getD 2 0), (L.getD 1 0), (L.getD 0 0)] 1 = (s4 (L.getD 0 0) 1 (2 : Int32) (s4 (L.getD 2 0) 1 (0 : Int32) (hPos L 1))) ∧ hPos [(L.getD 2 0), (L.getD 1 0), (L.getD 0 0)] 2 = (s4 (L.getD 0 0) 2 (2 : Int32) (s4 (L.getD 2 0) 2 (0 : Int32) (hPos L 2))) ∧ hPos [(L.getD 2 0), (L.getD 1 0), (L.getD 0 0)] 3 = (s4 (L.getD 0 0) 3 (2 : Int32) (s4 (L.getD 2 0) 3 (0 : Int32) (hPos L 3))) ∧ ((s4 (L.getD 0 0) 0 (2 : Int32) (s4 (L.getD 2 0) 0 (0 : Int32) (hPos L 0))) = -1 ↔ hPos L 0 = -1) ∧ ((s4 (L.getD 0 0) 1 (2 : Int32) (s4 (L.getD 2 0) 1 (0 : Int32) (hPos L 1))) = -1 ↔ hPos L 1 = -1) ∧ ((s4 (L.getD 0 0) 2 (2 : Int32) (s4 (L.getD 2 0) 2 (0 : Int32) (hPos L 2))) = -1 ↔ hPos L 2 = -1) ∧ ((s4 (L.getD 0 0) 3 (2 : Int32) (s4 (L.getD 2 0) 3 (0 : Int32) (hPos L 3))) = -1 ↔ hPos L 3 = -1) := by decide +kernel
theorem own_l10 {e0 e1 e2 e3 p0 p1 p2 p3 : Int32} (H : HI (3 : Int32) e0 e1 e2 e3 p0 p1 p2 p3) : HI (3 : Int32) e2 e1 e0 e3 (s4 e0 0 (2 : Int32) (s4 e2 0 (0 : Int32) p0)) (s4 e0 1 (2 : Int32) (s4 e2 1 (0 : Int32) p1)) (s4 e0 2 (2 : Int32) (s4 e2 2 (0 : Int32) p2)) (s4 e0 3 (2 : Int32) (s4 e2 3 (0 : Int32) p3)) ∧ SM p0 p1 p2 p3 (s4 e0 0 (2 : Int32) (s4 e2 0 (0 : Int32) p0)) (s4 e0 1 (2 : Int32) (s4 e2 1 (0 : Int32) p1)) (s4 e0 2 (2 : Int32) (s4 e2 2 (0 : Int32) p2)) (s4 e0 3 (2 : Int32) (s4 e2 3 (0 : Int32) p3)) := by
  obtain ⟨L, hL, hn, h0, h1, h2, h3, rfl, rfl, rfl, rfl⟩ := H
  have hlen : L.length = 3 := own_hl3 L hL hn
  have g0 := h0 (by omega); subst g0
  have g1 := h1 (by omega); subst g1
  have g2 := h2 (by omega); subst g2
  have K := own_l10_k L hL hlen
  obtain ⟨k1, k2, k3, k4, k5, k6⟩ := K
  refine ⟨⟨[(L.getD 2 0), (L.getD 1 0), (L.getD 0 0)], k1, rfl, ?_, ?_, ?_, ?_, k2.symm, k3.symm, k4.symm, k5.symm⟩, k6⟩
  all_goals (intro hh; first | rfl | (exfalso; revert hh; decide) | (exfalso; simp at hh))
theorem ef_rm_down_03 (m : MethodId) (x0 : Addr) (x1 : Int32) : entryFrame m #[(.ref x0), (.int x1)] 5 = mkF m 0 #[.val (.ref x0), .val (.int x1), .unset, .unset, .unset] [] := by first | (simp [entryFrame, mkF, argsToLocals, Value.category]; done) | rfl
def Q_rm_down_03 (Z : State) (hp : Addr) (pp : Int32) (kq aF aO aW aK aB aA aI lo aE aP : Addr) (cK kK kE kP : ClassId) (sz en0 en1 en2 en3 po0 po1 po2 po3 : Int32) (h0 : Heap) (n0 : Nat) (v : Option Value) (h : Heap) (L : List Loc) : Prop := ∃ (ve0 : Int32) (ve1 : Int32) (ve2 : Int32) (ve3 : Int32) (vp0 : Int32) (vp1 : Int32) (vp2 : Int32) (vp3 : Int32), v = none ∧ Fr n0 L ∧ Keep h0 h [aE, aP] ∧ Arv Z h aE kE .int (4 : Int32) [(.int ve0), (.int ve1), (.int ve2), (.int ve3)] (.int (0 : Int32)) ∧ Arv Z h aP kP .int (4 : Int32) [(.int vp0), (.int vp1), (.int vp2), (.int vp3)] (.int (-1 : Int32)) ∧ (HI sz ve0 ve1 ve2 ve3 vp0 vp1 vp2 vp3 ∧ SM po0 po1 po2 po3 vp0 vp1 vp2 vp3)
set_option maxRecDepth 65536 in
set_option maxHeartbeats 40000000 in
theorem rm_down_03 (l : Launch) (Z : State) (a0 : Array Value) (hw : ∀ d ∈ tables_1, d.before a0 Z = true) (ws : List Jvm.Cond) (hp : Addr) (pp : Int32) (kq aF aO aW aK aB aA aI lo aE aP : Addr) (cK kK kE kP : ClassId) (sz en0 en1 en2 en3 po0 po1 po2 po3 : Int32) (h0 : Heap) (n0 : Nat) (O0 : Old Z n0 h0) (E_hp : Exa Z h0 hp "com/example/leasewise/leasewise/IndexedHeap") (F_hp_order : Fld Z h0 hp "com/example/leasewise/leasewise/IndexedHeap" "order" "Lcom/example/leasewise/leasewise/IndexedHeap$Order;" (.ref lo)) (F_hp_entries : Fld Z h0 hp "com/example/leasewise/leasewise/IndexedHeap" "entries" "[I" (.ref aE)) (F_hp_positions : Fld Z h0 hp "com/example/leasewise/leasewise/IndexedHeap" "positions" "[I" (.ref aP)) (F_hp_size : Fld Z h0 hp "com/example/leasewise/leasewise/IndexedHeap" "size" "I" (.int sz)) (E_kq : Exa Z h0 kq "com/example/leasewise/leasewise/KilometreQueue") (F_kq_keys : Fld Z h0 kq "com/example/leasewise/leasewise/KilometreQueue" "keys" "[J" (.ref aK)) (MDc : Jvm.LamKit.Made Z "com/example/leasewise/leasewise/KilometreQueue" sgm cK) (V_aE : Arv Z h0 aE kE .int (4 : Int32) [(.int en0), (.int en1), (.int en2), (.int en3)] (.int (0 : Int32))) (V_aP : Arv Z h0 aP kP .int (4 : Int32) [(.int po0), (.int po1), (.int po2), (.int po3)] (.int (-1 : Int32))) (g_aE : n0 ≤ aE) (g_aP : n0 ≤ aP) (NDp : List.Nodup [kq, aF, aO, aW, aK, aB, aA, aI, hp, lo, aE, aP]) (HI0 : HI sz en0 en1 en2 en3 po0 po1 po2 po3) (hpp : pp = (0 : Int32)) (hsz : sz = (3 : Int32)) (V_aK : Arp Z h0 aK kK .long (4 : Int32) PJ) (Y_lo : LamO h0 lo cK kq) :
    MetFree l (⟨"com/example/leasewise/leasewise/IndexedHeap", "siftDown", "(I)V"⟩ : MethodName) (head1 (Jvm.Cond.code (⟨"com/example/leasewise/leasewise/IndexedHeap", "siftDown", "(I)V"⟩ : MethodName) prog_35_method_9_code 5 none :: ws) ({ frames := 2, cells := 0, slots := 0, locals := 28 } : Room)) (fun a U => a = #[(.ref hp), (.int pp)] ∧ Z.WarmedH U.vm ∧ U.heap = h0) (fun _ _ _ _ _ => True) (fun _ U o U' => ∃ v L, o = .returned v ∧ Q_rm_down_03 Z hp pp kq aF aO aW aK aB aA aI lo aE aP cK kK kE kP sz en0 en1 en2 en3 po0 po1 po2 po3 h0 n0 v U'.heap L ∧ FrameEnd U o U' L ({ frames := 2, cells := 0, slots := 0, locals := 28 } : Room).cells ({ frames := 2, cells := 0, slots := 0, locals := 28 } : Room).slots) := by
  refine MetFree.of_bodySF (plainFor_of_name pn_1) hisR ?_
  intro p e s m args below meth c s₁ Bd hml0 hP hK
  obtain ⟨rfl, hZH, hh⟩ := hP
  have hZ := hZH.wide
  have hx := Bd.exec
  have hby := Bd.bytes
  have D := fun {pc : Nat} {r : Except ClassFile.DecodeError (ClassFile.Instr × Nat)} (q : decode prog_35_method_9_code pc = r) => hb (pc := pc) hby q
  have hml : c.maxLocals = 5 := hml0
  have hown : s.vm.findClass "com/example/leasewise/leasewise/IndexedHeap" = some m.cls := findClass_of_methodNamed Bd.named
  have hnm := (name_of_methodNamed Bd.named Bd.method).1
  have X0 : Stand p l e ({ frames := 2, cells := 0, slots := 0, locals := 28 } : Room) s m #[(.ref hp), (.int pp)] below meth c s₁ [] 0 0 := Stand.of_body Bd
  have e0 : s₁.heap = h0 := by rw [← hh, Bd.state]; rfl
  have N0 := Fr.nil n0
  have pre0 : ∀ t, Steps p.tables e below (s₁.setTop (mkF m 0 #[.val (.ref hp), .val (.int pp), .unset, .unset, .unset] [])) t → Steps p.tables e below (s₁.setTop (entryFrame m #[(.ref hp), (.int pp)] 5)) t := fun t k => castTop (ef_rm_down_03 m (hp) (pp)) k
  have wd := fun {d : Jvm.Cond} (i : Nat) (h : tables_1[i]? = some d) => hw d (List.mem_of_getElem? h)
  subst hpp hsz
  obtain ⟨T1, X1, e1, st1⟩ := getF X0 hx hZ hown (host := "") (Or.inl (wd 44 rfl)) Via.refl e0 F_hp_entries (g := (mkF m 1 #[.val (.ref hp), .val (.int (0 : Int32)), .unset, .unset, .unset] [(.ref hp)])) rfl rfl (D d16_1)
  obtain ⟨cl2, Ar2, q2, S2, Nn2, H2, G2⟩ := id V_aE
  have hin2 : ¬ ((0 : Int32) < 0 ∨ cl2.slots.size ≤ ((0 : Int32)).toNatClampNeg) := inb_of S2 ⟨by decide, by decide⟩
  obtain ⟨T3, X3, e3, st3⟩ := getF X1 hx hZ hown (host := "") (Or.inl (wd 86 rfl)) Via.refl e1 F_hp_size (g := (mkF m 19 #[.val (.ref hp), .val (.int (0 : Int32)), .val (.int en0), .val (.int (0 : Int32)), .val (.int (1 : Int32))] [(.ref hp), (.int (1 : Int32))])) rfl rfl (D d16_19)
  obtain ⟨T4, X4, e4, st4⟩ := getF X3 hx hZ hown (host := "") (Or.inl (wd 86 rfl)) Via.refl e3 F_hp_size (g := (mkF m 33 #[.val (.ref hp), .val (.int (0 : Int32)), .val (.int en0), .val (.int (0 : Int32)), .val (.int (1 : Int32))] [(.ref hp), (.int (2 : Int32))])) rfl rfl (D d16_33)
  obtain ⟨T5, X5, e5, st5⟩ := getF X4 hx hZ hown (host := "") (Or.inl (wd 42 rfl)) Via.refl e4 F_hp_order (g := (mkF m 40 #[.val (.ref hp), .val (.int (0 : Int32)), .val (.int en0), .val (.int (0 : Int32)), .val (.int (1 : Int32))] [(.ref hp)])) rfl rfl (D d16_40)
  obtain ⟨T6, X6, e6, st6⟩ := getF X5 hx hZ hown (host := "") (Or.inl (wd 44 rfl)) Via.refl e5 F_hp_entries (g := (mkF m 44 #[.val (.ref hp), .val (.int (0 : Int32)), .val (.int en0), .val (.int (0 : Int32)), .val (.int (1 : Int32))] [(.ref hp), (.ref lo)])) rfl rfl (D d16_44)
  obtain ⟨cl7, Ar7, q7, S7, Nn7, H7, G7⟩ := id V_aE
  have hin7 : ¬ ((2 : Int32) < 0 ∨ cl7.slots.size ≤ ((2 : Int32)).toNatClampNeg) := inb_of S7 ⟨by decide, by decide⟩
  obtain ⟨T8, X8, e8, st8⟩ := getF X6 hx hZ hown (host := "") (Or.inl (wd 44 rfl)) Via.refl e6 F_hp_entries (g := (mkF m 53 #[.val (.ref hp), .val (.int (0 : Int32)), .val (.int en0), .val (.int (0 : Int32)), .val (.int (1 : Int32))] [(.ref hp), (.int en2), (.ref lo)])) rfl rfl (D d16_53)
  obtain ⟨cl9, Ar9, q9, S9, Nn9, H9, G9⟩ := id V_aE
  have hin9 : ¬ ((1 : Int32) < 0 ∨ cl9.slots.size ≤ ((1 : Int32)).toNatClampNeg) := inb_of S9 ⟨by decide, by decide⟩
  obtain ⟨cy10, yc10, yk10, yv10, ys10⟩ := id Y_lo
  obtain ⟨mk10, ck10, U10, sb10, Y10, hb10, hm10, hr10, hZ10, eU10, out10⟩ := own_enter X8 hx hZH (host := "com/example/leasewise/leasewise/KilometreQueue") (σ := sgm) (xi := (⟨"com/example/leasewise/leasewise/IndexedHeap$Order", "before", "(II)Z"⟩ : MethodName)) hown (wd 96 rfl) (wd 97 rfl) (mvT hZ (wd 98 rfl)) (by decide +kernel) (by decide) MDc (LamO.fn Y_lo e8) own_fwdok (g := (mkF m 59 #[.val (.ref hp), .val (.int (0 : Int32)), .val (.int en0), .val (.int (0 : Int32)), .val (.int (1 : Int32))] [(.int en1), (.int en2), (.ref lo)])) rfl (by rw [hml]; rfl) (argsL := [(.int en2), (.int en1)]) (rest := []) (L0 := #[.val (.ref lo), .val (.int en2), .val (.int en1)]) (lenOf pd_0 rfl) rfl (D d16_59) (fun _ => by first | rfl | (simp [entryFrame, mkF, argsToLocals, Value.category]; done)) (R' := ({ frames := 1, cells := 0, slots := 0, locals := 14 } : Room)) (by decide) (Nat.le_of_ble_eq_true rfl) (by decide) (by decide)
  obtain ⟨_, ⟨T10, L10, k10, n10⟩, Yx10, ⟨Lc10, hQ10, l10, y10, z10⟩, sx10⟩ := own_fvp Y10 hx hZ10 MDc rfl own_refok (by decide) (wd 101 rfl) (own_selpriv (y := (⟨"com/example/leasewise/leasewise/KilometreQueue", "lambda$new$0", "(II)Z"⟩ : MethodName)) (wd 54 rfl) rfl (Cond.privateMethod_at (wd 100 rfl)) (wd 99 rfl) (by decide)) (wd 99 rfl) (own_backH (W := 0) (rm_lam l Z a0 hw [] kq en2 en1 aK kK h0 n0 O0 E_kq F_kq_keys (own_en_2 HI0 (by decide)) (own_en_1 HI0 (by decide)) V_aK) hZ10 (wd 101 rfl) (wd 2 rfl) (by decide) (by decide)) (eU10.trans e8) E_kq (g := mkF ⟨cK, 1⟩ 6 #[.val (.ref lo), .val (.int en2), .val (.int en1)] [(.int en1), (.int en2), .ref kq]) rfl (by rw [hm10]; rfl) (argsL := [(.int en2), (.int en1)]) (rest := []) (lenOf pd_0 rfl) rfl (by show 2 * 0 + _ ≤ _; exact Nat.le_of_eq rfl) (by rw [hb10]; exact own_f6) ⟨rfl, (eU10.trans e8), Nat.le_of_ble_eq_true rfl, Nat.le_of_ble_eq_true rfl⟩
  dsimp only [Pt.U, Pt.locs, Pt.cells, Pt.slots] at Yx10 l10 y10 z10 sx10 hQ10
  subst l10 y10 z10
  obtain ⟨r__10, rfl, N10q, K10, Q10_0⟩ := hQ10
  have O10 := O0.keep K10 all0
  have KK10 : Keep h0 T10.heap [aE, aP] := (Keep.refl h0 [aE, aP]).trans K10 all0
  have sf10 : Steps p.tables e (.java { (mkF m 59 #[.val (.ref hp), .val (.int (0 : Int32)), .val (.int en0), .val (.int (0 : Int32)), .val (.int (1 : Int32))] [(.int en1), (.int en2), (.ref lo)]) with stack := [] } :: below) (U10.setTop (mkF ⟨cK, 1⟩ 0 #[.val (.ref lo), .val (.int en2), .val (.int en1)] [])) (T10.setTop (mkF ⟨cK, 1⟩ 9 #[.val (.ref lo), .val (.int en2), .val (.int en1)] [(.int r__10)])) := by
    refine XS.aloadN Y10.here hx rfl (by rw [hb10]; exact own_f0) rfl rfl ?_
    refine getCap (s := Z) hx Y10.here (State.WarmedH.trans hZ10 Y10.warmed) MDc own_capok (wd 37 rfl) (by rw [(eU10.trans e8)]; exact yc10) yv10 ys10 rfl rfl (by rw [hb10]; exact own_f1) ?_
    refine XS.iloadN Y10.here hx rfl (by rw [hb10]; exact own_f4) rfl ?_
    refine XS.iloadN Y10.here hx rfl (by rw [hb10]; exact own_f5) rfl ?_
    exact sx10 _ (Steps.refl _)
  obtain ⟨Tc10, Xc10, eo10, so10⟩ := out10 T10 _ _ _ (some (.int r__10)) 9 #[.val (.ref lo), .val (.int en2), .val (.int en1)] .ireturn Yx10 (by rw [hb10]; exact own_f9) (Or.inl ⟨.boolean, _, rfl, Or.inr (Or.inl rfl), own_nb01 Q10_0, rfl, rfl⟩) sf10
  have N10 := Fr.app N0 (Fr.app (Fr.nil n0) N10q)
  have cs11 : Steps p.tables e below (s₁.setTop (mkF m 0 #[.val (.ref hp), .val (.int (0 : Int32)), .unset, .unset, .unset] [])) (Tc10.setTop (mkF m 64 #[.val (.ref hp), .val (.int (0 : Int32)), .val (.int en0), .val (.int (0 : Int32)), .val (.int (1 : Int32))] [(.int r__10)])) := (by
    refine s_aloadN X0 hx (D d16_0) rfl rfl ?_
    refine st1 _ ?_
    refine s_iloadN X1 hx (D d16_4) rfl ?_
    refine X1.iaload hx (j := (0 : Int32)) (v := (.int en0)) (by rw [e1]; exact (Ar2).1) (State.isArrayOf_alike hZ.alike (Ar2).2.1) (Ar2).2.2 hin2 (H2.at hin2 rfl) (g := (mkF m 5 #[.val (.ref hp), .val (.int (0 : Int32)), .unset, .unset, .unset] [(.int (0 : Int32)), (.ref aE)])) rfl rfl (D d16_5) _ ?_
    refine s_istoreN X1 hx (D d16_6) (l' := #[.val (.ref hp), .val (.int (0 : Int32)), .val (.int en0), .unset, .unset]) rfl ?_
    refine s_iloadN X1 hx (D d16_7) rfl ?_
    refine s_istoreN X1 hx (D d16_8) (l' := #[.val (.ref hp), .val (.int (0 : Int32)), .val (.int en0), .val (.int (0 : Int32)), .unset]) rfl ?_
    refine s_iconst X1 hx (2 : Int32) (D d16_9) rfl ?_
    refine s_iloadN X1 hx (D d16_10) rfl ?_
    refine s_imul X1 hx (D d16_11) (r := (0 : Int32)) (by decide) ?_
    refine s_iconst X1 hx (1 : Int32) (D d16_12) rfl ?_
    refine s_iadd X1 hx (D d16_13) (r := (1 : Int32)) (by decide) ?_
    refine s_istore X1 hx (D d16_14) (l' := #[.val (.ref hp), .val (.int (0 : Int32)), .val (.int en0), .val (.int (0 : Int32)), .val (.int (1 : Int32))]) rfl ?_
    refine s_iload X1 hx (D d16_16) rfl ?_
    refine s_aloadN X1 hx (D d16_18) rfl rfl ?_
    refine st3 _ ?_
    refine s_icmpYes X3 hx 28 (D d16_22) (tlt (by decide : (1 : Int32) < (3 : Int32))).1 (of_decide_eq_true rfl) rfl ?_
    refine s_iload X3 hx (D d16_28) rfl ?_
    refine s_iconst X3 hx (1 : Int32) (D d16_30) rfl ?_
    refine s_iadd X3 hx (D d16_31) (r := (2 : Int32)) (by decide) ?_
    refine s_aloadN X3 hx (D d16_32) rfl rfl ?_
    refine st4 _ ?_
    refine s_icmpNo X4 hx (D d16_36) (tlt (by decide : (2 : Int32) < (3 : Int32))).2.1 ?_
    refine s_aloadN X4 hx (D d16_39) rfl rfl ?_
    refine st5 _ ?_
    refine s_aloadN X5 hx (D d16_43) rfl rfl ?_
    refine st6 _ ?_
    refine s_iload X6 hx (D d16_47) rfl ?_
    refine s_iconst X6 hx (1 : Int32) (D d16_49) rfl ?_
    refine s_iadd X6 hx (D d16_50) (r := (2 : Int32)) (by decide) ?_
    refine X6.iaload hx (j := (2 : Int32)) (v := (.int en2)) (by rw [e6]; exact (Ar7).1) (State.isArrayOf_alike hZ.alike (Ar7).2.1) (Ar7).2.2 hin7 (H7.at hin7 rfl) (g := (mkF m 51 #[.val (.ref hp), .val (.int (0 : Int32)), .val (.int en0), .val (.int (0 : Int32)), .val (.int (1 : Int32))] [(.int (2 : Int32)), (.ref aE), (.ref lo)])) rfl rfl (D d16_51) _ ?_
    refine s_aloadN X6 hx (D d16_52) rfl rfl ?_
    refine st8 _ ?_
    refine s_iload X8 hx (D d16_56) rfl ?_
    refine X8.iaload hx (j := (1 : Int32)) (v := (.int en1)) (by rw [e8]; exact (Ar9).1) (State.isArrayOf_alike hZ.alike (Ar9).2.1) (Ar9).2.2 hin9 (H9.at hin9 rfl) (g := (mkF m 58 #[.val (.ref hp), .val (.int (0 : Int32)), .val (.int en0), .val (.int (0 : Int32)), .val (.int (1 : Int32))] [(.int (1 : Int32)), (.ref aE), (.int en2), (.ref lo)])) rfl rfl (D d16_58) _ ?_
    refine so10 _ ?_
    exact Steps.refl _)
  by_cases hc12 : r__10 = (0 : Int32)
  · have f13 := (F_hp_order.keep K10 nin0)
    obtain ⟨T14, X14, e14, st14⟩ := getF Xc10 hx hZ hown (host := "") (Or.inl (wd 42 rfl)) Via.refl eo10 f13 (g := (mkF m 71 #[.val (.ref hp), .val (.int (0 : Int32)), .val (.int en0), .val (.int (0 : Int32)), .val (.int (1 : Int32))] [(.ref hp)])) rfl rfl (D d16_71)
    have f15 := (F_hp_entries.keep K10 nin0)
    obtain ⟨T16, X16, e16, st16⟩ := getF X14 hx hZ hown (host := "") (Or.inl (wd 44 rfl)) Via.refl e14 f15 (g := (mkF m 75 #[.val (.ref hp), .val (.int (0 : Int32)), .val (.int en0), .val (.int (0 : Int32)), .val (.int (1 : Int32))] [(.ref hp), (.ref lo)])) rfl rfl (D d16_75)
    have f18 := (V_aE.keep K10 nin0)
    obtain ⟨cl17, Ar17, q17, S17, Nn17, H17, G17⟩ := id f18
    have hin17 : ¬ ((1 : Int32) < 0 ∨ cl17.slots.size ≤ ((1 : Int32)).toNatClampNeg) := inb_of S17 ⟨by decide, by decide⟩
    have f20 := (V_aK.keep K10 nin0)
    have f21 := (E_kq.keep K10)
    have f22 := (F_kq_keys.keep K10 nin0)
    have f23 := (Y_lo.keep K10 nin0)
    obtain ⟨cy19, yc19, yk19, yv19, ys19⟩ := id f23
    obtain ⟨mk19, ck19, U19, sb19, Y19, hb19, hm19, hr19, hZ19, eU19, out19⟩ := own_enter X16 hx hZH (host := "com/example/leasewise/leasewise/KilometreQueue") (σ := sgm) (xi := (⟨"com/example/leasewise/leasewise/IndexedHeap$Order", "before", "(II)Z"⟩ : MethodName)) hown (wd 96 rfl) (wd 97 rfl) (mvT hZ (wd 98 rfl)) (by decide +kernel) (by decide) MDc (LamO.fn f23 e16) own_fwdok (g := (mkF m 82 #[.val (.ref hp), .val (.int (0 : Int32)), .val (.int en0), .val (.int (0 : Int32)), .val (.int (1 : Int32))] [(.int en0), (.int en1), (.ref lo)])) rfl (by rw [hml]; rfl) (argsL := [(.int en1), (.int en0)]) (rest := []) (L0 := #[.val (.ref lo), .val (.int en1), .val (.int en0)]) (lenOf pd_0 rfl) rfl (D d16_82) (fun _ => by first | rfl | (simp [entryFrame, mkF, argsToLocals, Value.category]; done)) (R' := ({ frames := 1, cells := 0, slots := 0, locals := 14 } : Room)) (by decide) (Nat.le_of_ble_eq_true rfl) (by decide) (by decide)
    obtain ⟨_, ⟨T19, L19, k19, n19⟩, Yx19, ⟨Lc19, hQ19, l19, y19, z19⟩, sx19⟩ := own_fvp Y19 hx hZ19 MDc rfl own_refok (by decide) (wd 101 rfl) (own_selpriv (y := (⟨"com/example/leasewise/leasewise/KilometreQueue", "lambda$new$0", "(II)Z"⟩ : MethodName)) (wd 54 rfl) rfl (Cond.privateMethod_at (wd 100 rfl)) (wd 99 rfl) (by decide)) (wd 99 rfl) (own_backH (W := 0) (rm_lam l Z a0 hw [] kq en1 en0 aK kK T10.heap n0 O10 f21 f22 (own_en_1 HI0 (by decide)) (own_en_0 HI0 (by decide)) f20) hZ19 (wd 101 rfl) (wd 2 rfl) (by decide) (by decide)) (eU19.trans e16) f21 (g := mkF ⟨cK, 1⟩ 6 #[.val (.ref lo), .val (.int en1), .val (.int en0)] [(.int en0), (.int en1), .ref kq]) rfl (by rw [hm19]; rfl) (argsL := [(.int en1), (.int en0)]) (rest := []) (lenOf pd_0 rfl) rfl (by show 2 * 0 + _ ≤ _; exact Nat.le_of_eq rfl) (by rw [hb19]; exact own_f6) ⟨rfl, (eU19.trans e16), Nat.le_of_ble_eq_true rfl, Nat.le_of_ble_eq_true rfl⟩
    dsimp only [Pt.U, Pt.locs, Pt.cells, Pt.slots] at Yx19 l19 y19 z19 sx19 hQ19
    subst l19 y19 z19
    obtain ⟨r__19, rfl, N19q, K19, Q19_0⟩ := hQ19
    have O19 := O10.keep K19 all0
    have KK19 : Keep h0 T19.heap [aE, aP] := KK10.trans K19 all0
    have sf19 : Steps p.tables e (.java { (mkF m 82 #[.val (.ref hp), .val (.int (0 : Int32)), .val (.int en0), .val (.int (0 : Int32)), .val (.int (1 : Int32))] [(.int en0), (.int en1), (.ref lo)]) with stack := [] } :: below) (U19.setTop (mkF ⟨cK, 1⟩ 0 #[.val (.ref lo), .val (.int en1), .val (.int en0)] [])) (T19.setTop (mkF ⟨cK, 1⟩ 9 #[.val (.ref lo), .val (.int en1), .val (.int en0)] [(.int r__19)])) := by
      refine XS.aloadN Y19.here hx rfl (by rw [hb19]; exact own_f0) rfl rfl ?_
      refine getCap (s := Z) hx Y19.here (State.WarmedH.trans hZ19 Y19.warmed) MDc own_capok (wd 37 rfl) (by rw [(eU19.trans e16)]; exact yc19) yv19 ys19 rfl rfl (by rw [hb19]; exact own_f1) ?_
      refine XS.iloadN Y19.here hx rfl (by rw [hb19]; exact own_f4) rfl ?_
      refine XS.iloadN Y19.here hx rfl (by rw [hb19]; exact own_f5) rfl ?_
      exact sx19 _ (Steps.refl _)
    obtain ⟨Tc19, Xc19, eo19, so19⟩ := out19 T19 _ _ _ (some (.int r__19)) 9 #[.val (.ref lo), .val (.int en1), .val (.int en0)] .ireturn Yx19 (by rw [hb19]; exact own_f9) (Or.inl ⟨.boolean, _, rfl, Or.inr (Or.inl rfl), own_nb01 Q19_0, rfl, rfl⟩) sf19
    have N19 := Fr.app N10 (Fr.app (Fr.nil n0) N19q)
    have cs24 : Steps p.tables e below (s₁.setTop (mkF m 0 #[.val (.ref hp), .val (.int (0 : Int32)), .unset, .unset, .unset] [])) (Tc19.setTop (mkF m 87 #[.val (.ref hp), .val (.int (0 : Int32)), .val (.int en0), .val (.int (0 : Int32)), .val (.int (1 : Int32))] [(.int r__19)])) := cs11.trans (by
      refine s_ifYes Xc10 hx 70 (D d16_64) ((if0 _ _).trans (teq hc12).1) (of_decide_eq_true rfl) rfl ?_
      refine s_aloadN Xc10 hx (D d16_70) rfl rfl ?_
      refine st14 _ ?_
      refine s_aloadN X14 hx (D d16_74) rfl rfl ?_
      refine st16 _ ?_
      refine s_iload X16 hx (D d16_78) rfl ?_
      refine X16.iaload hx (j := (1 : Int32)) (v := (.int en1)) (by rw [e16]; exact (Ar17).1) (State.isArrayOf_alike hZ.alike (Ar17).2.1) (Ar17).2.2 hin17 (H17.at hin17 rfl) (g := (mkF m 80 #[.val (.ref hp), .val (.int (0 : Int32)), .val (.int en0), .val (.int (0 : Int32)), .val (.int (1 : Int32))] [(.int (1 : Int32)), (.ref aE), (.ref lo)])) rfl rfl (D d16_80) _ ?_
      refine s_iloadN X16 hx (D d16_81) rfl ?_
      refine so19 _ ?_
      exact Steps.refl _)
    by_cases hc25 : r__19 = (0 : Int32)
    · have f26 := ((E_hp.keep K10).keep K19)
      have f27 := (f13.keep K19 nin0)
      have f28 := (f15.keep K19 nin0)
      have f29 := ((F_hp_positions.keep K10 nin0).keep K19 nin0)
      have f30 := (f18.keep K19 nin0)
      have f31 := ((V_aP.keep K10 nin0).keep K19 nin0)
      obtain ⟨cq32, q32, q32'⟩ := f26.cell
      obtain ⟨_, _, ⟨T32, L32, k32, n32⟩, -, X32, ⟨Lc32, hQ32, l32, y32, z32⟩, st32⟩ := Xc19.privateBack hx (y := (⟨"com/example/leasewise/leasewise/IndexedHeap", "place", "(II)V"⟩ : MethodName)) hown (mvT hZ (wd 92 rfl)) (mvT hZ (wd 93 rfl)) (own_selpriv (y := (⟨"com/example/leasewise/leasewise/IndexedHeap", "place", "(II)V"⟩ : MethodName)) (mvT hZ (wd 59 rfl)) rfl (Cond.privateMethod_at (mvP hZ (wd 94 rfl) (args := #[]))) (mvT hZ (wd 93 rfl)) (by decide)) (Cond.privateMethod_at (mvP hZ (wd 94 rfl) (args := #[]))) (mvT hZ (wd 95 rfl)) (by decide) (own_backH (W := 0) (rm_place_0 l Z a0 hw [] hp en0 kq aF aO aW aK aB aA aI lo aE aP kE kP en0 en1 en2 en3 po0 po1 po2 po3 T19.heap n0 O19 f26 f27 f28 f29 f30 f31 g_aE g_aP NDp (own_en_0 HI0 (by decide))) hZH (wd 95 rfl) (wd 33 rfl) (by decide) (by decide)) (g := (mkF m 114 #[.val (.ref hp), .val (.int (0 : Int32)), .val (.int en0), .val (.int (0 : Int32)), .val (.int (1 : Int32))] [(.int (0 : Int32)), (.int en0), (.ref hp)])) rfl (by rw [hml]; rfl) (Steps.refl _) (a := hp) (by rw [eo19]; exact q32) q32' (argsL := [(.int en0), (.int (0 : Int32))]) (rest := []) (lenOf pd_1 rfl) rfl (by show 2 * 0 + _ ≤ _; exact Nat.le_of_eq rfl) (D d16_114) (fun _ _ => ⟨rfl, eo19, (by decide : 0 + 0 ≤ _), (by decide : 0 + 0 ≤ _)⟩)
      dsimp only [Pt.U, Pt.locs, Pt.cells, Pt.slots] at X32 l32 y32 z32 st32 hQ32
      subst l32 y32 z32
      obtain ⟨rfl, N32q, K32, Q32_0, Q32_1⟩ := hQ32
      have O32 := O19.keep K32 (allS g_aE (allS g_aP all0))
      have KK32 : Keep h0 T32.heap [aE, aP] := KK19.trans K32 (allS (own_mem 0 rfl) (allS (own_mem 1 rfl) all0))
      have N32 := Fr.app N19 N32q
      obtain ⟨fs, hr, hrun, hended, hW, hsame⟩ := X32.leave (v := none) (fun _ => rfl)
      refine ⟨_, _, pre0 _ ?_, hrun, hended, _, _, rfl, ?_, ⟨_, rfl⟩, hW, hsame.mono (by decide) (by decide)⟩
      · refine cs24.trans ?_
        refine s_ifNo Xc19 hx (D d16_87) ((if0 _ _).trans (teq hc25).2) ?_
        refine s_goto Xc19 hx 111 (D d16_90) (of_decide_eq_true rfl) rfl ?_
        refine s_aloadN Xc19 hx (D d16_111) rfl rfl ?_
        refine s_iloadN Xc19 hx (D d16_112) rfl ?_
        refine s_iloadN Xc19 hx (D d16_113) rfl ?_
        refine st32.trans ?_
        exact X32.returnOut hx Bd.returns (D d16_117) hr
      · show Q_rm_down_03 Z hp (0 : Int32) kq aF aO aW aK aB aA aI lo aE aP cK kK kE kP (3 : Int32) en0 en1 en2 en3 po0 po1 po2 po3 h0 n0 _ T32.heap _
        exact ⟨en0, en1, en2, en3, (s4 en0 0 (0 : Int32) po0), (s4 en0 1 (0 : Int32) po1), (s4 en0 2 (0 : Int32) po2), (s4 en0 3 (0 : Int32) po3), rfl, N32, KK32, Q32_0, Q32_1, (own_l8 HI0)⟩
    · have f33 := (f15.keep K19 nin0)
      obtain ⟨T34, X34, e34, st34⟩ := getF Xc19 hx hZ hown (host := "") (Or.inl (wd 44 rfl)) Via.refl eo19 f33 (g := (mkF m 95 #[.val (.ref hp), .val (.int (0 : Int32)), .val (.int en0), .val (.int (0 : Int32)), .val (.int (1 : Int32))] [(.ref hp), (.ref hp)])) rfl rfl (D d16_95)
      have f36 := (f18.keep K19 nin0)
      obtain ⟨cl35, Ar35, q35, S35, Nn35, H35, G35⟩ := id f36
      have hin35 : ¬ ((1 : Int32) < 0 ∨ cl35.slots.size ≤ ((1 : Int32)).toNatClampNeg) := inb_of S35 ⟨by decide, by decide⟩
      have f37 := ((E_hp.keep K10).keep K19)
      have f38 := (f13.keep K19 nin0)
      have f39 := ((F_hp_positions.keep K10 nin0).keep K19 nin0)
      have f40 := ((V_aP.keep K10 nin0).keep K19 nin0)
      obtain ⟨cq41, q41, q41'⟩ := f37.cell
      obtain ⟨_, _, ⟨T41, L41, k41, n41⟩, -, X41, ⟨Lc41, hQ41, l41, y41, z41⟩, st41⟩ := X34.privateBack hx (y := (⟨"com/example/leasewise/leasewise/IndexedHeap", "place", "(II)V"⟩ : MethodName)) hown (mvT hZ (wd 92 rfl)) (mvT hZ (wd 93 rfl)) (own_selpriv (y := (⟨"com/example/leasewise/leasewise/IndexedHeap", "place", "(II)V"⟩ : MethodName)) (mvT hZ (wd 59 rfl)) rfl (Cond.privateMethod_at (mvP hZ (wd 94 rfl) (args := #[]))) (mvT hZ (wd 93 rfl)) (by decide)) (Cond.privateMethod_at (mvP hZ (wd 94 rfl) (args := #[]))) (mvT hZ (wd 95 rfl)) (by decide) (own_backH (W := 0) (rm_place_0 l Z a0 hw [] hp en1 kq aF aO aW aK aB aA aI lo aE aP kE kP en0 en1 en2 en3 po0 po1 po2 po3 T19.heap n0 O19 f37 f38 f33 f39 f36 f40 g_aE g_aP NDp (own_en_1 HI0 (by decide))) hZH (wd 95 rfl) (wd 33 rfl) (by decide) (by decide)) (g := (mkF m 102 #[.val (.ref hp), .val (.int (0 : Int32)), .val (.int en0), .val (.int (0 : Int32)), .val (.int (1 : Int32))] [(.int (0 : Int32)), (.int en1), (.ref hp)])) rfl (by rw [hml]; rfl) (Steps.refl _) (a := hp) (by rw [e34]; exact q41) q41' (argsL := [(.int en1), (.int (0 : Int32))]) (rest := []) (lenOf pd_1 rfl) rfl (by show 2 * 0 + _ ≤ _; exact Nat.le_of_eq rfl) (D d16_102) (fun _ _ => ⟨rfl, e34, (by decide : 0 + 0 ≤ _), (by decide : 0 + 0 ≤ _)⟩)
      dsimp only [Pt.U, Pt.locs, Pt.cells, Pt.slots] at X41 l41 y41 z41 st41 hQ41
      subst l41 y41 z41
      obtain ⟨rfl, N41q, K41, Q41_0, Q41_1⟩ := hQ41
      have O41 := O19.keep K41 (allS g_aE (allS g_aP all0))
      have KK41 : Keep h0 T41.heap [aE, aP] := KK19.trans K41 (allS (own_mem 0 rfl) (allS (own_mem 1 rfl) all0))
      have N41 := Fr.app N19 N41q
      have f42 := (((F_hp_size.keep K10 nin0).keep K19 nin0).keep K41 (nn3 NDp))
      obtain ⟨T43, X43, e43, st43⟩ := getF X41 hx hZ hown (host := "") (Or.inl (wd 86 rfl)) Via.refl rfl f42 (g := (mkF m 19 #[.val (.ref hp), .val (.int (0 : Int32)), .val (.int en0), .val (.int (1 : Int32)), .val (.int (3 : Int32))] [(.ref hp), (.int (3 : Int32))])) rfl rfl (D d16_19)
      have f44 := (f37.keep K41)
      have f45 := (f38.keep K41 (nn3 NDp))
      have f46 := (f33.keep K41 (nn3 NDp))
      have f47 := (f39.keep K41 (nn3 NDp))
      obtain ⟨cq48, q48, q48'⟩ := f44.cell
      obtain ⟨_, _, ⟨T48, L48, k48, n48⟩, -, X48, ⟨Lc48, hQ48, l48, y48, z48⟩, st48⟩ := X43.privateBack hx (y := (⟨"com/example/leasewise/leasewise/IndexedHeap", "place", "(II)V"⟩ : MethodName)) hown (mvT hZ (wd 92 rfl)) (mvT hZ (wd 93 rfl)) (own_selpriv (y := (⟨"com/example/leasewise/leasewise/IndexedHeap", "place", "(II)V"⟩ : MethodName)) (mvT hZ (wd 59 rfl)) rfl (Cond.privateMethod_at (mvP hZ (wd 94 rfl) (args := #[]))) (mvT hZ (wd 93 rfl)) (by decide)) (Cond.privateMethod_at (mvP hZ (wd 94 rfl) (args := #[]))) (mvT hZ (wd 95 rfl)) (by decide) (own_backH (W := 0) (rm_place_1 l Z a0 hw [] hp en0 kq aF aO aW aK aB aA aI lo aE aP kE kP en1 en1 en2 en3 (s4 en1 0 (0 : Int32) po0) (s4 en1 1 (0 : Int32) po1) (s4 en1 2 (0 : Int32) po2) (s4 en1 3 (0 : Int32) po3) T41.heap n0 O41 f44 f45 f46 f47 Q41_0 Q41_1 g_aE g_aP NDp (own_en_0 HI0 (by decide))) hZH (wd 95 rfl) (wd 33 rfl) (by decide) (by decide)) (g := (mkF m 114 #[.val (.ref hp), .val (.int (0 : Int32)), .val (.int en0), .val (.int (1 : Int32)), .val (.int (3 : Int32))] [(.int (1 : Int32)), (.int en0), (.ref hp)])) rfl (by rw [hml]; rfl) (Steps.refl _) (a := hp) (by rw [e43]; exact q48) q48' (argsL := [(.int en0), (.int (1 : Int32))]) (rest := []) (lenOf pd_1 rfl) rfl (by show 2 * 0 + _ ≤ _; exact Nat.le_of_eq rfl) (D d16_114) (fun _ _ => ⟨rfl, e43, (by decide : 0 + 0 ≤ _), (by decide : 0 + 0 ≤ _)⟩)
      dsimp only [Pt.U, Pt.locs, Pt.cells, Pt.slots] at X48 l48 y48 z48 st48 hQ48
      subst l48 y48 z48
      obtain ⟨rfl, N48q, K48, Q48_0, Q48_1⟩ := hQ48
      have O48 := O41.keep K48 (allS g_aE (allS g_aP all0))
      have KK48 : Keep h0 T48.heap [aE, aP] := KK41.trans K48 (allS (own_mem 0 rfl) (allS (own_mem 1 rfl) all0))
      have N48 := Fr.app N41 N48q
      obtain ⟨fs, hr, hrun, hended, hW, hsame⟩ := X48.leave (v := none) (fun _ => rfl)
      refine ⟨_, _, pre0 _ ?_, hrun, hended, _, _, rfl, ?_, ⟨_, rfl⟩, hW, hsame.mono (by decide) (by decide)⟩
      · refine cs24.trans ?_
        refine s_ifYes Xc19 hx 93 (D d16_87) ((if0 _ _).trans (feq hc25).2) (of_decide_eq_true rfl) rfl ?_
        refine s_aloadN Xc19 hx (D d16_93) rfl rfl ?_
        refine s_aloadN Xc19 hx (D d16_94) rfl rfl ?_
        refine st34 _ ?_
        refine s_iload X34 hx (D d16_98) rfl ?_
        refine X34.iaload hx (j := (1 : Int32)) (v := (.int en1)) (by rw [e34]; exact (Ar35).1) (State.isArrayOf_alike hZ.alike (Ar35).2.1) (Ar35).2.2 hin35 (H35.at hin35 rfl) (g := (mkF m 100 #[.val (.ref hp), .val (.int (0 : Int32)), .val (.int en0), .val (.int (0 : Int32)), .val (.int (1 : Int32))] [(.int (1 : Int32)), (.ref aE), (.ref hp)])) rfl rfl (D d16_100) _ ?_
        refine s_iloadN X34 hx (D d16_101) rfl ?_
        refine st41.trans ?_
        refine s_iload X41 hx (D d16_105) rfl ?_
        refine s_istoreN X41 hx (D d16_107) (l' := #[.val (.ref hp), .val (.int (0 : Int32)), .val (.int en0), .val (.int (1 : Int32)), .val (.int (1 : Int32))]) rfl ?_
        refine s_goto X41 hx 9 (D d16_108) (of_decide_eq_true rfl) rfl ?_
        refine s_iconst X41 hx (2 : Int32) (D d16_9) rfl ?_
        refine s_iloadN X41 hx (D d16_10) rfl ?_
        refine s_imul X41 hx (D d16_11) (r := (2 : Int32)) (by decide) ?_
        refine s_iconst X41 hx (1 : Int32) (D d16_12) rfl ?_
        refine s_iadd X41 hx (D d16_13) (r := (3 : Int32)) (by decide) ?_
        refine s_istore X41 hx (D d16_14) (l' := #[.val (.ref hp), .val (.int (0 : Int32)), .val (.int en0), .val (.int (1 : Int32)), .val (.int (3 : Int32))]) rfl ?_
        refine s_iload X41 hx (D d16_16) rfl ?_
        refine s_aloadN X41 hx (D d16_18) rfl rfl ?_
        refine st43 _ ?_
        refine s_icmpNo X43 hx (D d16_22) (flt (by decide : ¬ ((3 : Int32) < (3 : Int32)))).1 ?_
        refine s_goto X43 hx 111 (D d16_25) (of_decide_eq_true rfl) rfl ?_
        refine s_aloadN X43 hx (D d16_111) rfl rfl ?_
        refine s_iloadN X43 hx (D d16_112) rfl ?_
        refine s_iloadN X43 hx (D d16_113) rfl ?_
        refine st48.trans ?_
        exact X48.returnOut hx Bd.returns (D d16_117) hr
      · show Q_rm_down_03 Z hp (0 : Int32) kq aF aO aW aK aB aA aI lo aE aP cK kK kE kP (3 : Int32) en0 en1 en2 en3 po0 po1 po2 po3 h0 n0 _ T48.heap _
        exact ⟨en1, en0, en2, en3, (s4 en0 0 (1 : Int32) (s4 en1 0 (0 : Int32) po0)), (s4 en0 1 (1 : Int32) (s4 en1 1 (0 : Int32) po1)), (s4 en0 2 (1 : Int32) (s4 en1 2 (0 : Int32) po2)), (s4 en0 3 (1 : Int32) (s4 en1 3 (0 : Int32) po3)), rfl, N48, KK48, Q48_0, Q48_1, (own_l9 HI0)⟩
  · have f49 := (F_hp_order.keep K10 nin0)
    obtain ⟨T50, X50, e50, st50⟩ := getF Xc10 hx hZ hown (host := "") (Or.inl (wd 42 rfl)) Via.refl eo10 f49 (g := (mkF m 71 #[.val (.ref hp), .val (.int (0 : Int32)), .val (.int en0), .val (.int (0 : Int32)), .val (.int (2 : Int32))] [(.ref hp)])) rfl rfl (D d16_71)
    have f51 := (F_hp_entries.keep K10 nin0)
    obtain ⟨T52, X52, e52, st52⟩ := getF X50 hx hZ hown (host := "") (Or.inl (wd 44 rfl)) Via.refl e50 f51 (g := (mkF m 75 #[.val (.ref hp), .val (.int (0 : Int32)), .val (.int en0), .val (.int (0 : Int32)), .val (.int (2 : Int32))] [(.ref hp), (.ref lo)])) rfl rfl (D d16_75)
    have f54 := (V_aE.keep K10 nin0)
    obtain ⟨cl53, Ar53, q53, S53, Nn53, H53, G53⟩ := id f54
    have hin53 : ¬ ((2 : Int32) < 0 ∨ cl53.slots.size ≤ ((2 : Int32)).toNatClampNeg) := inb_of S53 ⟨by decide, by decide⟩
    have f56 := (V_aK.keep K10 nin0)
    have f57 := (E_kq.keep K10)
    have f58 := (F_kq_keys.keep K10 nin0)
    have f59 := (Y_lo.keep K10 nin0)
    obtain ⟨cy55, yc55, yk55, yv55, ys55⟩ := id f59
    obtain ⟨mk55, ck55, U55, sb55, Y55, hb55, hm55, hr55, hZ55, eU55, out55⟩ := own_enter X52 hx hZH (host := "com/example/leasewise/leasewise/KilometreQueue") (σ := sgm) (xi := (⟨"com/example/leasewise/leasewise/IndexedHeap$Order", "before", "(II)Z"⟩ : MethodName)) hown (wd 96 rfl) (wd 97 rfl) (mvT hZ (wd 98 rfl)) (by decide +kernel) (by decide) MDc (LamO.fn f59 e52) own_fwdok (g := (mkF m 82 #[.val (.ref hp), .val (.int (0 : Int32)), .val (.int en0), .val (.int (0 : Int32)), .val (.int (2 : Int32))] [(.int en0), (.int en2), (.ref lo)])) rfl (by rw [hml]; rfl) (argsL := [(.int en2), (.int en0)]) (rest := []) (L0 := #[.val (.ref lo), .val (.int en2), .val (.int en0)]) (lenOf pd_0 rfl) rfl (D d16_82) (fun _ => by first | rfl | (simp [entryFrame, mkF, argsToLocals, Value.category]; done)) (R' := ({ frames := 1, cells := 0, slots := 0, locals := 14 } : Room)) (by decide) (Nat.le_of_ble_eq_true rfl) (by decide) (by decide)
    obtain ⟨_, ⟨T55, L55, k55, n55⟩, Yx55, ⟨Lc55, hQ55, l55, y55, z55⟩, sx55⟩ := own_fvp Y55 hx hZ55 MDc rfl own_refok (by decide) (wd 101 rfl) (own_selpriv (y := (⟨"com/example/leasewise/leasewise/KilometreQueue", "lambda$new$0", "(II)Z"⟩ : MethodName)) (wd 54 rfl) rfl (Cond.privateMethod_at (wd 100 rfl)) (wd 99 rfl) (by decide)) (wd 99 rfl) (own_backH (W := 0) (rm_lam l Z a0 hw [] kq en2 en0 aK kK T10.heap n0 O10 f57 f58 (own_en_2 HI0 (by decide)) (own_en_0 HI0 (by decide)) f56) hZ55 (wd 101 rfl) (wd 2 rfl) (by decide) (by decide)) (eU55.trans e52) f57 (g := mkF ⟨cK, 1⟩ 6 #[.val (.ref lo), .val (.int en2), .val (.int en0)] [(.int en0), (.int en2), .ref kq]) rfl (by rw [hm55]; rfl) (argsL := [(.int en2), (.int en0)]) (rest := []) (lenOf pd_0 rfl) rfl (by show 2 * 0 + _ ≤ _; exact Nat.le_of_eq rfl) (by rw [hb55]; exact own_f6) ⟨rfl, (eU55.trans e52), Nat.le_of_ble_eq_true rfl, Nat.le_of_ble_eq_true rfl⟩
    dsimp only [Pt.U, Pt.locs, Pt.cells, Pt.slots] at Yx55 l55 y55 z55 sx55 hQ55
    subst l55 y55 z55
    obtain ⟨r__55, rfl, N55q, K55, Q55_0⟩ := hQ55
    have O55 := O10.keep K55 all0
    have KK55 : Keep h0 T55.heap [aE, aP] := KK10.trans K55 all0
    have sf55 : Steps p.tables e (.java { (mkF m 82 #[.val (.ref hp), .val (.int (0 : Int32)), .val (.int en0), .val (.int (0 : Int32)), .val (.int (2 : Int32))] [(.int en0), (.int en2), (.ref lo)]) with stack := [] } :: below) (U55.setTop (mkF ⟨cK, 1⟩ 0 #[.val (.ref lo), .val (.int en2), .val (.int en0)] [])) (T55.setTop (mkF ⟨cK, 1⟩ 9 #[.val (.ref lo), .val (.int en2), .val (.int en0)] [(.int r__55)])) := by
      refine XS.aloadN Y55.here hx rfl (by rw [hb55]; exact own_f0) rfl rfl ?_
      refine getCap (s := Z) hx Y55.here (State.WarmedH.trans hZ55 Y55.warmed) MDc own_capok (wd 37 rfl) (by rw [(eU55.trans e52)]; exact yc55) yv55 ys55 rfl rfl (by rw [hb55]; exact own_f1) ?_
      refine XS.iloadN Y55.here hx rfl (by rw [hb55]; exact own_f4) rfl ?_
      refine XS.iloadN Y55.here hx rfl (by rw [hb55]; exact own_f5) rfl ?_
      exact sx55 _ (Steps.refl _)
    obtain ⟨Tc55, Xc55, eo55, so55⟩ := out55 T55 _ _ _ (some (.int r__55)) 9 #[.val (.ref lo), .val (.int en2), .val (.int en0)] .ireturn Yx55 (by rw [hb55]; exact own_f9) (Or.inl ⟨.boolean, _, rfl, Or.inr (Or.inl rfl), own_nb01 Q55_0, rfl, rfl⟩) sf55
    have N55 := Fr.app N10 (Fr.app (Fr.nil n0) N55q)
    have cs60 : Steps p.tables e below (s₁.setTop (mkF m 0 #[.val (.ref hp), .val (.int (0 : Int32)), .unset, .unset, .unset] [])) (Tc55.setTop (mkF m 87 #[.val (.ref hp), .val (.int (0 : Int32)), .val (.int en0), .val (.int (0 : Int32)), .val (.int (2 : Int32))] [(.int r__55)])) := cs11.trans (by
      refine s_ifNo Xc10 hx (D d16_64) ((if0 _ _).trans (feq hc12).1) ?_
      refine s_iinc Xc10 hx (D d16_67) rfl (r := (2 : Int32)) (by decide) (l' := #[.val (.ref hp), .val (.int (0 : Int32)), .val (.int en0), .val (.int (0 : Int32)), .val (.int (2 : Int32))]) rfl ?_
      refine s_aloadN Xc10 hx (D d16_70) rfl rfl ?_
      refine st50 _ ?_
      refine s_aloadN X50 hx (D d16_74) rfl rfl ?_
      refine st52 _ ?_
      refine s_iload X52 hx (D d16_78) rfl ?_
      refine X52.iaload hx (j := (2 : Int32)) (v := (.int en2)) (by rw [e52]; exact (Ar53).1) (State.isArrayOf_alike hZ.alike (Ar53).2.1) (Ar53).2.2 hin53 (H53.at hin53 rfl) (g := (mkF m 80 #[.val (.ref hp), .val (.int (0 : Int32)), .val (.int en0), .val (.int (0 : Int32)), .val (.int (2 : Int32))] [(.int (2 : Int32)), (.ref aE), (.ref lo)])) rfl rfl (D d16_80) _ ?_
      refine s_iloadN X52 hx (D d16_81) rfl ?_
      refine so55 _ ?_
      exact Steps.refl _)
    by_cases hc61 : r__55 = (0 : Int32)
    · have f62 := ((E_hp.keep K10).keep K55)
      have f63 := (f49.keep K55 nin0)
      have f64 := (f51.keep K55 nin0)
      have f65 := ((F_hp_positions.keep K10 nin0).keep K55 nin0)
      have f66 := (f54.keep K55 nin0)
      have f67 := ((V_aP.keep K10 nin0).keep K55 nin0)
      obtain ⟨cq68, q68, q68'⟩ := f62.cell
      obtain ⟨_, _, ⟨T68, L68, k68, n68⟩, -, X68, ⟨Lc68, hQ68, l68, y68, z68⟩, st68⟩ := Xc55.privateBack hx (y := (⟨"com/example/leasewise/leasewise/IndexedHeap", "place", "(II)V"⟩ : MethodName)) hown (mvT hZ (wd 92 rfl)) (mvT hZ (wd 93 rfl)) (own_selpriv (y := (⟨"com/example/leasewise/leasewise/IndexedHeap", "place", "(II)V"⟩ : MethodName)) (mvT hZ (wd 59 rfl)) rfl (Cond.privateMethod_at (mvP hZ (wd 94 rfl) (args := #[]))) (mvT hZ (wd 93 rfl)) (by decide)) (Cond.privateMethod_at (mvP hZ (wd 94 rfl) (args := #[]))) (mvT hZ (wd 95 rfl)) (by decide) (own_backH (W := 0) (rm_place_0 l Z a0 hw [] hp en0 kq aF aO aW aK aB aA aI lo aE aP kE kP en0 en1 en2 en3 po0 po1 po2 po3 T55.heap n0 O55 f62 f63 f64 f65 f66 f67 g_aE g_aP NDp (own_en_0 HI0 (by decide))) hZH (wd 95 rfl) (wd 33 rfl) (by decide) (by decide)) (g := (mkF m 114 #[.val (.ref hp), .val (.int (0 : Int32)), .val (.int en0), .val (.int (0 : Int32)), .val (.int (2 : Int32))] [(.int (0 : Int32)), (.int en0), (.ref hp)])) rfl (by rw [hml]; rfl) (Steps.refl _) (a := hp) (by rw [eo55]; exact q68) q68' (argsL := [(.int en0), (.int (0 : Int32))]) (rest := []) (lenOf pd_1 rfl) rfl (by show 2 * 0 + _ ≤ _; exact Nat.le_of_eq rfl) (D d16_114) (fun _ _ => ⟨rfl, eo55, (by decide : 0 + 0 ≤ _), (by decide : 0 + 0 ≤ _)⟩)
      dsimp only [Pt.U, Pt.locs, Pt.cells, Pt.slots] at X68 l68 y68 z68 st68 hQ68
      subst l68 y68 z68
      obtain ⟨rfl, N68q, K68, Q68_0, Q68_1⟩ := hQ68
      have O68 := O55.keep K68 (allS g_aE (allS g_aP all0))
      have KK68 : Keep h0 T68.heap [aE, aP] := KK55.trans K68 (allS (own_mem 0 rfl) (allS (own_mem 1 rfl) all0))
      have N68 := Fr.app N55 N68q
      obtain ⟨fs, hr, hrun, hended, hW, hsame⟩ := X68.leave (v := none) (fun _ => rfl)
      refine ⟨_, _, pre0 _ ?_, hrun, hended, _, _, rfl, ?_, ⟨_, rfl⟩, hW, hsame.mono (by decide) (by decide)⟩
      · refine cs60.trans ?_
        refine s_ifNo Xc55 hx (D d16_87) ((if0 _ _).trans (teq hc61).2) ?_
        refine s_goto Xc55 hx 111 (D d16_90) (of_decide_eq_true rfl) rfl ?_
        refine s_aloadN Xc55 hx (D d16_111) rfl rfl ?_
        refine s_iloadN Xc55 hx (D d16_112) rfl ?_
        refine s_iloadN Xc55 hx (D d16_113) rfl ?_
        refine st68.trans ?_
        exact X68.returnOut hx Bd.returns (D d16_117) hr
      · show Q_rm_down_03 Z hp (0 : Int32) kq aF aO aW aK aB aA aI lo aE aP cK kK kE kP (3 : Int32) en0 en1 en2 en3 po0 po1 po2 po3 h0 n0 _ T68.heap _
        exact ⟨en0, en1, en2, en3, (s4 en0 0 (0 : Int32) po0), (s4 en0 1 (0 : Int32) po1), (s4 en0 2 (0 : Int32) po2), (s4 en0 3 (0 : Int32) po3), rfl, N68, KK68, Q68_0, Q68_1, (own_l8 HI0)⟩
    · have f69 := (f51.keep K55 nin0)
      obtain ⟨T70, X70, e70, st70⟩ := getF Xc55 hx hZ hown (host := "") (Or.inl (wd 44 rfl)) Via.refl eo55 f69 (g := (mkF m 95 #[.val (.ref hp), .val (.int (0 : Int32)), .val (.int en0), .val (.int (0 : Int32)), .val (.int (2 : Int32))] [(.ref hp), (.ref hp)])) rfl rfl (D d16_95)
      have f72 := (f54.keep K55 nin0)
      obtain ⟨cl71, Ar71, q71, S71, Nn71, H71, G71⟩ := id f72
      have hin71 : ¬ ((2 : Int32) < 0 ∨ cl71.slots.size ≤ ((2 : Int32)).toNatClampNeg) := inb_of S71 ⟨by decide, by decide⟩
      have f73 := ((E_hp.keep K10).keep K55)
      have f74 := (f49.keep K55 nin0)
      have f75 := ((F_hp_positions.keep K10 nin0).keep K55 nin0)
      have f76 := ((V_aP.keep K10 nin0).keep K55 nin0)
      obtain ⟨cq77, q77, q77'⟩ := f73.cell
      obtain ⟨_, _, ⟨T77, L77, k77, n77⟩, -, X77, ⟨Lc77, hQ77, l77, y77, z77⟩, st77⟩ := X70.privateBack hx (y := (⟨"com/example/leasewise/leasewise/IndexedHeap", "place", "(II)V"⟩ : MethodName)) hown (mvT hZ (wd 92 rfl)) (mvT hZ (wd 93 rfl)) (own_selpriv (y := (⟨"com/example/leasewise/leasewise/IndexedHeap", "place", "(II)V"⟩ : MethodName)) (mvT hZ (wd 59 rfl)) rfl (Cond.privateMethod_at (mvP hZ (wd 94 rfl) (args := #[]))) (mvT hZ (wd 93 rfl)) (by decide)) (Cond.privateMethod_at (mvP hZ (wd 94 rfl) (args := #[]))) (mvT hZ (wd 95 rfl)) (by decide) (own_backH (W := 0) (rm_place_0 l Z a0 hw [] hp en2 kq aF aO aW aK aB aA aI lo aE aP kE kP en0 en1 en2 en3 po0 po1 po2 po3 T55.heap n0 O55 f73 f74 f69 f75 f72 f76 g_aE g_aP NDp (own_en_2 HI0 (by decide))) hZH (wd 95 rfl) (wd 33 rfl) (by decide) (by decide)) (g := (mkF m 102 #[.val (.ref hp), .val (.int (0 : Int32)), .val (.int en0), .val (.int (0 : Int32)), .val (.int (2 : Int32))] [(.int (0 : Int32)), (.int en2), (.ref hp)])) rfl (by rw [hml]; rfl) (Steps.refl _) (a := hp) (by rw [e70]; exact q77) q77' (argsL := [(.int en2), (.int (0 : Int32))]) (rest := []) (lenOf pd_1 rfl) rfl (by show 2 * 0 + _ ≤ _; exact Nat.le_of_eq rfl) (D d16_102) (fun _ _ => ⟨rfl, e70, (by decide : 0 + 0 ≤ _), (by decide : 0 + 0 ≤ _)⟩)
      dsimp only [Pt.U, Pt.locs, Pt.cells, Pt.slots] at X77 l77 y77 z77 st77 hQ77
      subst l77 y77 z77
      obtain ⟨rfl, N77q, K77, Q77_0, Q77_1⟩ := hQ77
      have O77 := O55.keep K77 (allS g_aE (allS g_aP all0))
      have KK77 : Keep h0 T77.heap [aE, aP] := KK55.trans K77 (allS (own_mem 0 rfl) (allS (own_mem 1 rfl) all0))
      have N77 := Fr.app N55 N77q
      have f78 := (((F_hp_size.keep K10 nin0).keep K55 nin0).keep K77 (nn3 NDp))
      obtain ⟨T79, X79, e79, st79⟩ := getF X77 hx hZ hown (host := "") (Or.inl (wd 86 rfl)) Via.refl rfl f78 (g := (mkF m 19 #[.val (.ref hp), .val (.int (0 : Int32)), .val (.int en0), .val (.int (2 : Int32)), .val (.int (5 : Int32))] [(.ref hp), (.int (5 : Int32))])) rfl rfl (D d16_19)
      have f80 := (f73.keep K77)
      have f81 := (f74.keep K77 (nn3 NDp))
      have f82 := (f69.keep K77 (nn3 NDp))
      have f83 := (f75.keep K77 (nn3 NDp))
      obtain ⟨cq84, q84, q84'⟩ := f80.cell
      obtain ⟨_, _, ⟨T84, L84, k84, n84⟩, -, X84, ⟨Lc84, hQ84, l84, y84, z84⟩, st84⟩ := X79.privateBack hx (y := (⟨"com/example/leasewise/leasewise/IndexedHeap", "place", "(II)V"⟩ : MethodName)) hown (mvT hZ (wd 92 rfl)) (mvT hZ (wd 93 rfl)) (own_selpriv (y := (⟨"com/example/leasewise/leasewise/IndexedHeap", "place", "(II)V"⟩ : MethodName)) (mvT hZ (wd 59 rfl)) rfl (Cond.privateMethod_at (mvP hZ (wd 94 rfl) (args := #[]))) (mvT hZ (wd 93 rfl)) (by decide)) (Cond.privateMethod_at (mvP hZ (wd 94 rfl) (args := #[]))) (mvT hZ (wd 95 rfl)) (by decide) (own_backH (W := 0) (rm_place_2 l Z a0 hw [] hp en0 kq aF aO aW aK aB aA aI lo aE aP kE kP en2 en1 en2 en3 (s4 en2 0 (0 : Int32) po0) (s4 en2 1 (0 : Int32) po1) (s4 en2 2 (0 : Int32) po2) (s4 en2 3 (0 : Int32) po3) T77.heap n0 O77 f80 f81 f82 f83 Q77_0 Q77_1 g_aE g_aP NDp (own_en_0 HI0 (by decide))) hZH (wd 95 rfl) (wd 33 rfl) (by decide) (by decide)) (g := (mkF m 114 #[.val (.ref hp), .val (.int (0 : Int32)), .val (.int en0), .val (.int (2 : Int32)), .val (.int (5 : Int32))] [(.int (2 : Int32)), (.int en0), (.ref hp)])) rfl (by rw [hml]; rfl) (Steps.refl _) (a := hp) (by rw [e79]; exact q84) q84' (argsL := [(.int en0), (.int (2 : Int32))]) (rest := []) (lenOf pd_1 rfl) rfl (by show 2 * 0 + _ ≤ _; exact Nat.le_of_eq rfl) (D d16_114) (fun _ _ => ⟨rfl, e79, (by decide : 0 + 0 ≤ _), (by decide : 0 + 0 ≤ _)⟩)
      dsimp only [Pt.U, Pt.locs, Pt.cells, Pt.slots] at X84 l84 y84 z84 st84 hQ84
      subst l84 y84 z84
      obtain ⟨rfl, N84q, K84, Q84_0, Q84_1⟩ := hQ84
      have O84 := O77.keep K84 (allS g_aE (allS g_aP all0))
      have KK84 : Keep h0 T84.heap [aE, aP] := KK77.trans K84 (allS (own_mem 0 rfl) (allS (own_mem 1 rfl) all0))
      have N84 := Fr.app N77 N84q
      obtain ⟨fs, hr, hrun, hended, hW, hsame⟩ := X84.leave (v := none) (fun _ => rfl)
      refine ⟨_, _, pre0 _ ?_, hrun, hended, _, _, rfl, ?_, ⟨_, rfl⟩, hW, hsame.mono (by decide) (by decide)⟩
      · refine cs60.trans ?_
        refine s_ifYes Xc55 hx 93 (D d16_87) ((if0 _ _).trans (feq hc61).2) (of_decide_eq_true rfl) rfl ?_
        refine s_aloadN Xc55 hx (D d16_93) rfl rfl ?_
        refine s_aloadN Xc55 hx (D d16_94) rfl rfl ?_
        refine st70 _ ?_
        refine s_iload X70 hx (D d16_98) rfl ?_
        refine X70.iaload hx (j := (2 : Int32)) (v := (.int en2)) (by rw [e70]; exact (Ar71).1) (State.isArrayOf_alike hZ.alike (Ar71).2.1) (Ar71).2.2 hin71 (H71.at hin71 rfl) (g := (mkF m 100 #[.val (.ref hp), .val (.int (0 : Int32)), .val (.int en0), .val (.int (0 : Int32)), .val (.int (2 : Int32))] [(.int (2 : Int32)), (.ref aE), (.ref hp)])) rfl rfl (D d16_100) _ ?_
        refine s_iloadN X70 hx (D d16_101) rfl ?_
        refine st77.trans ?_
        refine s_iload X77 hx (D d16_105) rfl ?_
        refine s_istoreN X77 hx (D d16_107) (l' := #[.val (.ref hp), .val (.int (0 : Int32)), .val (.int en0), .val (.int (2 : Int32)), .val (.int (2 : Int32))]) rfl ?_
        refine s_goto X77 hx 9 (D d16_108) (of_decide_eq_true rfl) rfl ?_
        refine s_iconst X77 hx (2 : Int32) (D d16_9) rfl ?_
        refine s_iloadN X77 hx (D d16_10) rfl ?_
        refine s_imul X77 hx (D d16_11) (r := (4 : Int32)) (by decide) ?_
        refine s_iconst X77 hx (1 : Int32) (D d16_12) rfl ?_
        refine s_iadd X77 hx (D d16_13) (r := (5 : Int32)) (by decide) ?_
        refine s_istore X77 hx (D d16_14) (l' := #[.val (.ref hp), .val (.int (0 : Int32)), .val (.int en0), .val (.int (2 : Int32)), .val (.int (5 : Int32))]) rfl ?_
        refine s_iload X77 hx (D d16_16) rfl ?_
        refine s_aloadN X77 hx (D d16_18) rfl rfl ?_
        refine st79 _ ?_
        refine s_icmpNo X79 hx (D d16_22) (flt (by decide : ¬ ((5 : Int32) < (3 : Int32)))).1 ?_
        refine s_goto X79 hx 111 (D d16_25) (of_decide_eq_true rfl) rfl ?_
        refine s_aloadN X79 hx (D d16_111) rfl rfl ?_
        refine s_iloadN X79 hx (D d16_112) rfl ?_
        refine s_iloadN X79 hx (D d16_113) rfl ?_
        refine st84.trans ?_
        exact X84.returnOut hx Bd.returns (D d16_117) hr
      · show Q_rm_down_03 Z hp (0 : Int32) kq aF aO aW aK aB aA aI lo aE aP cK kK kE kP (3 : Int32) en0 en1 en2 en3 po0 po1 po2 po3 h0 n0 _ T84.heap _
        exact ⟨en2, en1, en0, en3, (s4 en0 0 (2 : Int32) (s4 en2 0 (0 : Int32) po0)), (s4 en0 1 (2 : Int32) (s4 en2 1 (0 : Int32) po1)), (s4 en0 2 (2 : Int32) (s4 en2 2 (0 : Int32) po2)), (s4 en0 3 (2 : Int32) (s4 en2 3 (0 : Int32) po3)), rfl, N84, KK84, Q84_0, Q84_1, (own_l10 HI0)⟩
theorem own_l11_k : ∀ L ∈ hAll, L.length = 1 → [(L.getD 0 0)] ∈ hAll ∧ hPos [(L.getD 0 0)] 0 = (s4 (L.getD 0 0) 0 (0 : Int32) (hPos L 0)) ∧ hPos [(L.getD 0 0)] 1 = (s4 (L.getD 0 0) 1 (0 : Int32) (hPos L 1)) ∧ hPos [(L.getD 0 0)] 2 = (s4 (L.getD 0 0) 2 (0 : Int32) (hPos L 2)) ∧ hPos [(L.getD 0 0)] 3 = (s4 (L.getD 0 0) 3 (0 : Int32) (hPos L 3)) ∧ ((s4 (L.getD 0 0) 0 (0 : Int32) (hPos L 0)) = -1 ↔ hPos L 0 = -1) ∧ ((s4 (L.getD 0 0) 1 (0 : Int32) (hPos L 1)) = -1 ↔ hPos L 1 = -1) ∧ ((s4 (L.getD 0 0) 2 (0 : Int32) (hPos L 2)) = -1 ↔ hPos L 2 = -1) ∧ ((s4 (L.getD 0 0) 3 (0 : Int32) (hPos L 3)) = -1 ↔ hPos L 3 = -1) := by decide +kernel
theorem own_l11 {e0 e1 e2 e3 p0 p1 p2 p3 : Int32} (H : HI (1 : Int32) e0 e1 e2 e3 p0 p1 p2 p3) : HI (1 : Int32) e0 e1 e2 e3 (s4 e0 0 (0 : Int32) p0) (s4 e0 1 (0 : Int32) p1) (s4 e0 2 (0 : Int32) p2) (s4 e0 3 (0 : Int32) p3) ∧ SM p0 p1 p2 p3 (s4 e0 0 (0 : Int32) p0) (s4 e0 1 (0 : Int32) p1) (s4 e0 2 (0 : Int32) p2) (s4 e0 3 (0 : Int32) p3) := by
  obtain ⟨L, hL, hn, h0, h1, h2, h3, rfl, rfl, rfl, rfl⟩ := H
  have hlen : L.length = 1 := own_hl1 L hL hn
  have g0 := h0 (by omega); subst g0
  have K := own_l11_k L hL hlen
  obtain ⟨k1, k2, k3, k4, k5, k6⟩ := K
  refine ⟨⟨[(L.getD 0 0)], k1, rfl, ?_, ?_, ?_, ?_, k2.symm, k3.symm, k4.symm, k5.symm⟩, k6⟩
  all_goals (intro hh; first | rfl | (exfalso; revert hh; decide) | (exfalso; simp at hh))
theorem ef_rm_down_01 (m : MethodId) (x0 : Addr) (x1 : Int32) : entryFrame m #[(.ref x0), (.int x1)] 5 = mkF m 0 #[.val (.ref x0), .val (.int x1), .unset, .unset, .unset] [] := by first | (simp [entryFrame, mkF, argsToLocals, Value.category]; done) | rfl
set_option maxRecDepth 65536 in
set_option maxHeartbeats 40000000 in
theorem rm_down_01 (l : Launch) (Z : State) (a0 : Array Value) (hw : ∀ d ∈ tables_1, d.before a0 Z = true) (ws : List Jvm.Cond) (hp : Addr) (pp : Int32) (kq aF aO aW aK aB aA aI lo aE aP : Addr) (cK kK kE kP : ClassId) (sz en0 en1 en2 en3 po0 po1 po2 po3 : Int32) (h0 : Heap) (n0 : Nat) (O0 : Old Z n0 h0) (E_hp : Exa Z h0 hp "com/example/leasewise/leasewise/IndexedHeap") (F_hp_order : Fld Z h0 hp "com/example/leasewise/leasewise/IndexedHeap" "order" "Lcom/example/leasewise/leasewise/IndexedHeap$Order;" (.ref lo)) (F_hp_entries : Fld Z h0 hp "com/example/leasewise/leasewise/IndexedHeap" "entries" "[I" (.ref aE)) (F_hp_positions : Fld Z h0 hp "com/example/leasewise/leasewise/IndexedHeap" "positions" "[I" (.ref aP)) (F_hp_size : Fld Z h0 hp "com/example/leasewise/leasewise/IndexedHeap" "size" "I" (.int sz)) (E_kq : Exa Z h0 kq "com/example/leasewise/leasewise/KilometreQueue") (F_kq_keys : Fld Z h0 kq "com/example/leasewise/leasewise/KilometreQueue" "keys" "[J" (.ref aK)) (MDc : Jvm.LamKit.Made Z "com/example/leasewise/leasewise/KilometreQueue" sgm cK) (V_aE : Arv Z h0 aE kE .int (4 : Int32) [(.int en0), (.int en1), (.int en2), (.int en3)] (.int (0 : Int32))) (V_aP : Arv Z h0 aP kP .int (4 : Int32) [(.int po0), (.int po1), (.int po2), (.int po3)] (.int (-1 : Int32))) (g_aE : n0 ≤ aE) (g_aP : n0 ≤ aP) (NDp : List.Nodup [kq, aF, aO, aW, aK, aB, aA, aI, hp, lo, aE, aP]) (HI0 : HI sz en0 en1 en2 en3 po0 po1 po2 po3) (hpp : pp = (0 : Int32)) (hsz : sz = (1 : Int32)) (V_aK : Arp Z h0 aK kK .long (4 : Int32) PJ) (Y_lo : LamO h0 lo cK kq) :
    MetFree l (⟨"com/example/leasewise/leasewise/IndexedHeap", "siftDown", "(I)V"⟩ : MethodName) (head1 (Jvm.Cond.code (⟨"com/example/leasewise/leasewise/IndexedHeap", "siftDown", "(I)V"⟩ : MethodName) prog_35_method_9_code 5 none :: ws) ({ frames := 2, cells := 0, slots := 0, locals := 28 } : Room)) (fun a U => a = #[(.ref hp), (.int pp)] ∧ Z.WarmedH U.vm ∧ U.heap = h0) (fun _ _ _ _ _ => True) (fun _ U o U' => ∃ v L, o = .returned v ∧ Q_rm_down_03 Z hp pp kq aF aO aW aK aB aA aI lo aE aP cK kK kE kP sz en0 en1 en2 en3 po0 po1 po2 po3 h0 n0 v U'.heap L ∧ FrameEnd U o U' L ({ frames := 2, cells := 0, slots := 0, locals := 28 } : Room).cells ({ frames := 2, cells := 0, slots := 0, locals := 28 } : Room).slots) := by
  refine MetFree.of_bodySF (plainFor_of_name pn_1) hisR ?_
  intro p e s m args below meth c s₁ Bd hml0 hP hK
  obtain ⟨rfl, hZH, hh⟩ := hP
  have hZ := hZH.wide
  have hx := Bd.exec
  have hby := Bd.bytes
  have D := fun {pc : Nat} {r : Except ClassFile.DecodeError (ClassFile.Instr × Nat)} (q : decode prog_35_method_9_code pc = r) => hb (pc := pc) hby q
  have hml : c.maxLocals = 5 := hml0
  have hown : s.vm.findClass "com/example/leasewise/leasewise/IndexedHeap" = some m.cls := findClass_of_methodNamed Bd.named
  have hnm := (name_of_methodNamed Bd.named Bd.method).1
  have X0 : Stand p l e ({ frames := 2, cells := 0, slots := 0, locals := 28 } : Room) s m #[(.ref hp), (.int pp)] below meth c s₁ [] 0 0 := Stand.of_body Bd
  have e0 : s₁.heap = h0 := by rw [← hh, Bd.state]; rfl
  have N0 := Fr.nil n0
  have pre0 : ∀ t, Steps p.tables e below (s₁.setTop (mkF m 0 #[.val (.ref hp), .val (.int pp), .unset, .unset, .unset] [])) t → Steps p.tables e below (s₁.setTop (entryFrame m #[(.ref hp), (.int pp)] 5)) t := fun t k => castTop (ef_rm_down_01 m (hp) (pp)) k
  have wd := fun {d : Jvm.Cond} (i : Nat) (h : tables_1[i]? = some d) => hw d (List.mem_of_getElem? h)
  subst hpp hsz
  obtain ⟨T1, X1, e1, st1⟩ := getF X0 hx hZ hown (host := "") (Or.inl (wd 44 rfl)) Via.refl e0 F_hp_entries (g := (mkF m 1 #[.val (.ref hp), .val (.int (0 : Int32)), .unset, .unset, .unset] [(.ref hp)])) rfl rfl (D d16_1)
  obtain ⟨cl2, Ar2, q2, S2, Nn2, H2, G2⟩ := id V_aE
  have hin2 : ¬ ((0 : Int32) < 0 ∨ cl2.slots.size ≤ ((0 : Int32)).toNatClampNeg) := inb_of S2 ⟨by decide, by decide⟩
  obtain ⟨T3, X3, e3, st3⟩ := getF X1 hx hZ hown (host := "") (Or.inl (wd 86 rfl)) Via.refl e1 F_hp_size (g := (mkF m 19 #[.val (.ref hp), .val (.int (0 : Int32)), .val (.int en0), .val (.int (0 : Int32)), .val (.int (1 : Int32))] [(.ref hp), (.int (1 : Int32))])) rfl rfl (D d16_19)
  obtain ⟨cq4, q4, q4'⟩ := E_hp.cell
  obtain ⟨_, _, ⟨T4, L4, k4, n4⟩, -, X4, ⟨Lc4, hQ4, l4, y4, z4⟩, st4⟩ := X3.privateBack hx (y := (⟨"com/example/leasewise/leasewise/IndexedHeap", "place", "(II)V"⟩ : MethodName)) hown (mvT hZ (wd 92 rfl)) (mvT hZ (wd 93 rfl)) (own_selpriv (y := (⟨"com/example/leasewise/leasewise/IndexedHeap", "place", "(II)V"⟩ : MethodName)) (mvT hZ (wd 59 rfl)) rfl (Cond.privateMethod_at (mvP hZ (wd 94 rfl) (args := #[]))) (mvT hZ (wd 93 rfl)) (by decide)) (Cond.privateMethod_at (mvP hZ (wd 94 rfl) (args := #[]))) (mvT hZ (wd 95 rfl)) (by decide) (own_backH (W := 0) (rm_place_0 l Z a0 hw [] hp en0 kq aF aO aW aK aB aA aI lo aE aP kE kP en0 en1 en2 en3 po0 po1 po2 po3 h0 n0 O0 E_hp F_hp_order F_hp_entries F_hp_positions V_aE V_aP g_aE g_aP NDp (own_en_0 HI0 (by decide))) hZH (wd 95 rfl) (wd 33 rfl) (by decide) (by decide)) (g := (mkF m 114 #[.val (.ref hp), .val (.int (0 : Int32)), .val (.int en0), .val (.int (0 : Int32)), .val (.int (1 : Int32))] [(.int (0 : Int32)), (.int en0), (.ref hp)])) rfl (by rw [hml]; rfl) (Steps.refl _) (a := hp) (by rw [e3]; exact q4) q4' (argsL := [(.int en0), (.int (0 : Int32))]) (rest := []) (lenOf pd_1 rfl) rfl (by show 2 * 0 + _ ≤ _; exact Nat.le_of_eq rfl) (D d16_114) (fun _ _ => ⟨rfl, e3, (by decide : 0 + 0 ≤ _), (by decide : 0 + 0 ≤ _)⟩)
  dsimp only [Pt.U, Pt.locs, Pt.cells, Pt.slots] at X4 l4 y4 z4 st4 hQ4
  subst l4 y4 z4
  obtain ⟨rfl, N4q, K4, Q4_0, Q4_1⟩ := hQ4
  have O4 := O0.keep K4 (allS g_aE (allS g_aP all0))
  have KK4 : Keep h0 T4.heap [aE, aP] := (Keep.refl h0 [aE, aP]).trans K4 (allS (own_mem 0 rfl) (allS (own_mem 1 rfl) all0))
  have N4 := Fr.app N0 N4q
  obtain ⟨fs, hr, hrun, hended, hW, hsame⟩ := X4.leave (v := none) (fun _ => rfl)
  refine ⟨_, _, pre0 _ ?_, hrun, hended, _, _, rfl, ?_, ⟨_, rfl⟩, hW, hsame.mono (by decide) (by decide)⟩
  · refine s_aloadN X0 hx (D d16_0) rfl rfl ?_
    refine st1 _ ?_
    refine s_iloadN X1 hx (D d16_4) rfl ?_
    refine X1.iaload hx (j := (0 : Int32)) (v := (.int en0)) (by rw [e1]; exact (Ar2).1) (State.isArrayOf_alike hZ.alike (Ar2).2.1) (Ar2).2.2 hin2 (H2.at hin2 rfl) (g := (mkF m 5 #[.val (.ref hp), .val (.int (0 : Int32)), .unset, .unset, .unset] [(.int (0 : Int32)), (.ref aE)])) rfl rfl (D d16_5) _ ?_
    refine s_istoreN X1 hx (D d16_6) (l' := #[.val (.ref hp), .val (.int (0 : Int32)), .val (.int en0), .unset, .unset]) rfl ?_
    refine s_iloadN X1 hx (D d16_7) rfl ?_
    refine s_istoreN X1 hx (D d16_8) (l' := #[.val (.ref hp), .val (.int (0 : Int32)), .val (.int en0), .val (.int (0 : Int32)), .unset]) rfl ?_
    refine s_iconst X1 hx (2 : Int32) (D d16_9) rfl ?_
    refine s_iloadN X1 hx (D d16_10) rfl ?_
    refine s_imul X1 hx (D d16_11) (r := (0 : Int32)) (by decide) ?_
    refine s_iconst X1 hx (1 : Int32) (D d16_12) rfl ?_
    refine s_iadd X1 hx (D d16_13) (r := (1 : Int32)) (by decide) ?_
    refine s_istore X1 hx (D d16_14) (l' := #[.val (.ref hp), .val (.int (0 : Int32)), .val (.int en0), .val (.int (0 : Int32)), .val (.int (1 : Int32))]) rfl ?_
    refine s_iload X1 hx (D d16_16) rfl ?_
    refine s_aloadN X1 hx (D d16_18) rfl rfl ?_
    refine st3 _ ?_
    refine s_icmpNo X3 hx (D d16_22) (flt (by decide : ¬ ((1 : Int32) < (1 : Int32)))).1 ?_
    refine s_goto X3 hx 111 (D d16_25) (of_decide_eq_true rfl) rfl ?_
    refine s_aloadN X3 hx (D d16_111) rfl rfl ?_
    refine s_iloadN X3 hx (D d16_112) rfl ?_
    refine s_iloadN X3 hx (D d16_113) rfl ?_
    refine st4.trans ?_
    exact X4.returnOut hx Bd.returns (D d16_117) hr
  · show Q_rm_down_03 Z hp (0 : Int32) kq aF aO aW aK aB aA aI lo aE aP cK kK kE kP (1 : Int32) en0 en1 en2 en3 po0 po1 po2 po3 h0 n0 _ T4.heap _
    exact ⟨en0, en1, en2, en3, (s4 en0 0 (0 : Int32) po0), (s4 en0 1 (0 : Int32) po1), (s4 en0 2 (0 : Int32) po2), (s4 en0 3 (0 : Int32) po3), rfl, N4, KK4, Q4_0, Q4_1, (own_l11 HI0)⟩
theorem own_l12_k : ∀ L ∈ hAll, L.length = 2 → [(L.getD 0 0), (L.getD 1 0)] ∈ hAll ∧ hPos [(L.getD 0 0), (L.getD 1 0)] 0 = (s4 (L.getD 0 0) 0 (0 : Int32) (hPos L 0)) ∧ hPos [(L.getD 0 0), (L.getD 1 0)] 1 = (s4 (L.getD 0 0) 1 (0 : Int32) (hPos L 1)) ∧ hPos [(L.getD 0 0), (L.getD 1 0)] 2 = (s4 (L.getD 0 0) 2 (0 : Int32) (hPos L 2)) ∧ hPos [(L.getD 0 0), (L.getD 1 0)] 3 = (s4 (L.getD 0 0) 3 (0 : Int32) (hPos L 3)) ∧ ((s4 (L.getD 0 0) 0 (0 : Int32) (hPos L 0)) = -1 ↔ hPos L 0 = -1) ∧ ((s4 (L.getD 0 0) 1 (0 : Int32) (hPos L 1)) = -1 ↔ hPos L 1 = -1) ∧ ((s4 (L.getD 0 0) 2 (0 : Int32) (hPos L 2)) = -1 ↔ hPos L 2 = -1) ∧ ((s4 (L.getD 0 0) 3 (0 : Int32) (hPos L 3)) = -1 ↔ hPos L 3 = -1) := by decide +kernel
theorem own_l12 {e0 e1 e2 e3 p0 p1 p2 p3 : Int32} (H : HI (2 : Int32) e0 e1 e2 e3 p0 p1 p2 p3) : HI (2 : Int32) e0 e1 e2 e3 (s4 e0 0 (0 : Int32) p0) (s4 e0 1 (0 : Int32) p1) (s4 e0 2 (0 : Int32) p2) (s4 e0 3 (0 : Int32) p3) ∧ SM p0 p1 p2 p3 (s4 e0 0 (0 : Int32) p0) (s4 e0 1 (0 : Int32) p1) (s4 e0 2 (0 : Int32) p2) (s4 e0 3 (0 : Int32) p3) := by
  obtain ⟨L, hL, hn, h0, h1, h2, h3, rfl, rfl, rfl, rfl⟩ := H
  have hlen : L.length = 2 := own_hl2 L hL hn
  have g0 := h0 (by omega); subst g0
  have g1 := h1 (by omega); subst g1
  have K := own_l12_k L hL hlen
  obtain ⟨k1, k2, k3, k4, k5, k6⟩ := K
  refine ⟨⟨[(L.getD 0 0), (L.getD 1 0)], k1, rfl, ?_, ?_, ?_, ?_, k2.symm, k3.symm, k4.symm, k5.symm⟩, k6⟩
  all_goals (intro hh; first | rfl | (exfalso; revert hh; decide) | (exfalso; simp at hh))
theorem own_l13_k : ∀ L ∈ hAll, L.length = 2 → [(L.getD 1 0), (L.getD 0 0)] ∈ hAll ∧ hPos [(L.getD 1 0), (L.getD 0 0)] 0 = (s4 (L.getD 0 0) 0 (1 : Int32) (s4 (L.getD 1 0) 0 (0 : Int32) (hPos L 0))) ∧ hPos [(L.getD 1 0), (L.getD 0 0)] 1 = (s4 (L.getD 0 0) 1 (1 : Int32) (s4 (L.getD 1 0) 1 (0 : Int32) (hPos L 1))) ∧ hPos [(L.getD 1 0), (L.getD 0 0)] 2 = (s4 (L.getD 0 0) 2 (1 : Int32) (s4 (L.getD 1 0) 2 (0 : Int32) (hPos L 2))) ∧ hPos [(L.getD 1 0), (L.getD 0 0)] 3 = (s4 (L.getD 0 0) 3 (1 : Int32) (s4 (L.getD 1 0) 3 (0 : Int32) (hPos L 3))) ∧ ((s4 (L.getD 0 0) 0 (1 : Int32) (s4 (L.getD 1 0) 0 (0 : Int32) (hPos L 0))) = -1 ↔ hPos L 0 = -1) ∧ ((s4 (L.getD 0 0) 1 (1 : Int32) (s4 (L.getD 1 0) 1 (0 : Int32) (hPos L 1))) = -1 ↔ hPos L 1 = -1) ∧ ((s4 (L.getD 0 0) 2 (1 : Int32) (s4 (L.getD 1 0) 2 (0 : Int32) (hPos L 2))) = -1 ↔ hPos L 2 = -1) ∧ ((s4 (L.getD 0 0) 3 (1 : Int32) (s4 (L.getD 1 0) 3 (0 : Int32) (hPos L 3))) = -1 ↔ hPos L 3 = -1) := by decide +kernel
theorem own_l13 {e0 e1 e2 e3 p0 p1 p2 p3 : Int32} (H : HI (2 : Int32) e0 e1 e2 e3 p0 p1 p2 p3) : HI (2 : Int32) e1 e0 e2 e3 (s4 e0 0 (1 : Int32) (s4 e1 0 (0 : Int32) p0)) (s4 e0 1 (1 : Int32) (s4 e1 1 (0 : Int32) p1)) (s4 e0 2 (1 : Int32) (s4 e1 2 (0 : Int32) p2)) (s4 e0 3 (1 : Int32) (s4 e1 3 (0 : Int32) p3)) ∧ SM p0 p1 p2 p3 (s4 e0 0 (1 : Int32) (s4 e1 0 (0 : Int32) p0)) (s4 e0 1 (1 : Int32) (s4 e1 1 (0 : Int32) p1)) (s4 e0 2 (1 : Int32) (s4 e1 2 (0 : Int32) p2)) (s4 e0 3 (1 : Int32) (s4 e1 3 (0 : Int32) p3)) := by
  obtain ⟨L, hL, hn, h0, h1, h2, h3, rfl, rfl, rfl, rfl⟩ := H
  have hlen : L.length = 2 := own_hl2 L hL hn
  have g0 := h0 (by omega); subst g0
  have g1 := h1 (by omega); subst g1
  have K := own_l13_k L hL hlen
  obtain ⟨k1, k2, k3, k4, k5, k6⟩ := K
  refine ⟨⟨[(L.getD 1 0), (L.getD 0 0)], k1, rfl, ?_, ?_, ?_, ?_, k2.symm, k3.symm, k4.symm, k5.symm⟩, k6⟩
  all_goals (intro hh; first | rfl | (exfalso; revert hh; decide) | (exfalso; simp at hh))
theorem ef_rm_down_02 (m : MethodId) (x0 : Addr) (x1 : Int32) : entryFrame m #[(.ref x0), (.int x1)] 5 = mkF m 0 #[.val (.ref x0), .val (.int x1), .unset, .unset, .unset] [] := by first | (simp [entryFrame, mkF, argsToLocals, Value.category]; done) | rfl
set_option maxRecDepth 65536 in
set_option maxHeartbeats 40000000 in
theorem rm_down_02 (l : Launch) (Z : State) (a0 : Array Value) (hw : ∀ d ∈ tables_1, d.before a0 Z = true) (ws : List Jvm.Cond) (hp : Addr) (pp : Int32) (kq aF aO aW aK aB aA aI lo aE aP : Addr) (cK kK kE kP : ClassId) (sz en0 en1 en2 en3 po0 po1 po2 po3 : Int32) (h0 : Heap) (n0 : Nat) (O0 : Old Z n0 h0) (E_hp : Exa Z h0 hp "com/example/leasewise/leasewise/IndexedHeap") (F_hp_order : Fld Z h0 hp "com/example/leasewise/leasewise/IndexedHeap" "order" "Lcom/example/leasewise/leasewise/IndexedHeap$Order;" (.ref lo)) (F_hp_entries : Fld Z h0 hp "com/example/leasewise/leasewise/IndexedHeap" "entries" "[I" (.ref aE)) (F_hp_positions : Fld Z h0 hp "com/example/leasewise/leasewise/IndexedHeap" "positions" "[I" (.ref aP)) (F_hp_size : Fld Z h0 hp "com/example/leasewise/leasewise/IndexedHeap" "size" "I" (.int sz)) (E_kq : Exa Z h0 kq "com/example/leasewise/leasewise/KilometreQueue") (F_kq_keys : Fld Z h0 kq "com/example/leasewise/leasewise/KilometreQueue" "keys" "[J" (.ref aK)) (MDc : Jvm.LamKit.Made Z "com/example/leasewise/leasewise/KilometreQueue" sgm cK) (V_aE : Arv Z h0 aE kE .int (4 : Int32) [(.int en0), (.int en1), (.int en2), (.int en3)] (.int (0 : Int32))) (V_aP : Arv Z h0 aP kP .int (4 : Int32) [(.int po0), (.int po1), (.int po2), (.int po3)] (.int (-1 : Int32))) (g_aE : n0 ≤ aE) (g_aP : n0 ≤ aP) (NDp : List.Nodup [kq, aF, aO, aW, aK, aB, aA, aI, hp, lo, aE, aP]) (HI0 : HI sz en0 en1 en2 en3 po0 po1 po2 po3) (hpp : pp = (0 : Int32)) (hsz : sz = (2 : Int32)) (V_aK : Arp Z h0 aK kK .long (4 : Int32) PJ) (Y_lo : LamO h0 lo cK kq) :
    MetFree l (⟨"com/example/leasewise/leasewise/IndexedHeap", "siftDown", "(I)V"⟩ : MethodName) (head1 (Jvm.Cond.code (⟨"com/example/leasewise/leasewise/IndexedHeap", "siftDown", "(I)V"⟩ : MethodName) prog_35_method_9_code 5 none :: ws) ({ frames := 2, cells := 0, slots := 0, locals := 28 } : Room)) (fun a U => a = #[(.ref hp), (.int pp)] ∧ Z.WarmedH U.vm ∧ U.heap = h0) (fun _ _ _ _ _ => True) (fun _ U o U' => ∃ v L, o = .returned v ∧ Q_rm_down_03 Z hp pp kq aF aO aW aK aB aA aI lo aE aP cK kK kE kP sz en0 en1 en2 en3 po0 po1 po2 po3 h0 n0 v U'.heap L ∧ FrameEnd U o U' L ({ frames := 2, cells := 0, slots := 0, locals := 28 } : Room).cells ({ frames := 2, cells := 0, slots := 0, locals := 28 } : Room).slots) := by
  refine MetFree.of_bodySF (plainFor_of_name pn_1) hisR ?_
  intro p e s m args below meth c s₁ Bd hml0 hP hK
  obtain ⟨rfl, hZH, hh⟩ := hP
  have hZ := hZH.wide
  have hx := Bd.exec
  have hby := Bd.bytes
  have D := fun {pc : Nat} {r : Except ClassFile.DecodeError (ClassFile.Instr × Nat)} (q : decode prog_35_method_9_code pc = r) => hb (pc := pc) hby q
  have hml : c.maxLocals = 5 := hml0
  have hown : s.vm.findClass "com/example/leasewise/leasewise/IndexedHeap" = some m.cls := findClass_of_methodNamed Bd.named
  have hnm := (name_of_methodNamed Bd.named Bd.method).1
  have X0 : Stand p l e ({ frames := 2, cells := 0, slots := 0, locals := 28 } : Room) s m #[(.ref hp), (.int pp)] below meth c s₁ [] 0 0 := Stand.of_body Bd
  have e0 : s₁.heap = h0 := by rw [← hh, Bd.state]; rfl
  have N0 := Fr.nil n0
  have pre0 : ∀ t, Steps p.tables e below (s₁.setTop (mkF m 0 #[.val (.ref hp), .val (.int pp), .unset, .unset, .unset] [])) t → Steps p.tables e below (s₁.setTop (entryFrame m #[(.ref hp), (.int pp)] 5)) t := fun t k => castTop (ef_rm_down_02 m (hp) (pp)) k
  have wd := fun {d : Jvm.Cond} (i : Nat) (h : tables_1[i]? = some d) => hw d (List.mem_of_getElem? h)
  subst hpp hsz
  obtain ⟨T1, X1, e1, st1⟩ := getF X0 hx hZ hown (host := "") (Or.inl (wd 44 rfl)) Via.refl e0 F_hp_entries (g := (mkF m 1 #[.val (.ref hp), .val (.int (0 : Int32)), .unset, .unset, .unset] [(.ref hp)])) rfl rfl (D d16_1)
  obtain ⟨cl2, Ar2, q2, S2, Nn2, H2, G2⟩ := id V_aE
  have hin2 : ¬ ((0 : Int32) < 0 ∨ cl2.slots.size ≤ ((0 : Int32)).toNatClampNeg) := inb_of S2 ⟨by decide, by decide⟩
  obtain ⟨T3, X3, e3, st3⟩ := getF X1 hx hZ hown (host := "") (Or.inl (wd 86 rfl)) Via.refl e1 F_hp_size (g := (mkF m 19 #[.val (.ref hp), .val (.int (0 : Int32)), .val (.int en0), .val (.int (0 : Int32)), .val (.int (1 : Int32))] [(.ref hp), (.int (1 : Int32))])) rfl rfl (D d16_19)
  obtain ⟨T4, X4, e4, st4⟩ := getF X3 hx hZ hown (host := "") (Or.inl (wd 86 rfl)) Via.refl e3 F_hp_size (g := (mkF m 33 #[.val (.ref hp), .val (.int (0 : Int32)), .val (.int en0), .val (.int (0 : Int32)), .val (.int (1 : Int32))] [(.ref hp), (.int (2 : Int32))])) rfl rfl (D d16_33)
  obtain ⟨T5, X5, e5, st5⟩ := getF X4 hx hZ hown (host := "") (Or.inl (wd 42 rfl)) Via.refl e4 F_hp_order (g := (mkF m 71 #[.val (.ref hp), .val (.int (0 : Int32)), .val (.int en0), .val (.int (0 : Int32)), .val (.int (1 : Int32))] [(.ref hp)])) rfl rfl (D d16_71)
  obtain ⟨T6, X6, e6, st6⟩ := getF X5 hx hZ hown (host := "") (Or.inl (wd 44 rfl)) Via.refl e5 F_hp_entries (g := (mkF m 75 #[.val (.ref hp), .val (.int (0 : Int32)), .val (.int en0), .val (.int (0 : Int32)), .val (.int (1 : Int32))] [(.ref hp), (.ref lo)])) rfl rfl (D d16_75)
  obtain ⟨cl7, Ar7, q7, S7, Nn7, H7, G7⟩ := id V_aE
  have hin7 : ¬ ((1 : Int32) < 0 ∨ cl7.slots.size ≤ ((1 : Int32)).toNatClampNeg) := inb_of S7 ⟨by decide, by decide⟩
  obtain ⟨cy8, yc8, yk8, yv8, ys8⟩ := id Y_lo
  obtain ⟨mk8, ck8, U8, sb8, Y8, hb8, hm8, hr8, hZ8, eU8, out8⟩ := own_enter X6 hx hZH (host := "com/example/leasewise/leasewise/KilometreQueue") (σ := sgm) (xi := (⟨"com/example/leasewise/leasewise/IndexedHeap$Order", "before", "(II)Z"⟩ : MethodName)) hown (wd 96 rfl) (wd 97 rfl) (mvT hZ (wd 98 rfl)) (by decide +kernel) (by decide) MDc (LamO.fn Y_lo e6) own_fwdok (g := (mkF m 82 #[.val (.ref hp), .val (.int (0 : Int32)), .val (.int en0), .val (.int (0 : Int32)), .val (.int (1 : Int32))] [(.int en0), (.int en1), (.ref lo)])) rfl (by rw [hml]; rfl) (argsL := [(.int en1), (.int en0)]) (rest := []) (L0 := #[.val (.ref lo), .val (.int en1), .val (.int en0)]) (lenOf pd_0 rfl) rfl (D d16_82) (fun _ => by first | rfl | (simp [entryFrame, mkF, argsToLocals, Value.category]; done)) (R' := ({ frames := 1, cells := 0, slots := 0, locals := 14 } : Room)) (by decide) (Nat.le_of_ble_eq_true rfl) (by decide) (by decide)
  obtain ⟨_, ⟨T8, L8, k8, n8⟩, Yx8, ⟨Lc8, hQ8, l8, y8, z8⟩, sx8⟩ := own_fvp Y8 hx hZ8 MDc rfl own_refok (by decide) (wd 101 rfl) (own_selpriv (y := (⟨"com/example/leasewise/leasewise/KilometreQueue", "lambda$new$0", "(II)Z"⟩ : MethodName)) (wd 54 rfl) rfl (Cond.privateMethod_at (wd 100 rfl)) (wd 99 rfl) (by decide)) (wd 99 rfl) (own_backH (W := 0) (rm_lam l Z a0 hw [] kq en1 en0 aK kK h0 n0 O0 E_kq F_kq_keys (own_en_1 HI0 (by decide)) (own_en_0 HI0 (by decide)) V_aK) hZ8 (wd 101 rfl) (wd 2 rfl) (by decide) (by decide)) (eU8.trans e6) E_kq (g := mkF ⟨cK, 1⟩ 6 #[.val (.ref lo), .val (.int en1), .val (.int en0)] [(.int en0), (.int en1), .ref kq]) rfl (by rw [hm8]; rfl) (argsL := [(.int en1), (.int en0)]) (rest := []) (lenOf pd_0 rfl) rfl (by show 2 * 0 + _ ≤ _; exact Nat.le_of_eq rfl) (by rw [hb8]; exact own_f6) ⟨rfl, (eU8.trans e6), Nat.le_of_ble_eq_true rfl, Nat.le_of_ble_eq_true rfl⟩
  dsimp only [Pt.U, Pt.locs, Pt.cells, Pt.slots] at Yx8 l8 y8 z8 sx8 hQ8
  subst l8 y8 z8
  obtain ⟨r__8, rfl, N8q, K8, Q8_0⟩ := hQ8
  have O8 := O0.keep K8 all0
  have KK8 : Keep h0 T8.heap [aE, aP] := (Keep.refl h0 [aE, aP]).trans K8 all0
  have sf8 : Steps p.tables e (.java { (mkF m 82 #[.val (.ref hp), .val (.int (0 : Int32)), .val (.int en0), .val (.int (0 : Int32)), .val (.int (1 : Int32))] [(.int en0), (.int en1), (.ref lo)]) with stack := [] } :: below) (U8.setTop (mkF ⟨cK, 1⟩ 0 #[.val (.ref lo), .val (.int en1), .val (.int en0)] [])) (T8.setTop (mkF ⟨cK, 1⟩ 9 #[.val (.ref lo), .val (.int en1), .val (.int en0)] [(.int r__8)])) := by
    refine XS.aloadN Y8.here hx rfl (by rw [hb8]; exact own_f0) rfl rfl ?_
    refine getCap (s := Z) hx Y8.here (State.WarmedH.trans hZ8 Y8.warmed) MDc own_capok (wd 37 rfl) (by rw [(eU8.trans e6)]; exact yc8) yv8 ys8 rfl rfl (by rw [hb8]; exact own_f1) ?_
    refine XS.iloadN Y8.here hx rfl (by rw [hb8]; exact own_f4) rfl ?_
    refine XS.iloadN Y8.here hx rfl (by rw [hb8]; exact own_f5) rfl ?_
    exact sx8 _ (Steps.refl _)
  obtain ⟨Tc8, Xc8, eo8, so8⟩ := out8 T8 _ _ _ (some (.int r__8)) 9 #[.val (.ref lo), .val (.int en1), .val (.int en0)] .ireturn Yx8 (by rw [hb8]; exact own_f9) (Or.inl ⟨.boolean, _, rfl, Or.inr (Or.inl rfl), own_nb01 Q8_0, rfl, rfl⟩) sf8
  have N8 := Fr.app N0 (Fr.app (Fr.nil n0) N8q)
  have cs9 : Steps p.tables e below (s₁.setTop (mkF m 0 #[.val (.ref hp), .val (.int (0 : Int32)), .unset, .unset, .unset] [])) (Tc8.setTop (mkF m 87 #[.val (.ref hp), .val (.int (0 : Int32)), .val (.int en0), .val (.int (0 : Int32)), .val (.int (1 : Int32))] [(.int r__8)])) := (by
    refine s_aloadN X0 hx (D d16_0) rfl rfl ?_
    refine st1 _ ?_
    refine s_iloadN X1 hx (D d16_4) rfl ?_
    refine X1.iaload hx (j := (0 : Int32)) (v := (.int en0)) (by rw [e1]; exact (Ar2).1) (State.isArrayOf_alike hZ.alike (Ar2).2.1) (Ar2).2.2 hin2 (H2.at hin2 rfl) (g := (mkF m 5 #[.val (.ref hp), .val (.int (0 : Int32)), .unset, .unset, .unset] [(.int (0 : Int32)), (.ref aE)])) rfl rfl (D d16_5) _ ?_
    refine s_istoreN X1 hx (D d16_6) (l' := #[.val (.ref hp), .val (.int (0 : Int32)), .val (.int en0), .unset, .unset]) rfl ?_
    refine s_iloadN X1 hx (D d16_7) rfl ?_
    refine s_istoreN X1 hx (D d16_8) (l' := #[.val (.ref hp), .val (.int (0 : Int32)), .val (.int en0), .val (.int (0 : Int32)), .unset]) rfl ?_
    refine s_iconst X1 hx (2 : Int32) (D d16_9) rfl ?_
    refine s_iloadN X1 hx (D d16_10) rfl ?_
    refine s_imul X1 hx (D d16_11) (r := (0 : Int32)) (by decide) ?_
    refine s_iconst X1 hx (1 : Int32) (D d16_12) rfl ?_
    refine s_iadd X1 hx (D d16_13) (r := (1 : Int32)) (by decide) ?_
    refine s_istore X1 hx (D d16_14) (l' := #[.val (.ref hp), .val (.int (0 : Int32)), .val (.int en0), .val (.int (0 : Int32)), .val (.int (1 : Int32))]) rfl ?_
    refine s_iload X1 hx (D d16_16) rfl ?_
    refine s_aloadN X1 hx (D d16_18) rfl rfl ?_
    refine st3 _ ?_
    refine s_icmpYes X3 hx 28 (D d16_22) (tlt (by decide : (1 : Int32) < (2 : Int32))).1 (of_decide_eq_true rfl) rfl ?_
    refine s_iload X3 hx (D d16_28) rfl ?_
    refine s_iconst X3 hx (1 : Int32) (D d16_30) rfl ?_
    refine s_iadd X3 hx (D d16_31) (r := (2 : Int32)) (by decide) ?_
    refine s_aloadN X3 hx (D d16_32) rfl rfl ?_
    refine st4 _ ?_
    refine s_icmpYes X4 hx 70 (D d16_36) (flt (by decide : ¬ ((2 : Int32) < (2 : Int32)))).2.1 (of_decide_eq_true rfl) rfl ?_
    refine s_aloadN X4 hx (D d16_70) rfl rfl ?_
    refine st5 _ ?_
    refine s_aloadN X5 hx (D d16_74) rfl rfl ?_
    refine st6 _ ?_
    refine s_iload X6 hx (D d16_78) rfl ?_
    refine X6.iaload hx (j := (1 : Int32)) (v := (.int en1)) (by rw [e6]; exact (Ar7).1) (State.isArrayOf_alike hZ.alike (Ar7).2.1) (Ar7).2.2 hin7 (H7.at hin7 rfl) (g := (mkF m 80 #[.val (.ref hp), .val (.int (0 : Int32)), .val (.int en0), .val (.int (0 : Int32)), .val (.int (1 : Int32))] [(.int (1 : Int32)), (.ref aE), (.ref lo)])) rfl rfl (D d16_80) _ ?_
    refine s_iloadN X6 hx (D d16_81) rfl ?_
    refine so8 _ ?_
    exact Steps.refl _)
  by_cases hc10 : r__8 = (0 : Int32)
  · have f11 := (E_hp.keep K8)
    have f12 := (F_hp_order.keep K8 nin0)
    have f13 := (F_hp_entries.keep K8 nin0)
    have f14 := (F_hp_positions.keep K8 nin0)
    have f15 := (V_aE.keep K8 nin0)
    have f16 := (V_aP.keep K8 nin0)
    obtain ⟨cq17, q17, q17'⟩ := f11.cell
    obtain ⟨_, _, ⟨T17, L17, k17, n17⟩, -, X17, ⟨Lc17, hQ17, l17, y17, z17⟩, st17⟩ := Xc8.privateBack hx (y := (⟨"com/example/leasewise/leasewise/IndexedHeap", "place", "(II)V"⟩ : MethodName)) hown (mvT hZ (wd 92 rfl)) (mvT hZ (wd 93 rfl)) (own_selpriv (y := (⟨"com/example/leasewise/leasewise/IndexedHeap", "place", "(II)V"⟩ : MethodName)) (mvT hZ (wd 59 rfl)) rfl (Cond.privateMethod_at (mvP hZ (wd 94 rfl) (args := #[]))) (mvT hZ (wd 93 rfl)) (by decide)) (Cond.privateMethod_at (mvP hZ (wd 94 rfl) (args := #[]))) (mvT hZ (wd 95 rfl)) (by decide) (own_backH (W := 0) (rm_place_0 l Z a0 hw [] hp en0 kq aF aO aW aK aB aA aI lo aE aP kE kP en0 en1 en2 en3 po0 po1 po2 po3 T8.heap n0 O8 f11 f12 f13 f14 f15 f16 g_aE g_aP NDp (own_en_0 HI0 (by decide))) hZH (wd 95 rfl) (wd 33 rfl) (by decide) (by decide)) (g := (mkF m 114 #[.val (.ref hp), .val (.int (0 : Int32)), .val (.int en0), .val (.int (0 : Int32)), .val (.int (1 : Int32))] [(.int (0 : Int32)), (.int en0), (.ref hp)])) rfl (by rw [hml]; rfl) (Steps.refl _) (a := hp) (by rw [eo8]; exact q17) q17' (argsL := [(.int en0), (.int (0 : Int32))]) (rest := []) (lenOf pd_1 rfl) rfl (by show 2 * 0 + _ ≤ _; exact Nat.le_of_eq rfl) (D d16_114) (fun _ _ => ⟨rfl, eo8, (by decide : 0 + 0 ≤ _), (by decide : 0 + 0 ≤ _)⟩)
    dsimp only [Pt.U, Pt.locs, Pt.cells, Pt.slots] at X17 l17 y17 z17 st17 hQ17
    subst l17 y17 z17
    obtain ⟨rfl, N17q, K17, Q17_0, Q17_1⟩ := hQ17
    have O17 := O8.keep K17 (allS g_aE (allS g_aP all0))
    have KK17 : Keep h0 T17.heap [aE, aP] := KK8.trans K17 (allS (own_mem 0 rfl) (allS (own_mem 1 rfl) all0))
    have N17 := Fr.app N8 N17q
    obtain ⟨fs, hr, hrun, hended, hW, hsame⟩ := X17.leave (v := none) (fun _ => rfl)
    refine ⟨_, _, pre0 _ ?_, hrun, hended, _, _, rfl, ?_, ⟨_, rfl⟩, hW, hsame.mono (by decide) (by decide)⟩
    · refine cs9.trans ?_
      refine s_ifNo Xc8 hx (D d16_87) ((if0 _ _).trans (teq hc10).2) ?_
      refine s_goto Xc8 hx 111 (D d16_90) (of_decide_eq_true rfl) rfl ?_
      refine s_aloadN Xc8 hx (D d16_111) rfl rfl ?_
      refine s_iloadN Xc8 hx (D d16_112) rfl ?_
      refine s_iloadN Xc8 hx (D d16_113) rfl ?_
      refine st17.trans ?_
      exact X17.returnOut hx Bd.returns (D d16_117) hr
    · show Q_rm_down_03 Z hp (0 : Int32) kq aF aO aW aK aB aA aI lo aE aP cK kK kE kP (2 : Int32) en0 en1 en2 en3 po0 po1 po2 po3 h0 n0 _ T17.heap _
      exact ⟨en0, en1, en2, en3, (s4 en0 0 (0 : Int32) po0), (s4 en0 1 (0 : Int32) po1), (s4 en0 2 (0 : Int32) po2), (s4 en0 3 (0 : Int32) po3), rfl, N17, KK17, Q17_0, Q17_1, (own_l12 HI0)⟩
  · have f18 := (F_hp_entries.keep K8 nin0)
    obtain ⟨T19, X19, e19, st19⟩ := getF Xc8 hx hZ hown (host := "") (Or.inl (wd 44 rfl)) Via.refl eo8 f18 (g := (mkF m 95 #[.val (.ref hp), .val (.int (0 : Int32)), .val (.int en0), .val (.int (0 : Int32)), .val (.int (1 : Int32))] [(.ref hp), (.ref hp)])) rfl rfl (D d16_95)
    have f21 := (V_aE.keep K8 nin0)
    obtain ⟨cl20, Ar20, q20, S20, Nn20, H20, G20⟩ := id f21
    have hin20 : ¬ ((1 : Int32) < 0 ∨ cl20.slots.size ≤ ((1 : Int32)).toNatClampNeg) := inb_of S20 ⟨by decide, by decide⟩
    have f22 := (E_hp.keep K8)
    have f23 := (F_hp_order.keep K8 nin0)
    have f24 := (F_hp_positions.keep K8 nin0)
    have f25 := (V_aP.keep K8 nin0)
    obtain ⟨cq26, q26, q26'⟩ := f22.cell
    obtain ⟨_, _, ⟨T26, L26, k26, n26⟩, -, X26, ⟨Lc26, hQ26, l26, y26, z26⟩, st26⟩ := X19.privateBack hx (y := (⟨"com/example/leasewise/leasewise/IndexedHeap", "place", "(II)V"⟩ : MethodName)) hown (mvT hZ (wd 92 rfl)) (mvT hZ (wd 93 rfl)) (own_selpriv (y := (⟨"com/example/leasewise/leasewise/IndexedHeap", "place", "(II)V"⟩ : MethodName)) (mvT hZ (wd 59 rfl)) rfl (Cond.privateMethod_at (mvP hZ (wd 94 rfl) (args := #[]))) (mvT hZ (wd 93 rfl)) (by decide)) (Cond.privateMethod_at (mvP hZ (wd 94 rfl) (args := #[]))) (mvT hZ (wd 95 rfl)) (by decide) (own_backH (W := 0) (rm_place_0 l Z a0 hw [] hp en1 kq aF aO aW aK aB aA aI lo aE aP kE kP en0 en1 en2 en3 po0 po1 po2 po3 T8.heap n0 O8 f22 f23 f18 f24 f21 f25 g_aE g_aP NDp (own_en_1 HI0 (by decide))) hZH (wd 95 rfl) (wd 33 rfl) (by decide) (by decide)) (g := (mkF m 102 #[.val (.ref hp), .val (.int (0 : Int32)), .val (.int en0), .val (.int (0 : Int32)), .val (.int (1 : Int32))] [(.int (0 : Int32)), (.int en1), (.ref hp)])) rfl (by rw [hml]; rfl) (Steps.refl _) (a := hp) (by rw [e19]; exact q26) q26' (argsL := [(.int en1), (.int (0 : Int32))]) (rest := []) (lenOf pd_1 rfl) rfl (by show 2 * 0 + _ ≤ _; exact Nat.le_of_eq rfl) (D d16_102) (fun _ _ => ⟨rfl, e19, (by decide : 0 + 0 ≤ _), (by decide : 0 + 0 ≤ _)⟩)
    dsimp only [Pt.U, Pt.locs, Pt.cells, Pt.slots] at X26 l26 y26 z26 st26 hQ26
    subst l26 y26 z26
    obtain ⟨rfl, N26q, K26, Q26_0, Q26_1⟩ := hQ26
    have O26 := O8.keep K26 (allS g_aE (allS g_aP all0))
    have KK26 : Keep h0 T26.heap [aE, aP] := KK8.trans K26 (allS (own_mem 0 rfl) (allS (own_mem 1 rfl) all0))
    have N26 := Fr.app N8 N26q
    have f27 := ((F_hp_size.keep K8 nin0).keep K26 (nn3 NDp))
    obtain ⟨T28, X28, e28, st28⟩ := getF X26 hx hZ hown (host := "") (Or.inl (wd 86 rfl)) Via.refl rfl f27 (g := (mkF m 19 #[.val (.ref hp), .val (.int (0 : Int32)), .val (.int en0), .val (.int (1 : Int32)), .val (.int (3 : Int32))] [(.ref hp), (.int (3 : Int32))])) rfl rfl (D d16_19)
    have f29 := (f22.keep K26)
    have f30 := (f23.keep K26 (nn3 NDp))
    have f31 := (f18.keep K26 (nn3 NDp))
    have f32 := (f24.keep K26 (nn3 NDp))
    obtain ⟨cq33, q33, q33'⟩ := f29.cell
    obtain ⟨_, _, ⟨T33, L33, k33, n33⟩, -, X33, ⟨Lc33, hQ33, l33, y33, z33⟩, st33⟩ := X28.privateBack hx (y := (⟨"com/example/leasewise/leasewise/IndexedHeap", "place", "(II)V"⟩ : MethodName)) hown (mvT hZ (wd 92 rfl)) (mvT hZ (wd 93 rfl)) (own_selpriv (y := (⟨"com/example/leasewise/leasewise/IndexedHeap", "place", "(II)V"⟩ : MethodName)) (mvT hZ (wd 59 rfl)) rfl (Cond.privateMethod_at (mvP hZ (wd 94 rfl) (args := #[]))) (mvT hZ (wd 93 rfl)) (by decide)) (Cond.privateMethod_at (mvP hZ (wd 94 rfl) (args := #[]))) (mvT hZ (wd 95 rfl)) (by decide) (own_backH (W := 0) (rm_place_1 l Z a0 hw [] hp en0 kq aF aO aW aK aB aA aI lo aE aP kE kP en1 en1 en2 en3 (s4 en1 0 (0 : Int32) po0) (s4 en1 1 (0 : Int32) po1) (s4 en1 2 (0 : Int32) po2) (s4 en1 3 (0 : Int32) po3) T26.heap n0 O26 f29 f30 f31 f32 Q26_0 Q26_1 g_aE g_aP NDp (own_en_0 HI0 (by decide))) hZH (wd 95 rfl) (wd 33 rfl) (by decide) (by decide)) (g := (mkF m 114 #[.val (.ref hp), .val (.int (0 : Int32)), .val (.int en0), .val (.int (1 : Int32)), .val (.int (3 : Int32))] [(.int (1 : Int32)), (.int en0), (.ref hp)])) rfl (by rw [hml]; rfl) (Steps.refl _) (a := hp) (by rw [e28]; exact q33) q33' (argsL := [(.int en0), (.int (1 : Int32))]) (rest := []) (lenOf pd_1 rfl) rfl (by show 2 * 0 + _ ≤ _; exact Nat.le_of_eq rfl) (D d16_114) (fun _ _ => ⟨rfl, e28, (by decide : 0 + 0 ≤ _), (by decide : 0 + 0 ≤ _)⟩)
    dsimp only [Pt.U, Pt.locs, Pt.cells, Pt.slots] at X33 l33 y33 z33 st33 hQ33
    subst l33 y33 z33
    obtain ⟨rfl, N33q, K33, Q33_0, Q33_1⟩ := hQ33
    have O33 := O26.keep K33 (allS g_aE (allS g_aP all0))
    have KK33 : Keep h0 T33.heap [aE, aP] := KK26.trans K33 (allS (own_mem 0 rfl) (allS (own_mem 1 rfl) all0))
    have N33 := Fr.app N26 N33q
    obtain ⟨fs, hr, hrun, hended, hW, hsame⟩ := X33.leave (v := none) (fun _ => rfl)
    refine ⟨_, _, pre0 _ ?_, hrun, hended, _, _, rfl, ?_, ⟨_, rfl⟩, hW, hsame.mono (by decide) (by decide)⟩
    · refine cs9.trans ?_
      refine s_ifYes Xc8 hx 93 (D d16_87) ((if0 _ _).trans (feq hc10).2) (of_decide_eq_true rfl) rfl ?_
      refine s_aloadN Xc8 hx (D d16_93) rfl rfl ?_
      refine s_aloadN Xc8 hx (D d16_94) rfl rfl ?_
      refine st19 _ ?_
      refine s_iload X19 hx (D d16_98) rfl ?_
      refine X19.iaload hx (j := (1 : Int32)) (v := (.int en1)) (by rw [e19]; exact (Ar20).1) (State.isArrayOf_alike hZ.alike (Ar20).2.1) (Ar20).2.2 hin20 (H20.at hin20 rfl) (g := (mkF m 100 #[.val (.ref hp), .val (.int (0 : Int32)), .val (.int en0), .val (.int (0 : Int32)), .val (.int (1 : Int32))] [(.int (1 : Int32)), (.ref aE), (.ref hp)])) rfl rfl (D d16_100) _ ?_
      refine s_iloadN X19 hx (D d16_101) rfl ?_
      refine st26.trans ?_
      refine s_iload X26 hx (D d16_105) rfl ?_
      refine s_istoreN X26 hx (D d16_107) (l' := #[.val (.ref hp), .val (.int (0 : Int32)), .val (.int en0), .val (.int (1 : Int32)), .val (.int (1 : Int32))]) rfl ?_
      refine s_goto X26 hx 9 (D d16_108) (of_decide_eq_true rfl) rfl ?_
      refine s_iconst X26 hx (2 : Int32) (D d16_9) rfl ?_
      refine s_iloadN X26 hx (D d16_10) rfl ?_
      refine s_imul X26 hx (D d16_11) (r := (2 : Int32)) (by decide) ?_
      refine s_iconst X26 hx (1 : Int32) (D d16_12) rfl ?_
      refine s_iadd X26 hx (D d16_13) (r := (3 : Int32)) (by decide) ?_
      refine s_istore X26 hx (D d16_14) (l' := #[.val (.ref hp), .val (.int (0 : Int32)), .val (.int en0), .val (.int (1 : Int32)), .val (.int (3 : Int32))]) rfl ?_
      refine s_iload X26 hx (D d16_16) rfl ?_
      refine s_aloadN X26 hx (D d16_18) rfl rfl ?_
      refine st28 _ ?_
      refine s_icmpNo X28 hx (D d16_22) (flt (by decide : ¬ ((3 : Int32) < (2 : Int32)))).1 ?_
      refine s_goto X28 hx 111 (D d16_25) (of_decide_eq_true rfl) rfl ?_
      refine s_aloadN X28 hx (D d16_111) rfl rfl ?_
      refine s_iloadN X28 hx (D d16_112) rfl ?_
      refine s_iloadN X28 hx (D d16_113) rfl ?_
      refine st33.trans ?_
      exact X33.returnOut hx Bd.returns (D d16_117) hr
    · show Q_rm_down_03 Z hp (0 : Int32) kq aF aO aW aK aB aA aI lo aE aP cK kK kE kP (2 : Int32) en0 en1 en2 en3 po0 po1 po2 po3 h0 n0 _ T33.heap _
      exact ⟨en1, en0, en2, en3, (s4 en0 0 (1 : Int32) (s4 en1 0 (0 : Int32) po0)), (s4 en0 1 (1 : Int32) (s4 en1 1 (0 : Int32) po1)), (s4 en0 2 (1 : Int32) (s4 en1 2 (0 : Int32) po2)), (s4 en0 3 (1 : Int32) (s4 en1 3 (0 : Int32) po3)), rfl, N33, KK33, Q33_0, Q33_1, (own_l13 HI0)⟩
theorem own_l14_k : ∀ L ∈ hAll, L.length = 2 → [(L.getD 0 0), (L.getD 1 0)] ∈ hAll ∧ hPos [(L.getD 0 0), (L.getD 1 0)] 0 = (s4 (L.getD 1 0) 0 (1 : Int32) (hPos L 0)) ∧ hPos [(L.getD 0 0), (L.getD 1 0)] 1 = (s4 (L.getD 1 0) 1 (1 : Int32) (hPos L 1)) ∧ hPos [(L.getD 0 0), (L.getD 1 0)] 2 = (s4 (L.getD 1 0) 2 (1 : Int32) (hPos L 2)) ∧ hPos [(L.getD 0 0), (L.getD 1 0)] 3 = (s4 (L.getD 1 0) 3 (1 : Int32) (hPos L 3)) ∧ ((s4 (L.getD 1 0) 0 (1 : Int32) (hPos L 0)) = -1 ↔ hPos L 0 = -1) ∧ ((s4 (L.getD 1 0) 1 (1 : Int32) (hPos L 1)) = -1 ↔ hPos L 1 = -1) ∧ ((s4 (L.getD 1 0) 2 (1 : Int32) (hPos L 2)) = -1 ↔ hPos L 2 = -1) ∧ ((s4 (L.getD 1 0) 3 (1 : Int32) (hPos L 3)) = -1 ↔ hPos L 3 = -1) := by decide +kernel
theorem own_l14 {e0 e1 e2 e3 p0 p1 p2 p3 : Int32} (H : HI (2 : Int32) e0 e1 e2 e3 p0 p1 p2 p3) : HI (2 : Int32) e0 e1 e2 e3 (s4 e1 0 (1 : Int32) p0) (s4 e1 1 (1 : Int32) p1) (s4 e1 2 (1 : Int32) p2) (s4 e1 3 (1 : Int32) p3) ∧ SM p0 p1 p2 p3 (s4 e1 0 (1 : Int32) p0) (s4 e1 1 (1 : Int32) p1) (s4 e1 2 (1 : Int32) p2) (s4 e1 3 (1 : Int32) p3) := by
  obtain ⟨L, hL, hn, h0, h1, h2, h3, rfl, rfl, rfl, rfl⟩ := H
  have hlen : L.length = 2 := own_hl2 L hL hn
  have g0 := h0 (by omega); subst g0
  have g1 := h1 (by omega); subst g1
  have K := own_l14_k L hL hlen
  obtain ⟨k1, k2, k3, k4, k5, k6⟩ := K
  refine ⟨⟨[(L.getD 0 0), (L.getD 1 0)], k1, rfl, ?_, ?_, ?_, ?_, k2.symm, k3.symm, k4.symm, k5.symm⟩, k6⟩
  all_goals (intro hh; first | rfl | (exfalso; revert hh; decide) | (exfalso; simp at hh))
theorem ef_rm_down_12 (m : MethodId) (x0 : Addr) (x1 : Int32) : entryFrame m #[(.ref x0), (.int x1)] 5 = mkF m 0 #[.val (.ref x0), .val (.int x1), .unset, .unset, .unset] [] := by first | (simp [entryFrame, mkF, argsToLocals, Value.category]; done) | rfl
set_option maxRecDepth 65536 in
set_option maxHeartbeats 40000000 in
theorem rm_down_12 (l : Launch) (Z : State) (a0 : Array Value) (hw : ∀ d ∈ tables_1, d.before a0 Z = true) (ws : List Jvm.Cond) (hp : Addr) (pp : Int32) (kq aF aO aW aK aB aA aI lo aE aP : Addr) (cK kK kE kP : ClassId) (sz en0 en1 en2 en3 po0 po1 po2 po3 : Int32) (h0 : Heap) (n0 : Nat) (O0 : Old Z n0 h0) (E_hp : Exa Z h0 hp "com/example/leasewise/leasewise/IndexedHeap") (F_hp_order : Fld Z h0 hp "com/example/leasewise/leasewise/IndexedHeap" "order" "Lcom/example/leasewise/leasewise/IndexedHeap$Order;" (.ref lo)) (F_hp_entries : Fld Z h0 hp "com/example/leasewise/leasewise/IndexedHeap" "entries" "[I" (.ref aE)) (F_hp_positions : Fld Z h0 hp "com/example/leasewise/leasewise/IndexedHeap" "positions" "[I" (.ref aP)) (F_hp_size : Fld Z h0 hp "com/example/leasewise/leasewise/IndexedHeap" "size" "I" (.int sz)) (E_kq : Exa Z h0 kq "com/example/leasewise/leasewise/KilometreQueue") (F_kq_keys : Fld Z h0 kq "com/example/leasewise/leasewise/KilometreQueue" "keys" "[J" (.ref aK)) (MDc : Jvm.LamKit.Made Z "com/example/leasewise/leasewise/KilometreQueue" sgm cK) (V_aE : Arv Z h0 aE kE .int (4 : Int32) [(.int en0), (.int en1), (.int en2), (.int en3)] (.int (0 : Int32))) (V_aP : Arv Z h0 aP kP .int (4 : Int32) [(.int po0), (.int po1), (.int po2), (.int po3)] (.int (-1 : Int32))) (g_aE : n0 ≤ aE) (g_aP : n0 ≤ aP) (NDp : List.Nodup [kq, aF, aO, aW, aK, aB, aA, aI, hp, lo, aE, aP]) (HI0 : HI sz en0 en1 en2 en3 po0 po1 po2 po3) (hpp : pp = (1 : Int32)) (hsz : sz = (2 : Int32)) (V_aK : Arp Z h0 aK kK .long (4 : Int32) PJ) (Y_lo : LamO h0 lo cK kq) :
    MetFree l (⟨"com/example/leasewise/leasewise/IndexedHeap", "siftDown", "(I)V"⟩ : MethodName) (head1 (Jvm.Cond.code (⟨"com/example/leasewise/leasewise/IndexedHeap", "siftDown", "(I)V"⟩ : MethodName) prog_35_method_9_code 5 none :: ws) ({ frames := 2, cells := 0, slots := 0, locals := 28 } : Room)) (fun a U => a = #[(.ref hp), (.int pp)] ∧ Z.WarmedH U.vm ∧ U.heap = h0) (fun _ _ _ _ _ => True) (fun _ U o U' => ∃ v L, o = .returned v ∧ Q_rm_down_03 Z hp pp kq aF aO aW aK aB aA aI lo aE aP cK kK kE kP sz en0 en1 en2 en3 po0 po1 po2 po3 h0 n0 v U'.heap L ∧ FrameEnd U o U' L ({ frames := 2, cells := 0, slots := 0, locals := 28 } : Room).cells ({ frames := 2, cells := 0, slots := 0, locals := 28 } : Room).slots) := by
  refine MetFree.of_bodySF (plainFor_of_name pn_1) hisR ?_
  intro p e s m args below meth c s₁ Bd hml0 hP hK
  obtain ⟨rfl, hZH, hh⟩ := hP
  have hZ := hZH.wide
  have hx := Bd.exec
  have hby := Bd.bytes
  have D := fun {pc : Nat} {r : Except ClassFile.DecodeError (ClassFile.Instr × Nat)} (q : decode prog_35_method_9_code pc = r) => hb (pc := pc) hby q
  have hml : c.maxLocals = 5 := hml0
  have hown : s.vm.findClass "com/example/leasewise/leasewise/IndexedHeap" = some m.cls := findClass_of_methodNamed Bd.named
  have hnm := (name_of_methodNamed Bd.named Bd.method).1
  have X0 : Stand p l e ({ frames := 2, cells := 0, slots := 0, locals := 28 } : Room) s m #[(.ref hp), (.int pp)] below meth c s₁ [] 0 0 := Stand.of_body Bd
  have e0 : s₁.heap = h0 := by rw [← hh, Bd.state]; rfl
  have N0 := Fr.nil n0
  have pre0 : ∀ t, Steps p.tables e below (s₁.setTop (mkF m 0 #[.val (.ref hp), .val (.int pp), .unset, .unset, .unset] [])) t → Steps p.tables e below (s₁.setTop (entryFrame m #[(.ref hp), (.int pp)] 5)) t := fun t k => castTop (ef_rm_down_12 m (hp) (pp)) k
  have wd := fun {d : Jvm.Cond} (i : Nat) (h : tables_1[i]? = some d) => hw d (List.mem_of_getElem? h)
  subst hpp hsz
  obtain ⟨T1, X1, e1, st1⟩ := getF X0 hx hZ hown (host := "") (Or.inl (wd 44 rfl)) Via.refl e0 F_hp_entries (g := (mkF m 1 #[.val (.ref hp), .val (.int (1 : Int32)), .unset, .unset, .unset] [(.ref hp)])) rfl rfl (D d16_1)
  obtain ⟨cl2, Ar2, q2, S2, Nn2, H2, G2⟩ := id V_aE
  have hin2 : ¬ ((1 : Int32) < 0 ∨ cl2.slots.size ≤ ((1 : Int32)).toNatClampNeg) := inb_of S2 ⟨by decide, by decide⟩
  obtain ⟨T3, X3, e3, st3⟩ := getF X1 hx hZ hown (host := "") (Or.inl (wd 86 rfl)) Via.refl e1 F_hp_size (g := (mkF m 19 #[.val (.ref hp), .val (.int (1 : Int32)), .val (.int en1), .val (.int (1 : Int32)), .val (.int (3 : Int32))] [(.ref hp), (.int (3 : Int32))])) rfl rfl (D d16_19)
  obtain ⟨cq4, q4, q4'⟩ := E_hp.cell
  obtain ⟨_, _, ⟨T4, L4, k4, n4⟩, -, X4, ⟨Lc4, hQ4, l4, y4, z4⟩, st4⟩ := X3.privateBack hx (y := (⟨"com/example/leasewise/leasewise/IndexedHeap", "place", "(II)V"⟩ : MethodName)) hown (mvT hZ (wd 92 rfl)) (mvT hZ (wd 93 rfl)) (own_selpriv (y := (⟨"com/example/leasewise/leasewise/IndexedHeap", "place", "(II)V"⟩ : MethodName)) (mvT hZ (wd 59 rfl)) rfl (Cond.privateMethod_at (mvP hZ (wd 94 rfl) (args := #[]))) (mvT hZ (wd 93 rfl)) (by decide)) (Cond.privateMethod_at (mvP hZ (wd 94 rfl) (args := #[]))) (mvT hZ (wd 95 rfl)) (by decide) (own_backH (W := 0) (rm_place_1 l Z a0 hw [] hp en1 kq aF aO aW aK aB aA aI lo aE aP kE kP en0 en1 en2 en3 po0 po1 po2 po3 h0 n0 O0 E_hp F_hp_order F_hp_entries F_hp_positions V_aE V_aP g_aE g_aP NDp (own_en_1 HI0 (by decide))) hZH (wd 95 rfl) (wd 33 rfl) (by decide) (by decide)) (g := (mkF m 114 #[.val (.ref hp), .val (.int (1 : Int32)), .val (.int en1), .val (.int (1 : Int32)), .val (.int (3 : Int32))] [(.int (1 : Int32)), (.int en1), (.ref hp)])) rfl (by rw [hml]; rfl) (Steps.refl _) (a := hp) (by rw [e3]; exact q4) q4' (argsL := [(.int en1), (.int (1 : Int32))]) (rest := []) (lenOf pd_1 rfl) rfl (by show 2 * 0 + _ ≤ _; exact Nat.le_of_eq rfl) (D d16_114) (fun _ _ => ⟨rfl, e3, (by decide : 0 + 0 ≤ _), (by decide : 0 + 0 ≤ _)⟩)
  dsimp only [Pt.U, Pt.locs, Pt.cells, Pt.slots] at X4 l4 y4 z4 st4 hQ4
  subst l4 y4 z4
  obtain ⟨rfl, N4q, K4, Q4_0, Q4_1⟩ := hQ4
  have O4 := O0.keep K4 (allS g_aE (allS g_aP all0))
  have KK4 : Keep h0 T4.heap [aE, aP] := (Keep.refl h0 [aE, aP]).trans K4 (allS (own_mem 0 rfl) (allS (own_mem 1 rfl) all0))
  have N4 := Fr.app N0 N4q
  obtain ⟨fs, hr, hrun, hended, hW, hsame⟩ := X4.leave (v := none) (fun _ => rfl)
  refine ⟨_, _, pre0 _ ?_, hrun, hended, _, _, rfl, ?_, ⟨_, rfl⟩, hW, hsame.mono (by decide) (by decide)⟩
  · refine s_aloadN X0 hx (D d16_0) rfl rfl ?_
    refine st1 _ ?_
    refine s_iloadN X1 hx (D d16_4) rfl ?_
    refine X1.iaload hx (j := (1 : Int32)) (v := (.int en1)) (by rw [e1]; exact (Ar2).1) (State.isArrayOf_alike hZ.alike (Ar2).2.1) (Ar2).2.2 hin2 (H2.at hin2 rfl) (g := (mkF m 5 #[.val (.ref hp), .val (.int (1 : Int32)), .unset, .unset, .unset] [(.int (1 : Int32)), (.ref aE)])) rfl rfl (D d16_5) _ ?_
    refine s_istoreN X1 hx (D d16_6) (l' := #[.val (.ref hp), .val (.int (1 : Int32)), .val (.int en1), .unset, .unset]) rfl ?_
    refine s_iloadN X1 hx (D d16_7) rfl ?_
    refine s_istoreN X1 hx (D d16_8) (l' := #[.val (.ref hp), .val (.int (1 : Int32)), .val (.int en1), .val (.int (1 : Int32)), .unset]) rfl ?_
    refine s_iconst X1 hx (2 : Int32) (D d16_9) rfl ?_
    refine s_iloadN X1 hx (D d16_10) rfl ?_
    refine s_imul X1 hx (D d16_11) (r := (2 : Int32)) (by decide) ?_
    refine s_iconst X1 hx (1 : Int32) (D d16_12) rfl ?_
    refine s_iadd X1 hx (D d16_13) (r := (3 : Int32)) (by decide) ?_
    refine s_istore X1 hx (D d16_14) (l' := #[.val (.ref hp), .val (.int (1 : Int32)), .val (.int en1), .val (.int (1 : Int32)), .val (.int (3 : Int32))]) rfl ?_
    refine s_iload X1 hx (D d16_16) rfl ?_
    refine s_aloadN X1 hx (D d16_18) rfl rfl ?_
    refine st3 _ ?_
    refine s_icmpNo X3 hx (D d16_22) (flt (by decide : ¬ ((3 : Int32) < (2 : Int32)))).1 ?_
    refine s_goto X3 hx 111 (D d16_25) (of_decide_eq_true rfl) rfl ?_
    refine s_aloadN X3 hx (D d16_111) rfl rfl ?_
    refine s_iloadN X3 hx (D d16_112) rfl ?_
    refine s_iloadN X3 hx (D d16_113) rfl ?_
    refine st4.trans ?_
    exact X4.returnOut hx Bd.returns (D d16_117) hr
  · show Q_rm_down_03 Z hp (1 : Int32) kq aF aO aW aK aB aA aI lo aE aP cK kK kE kP (2 : Int32) en0 en1 en2 en3 po0 po1 po2 po3 h0 n0 _ T4.heap _
    exact ⟨en0, en1, en2, en3, (s4 en1 0 (1 : Int32) po0), (s4 en1 1 (1 : Int32) po1), (s4 en1 2 (1 : Int32) po2), (s4 en1 3 (1 : Int32) po3), rfl, N4, KK4, Q4_0, Q4_1, (own_l14 HI0)⟩
theorem own_l15_k : ∀ L ∈ hAll, L.length = 3 → [(L.getD 0 0), (L.getD 1 0), (L.getD 2 0)] ∈ hAll ∧ hPos [(L.getD 0 0), (L.getD 1 0), (L.getD 2 0)] 0 = (s4 (L.getD 1 0) 0 (1 : Int32) (hPos L 0)) ∧ hPos [(L.getD 0 0), (L.getD 1 0), (L.getD 2 0)] 1 = (s4 (L.getD 1 0) 1 (1 : Int32) (hPos L 1)) ∧ hPos [(L.getD 0 0), (L.getD 1 0), (L.getD 2 0)] 2 = (s4 (L.getD 1 0) 2 (1 : Int32) (hPos L 2)) ∧ hPos [(L.getD 0 0), (L.getD 1 0), (L.getD 2 0)] 3 = (s4 (L.getD 1 0) 3 (1 : Int32) (hPos L 3)) ∧ ((s4 (L.getD 1 0) 0 (1 : Int32) (hPos L 0)) = -1 ↔ hPos L 0 = -1) ∧ ((s4 (L.getD 1 0) 1 (1 : Int32) (hPos L 1)) = -1 ↔ hPos L 1 = -1) ∧ ((s4 (L.getD 1 0) 2 (1 : Int32) (hPos L 2)) = -1 ↔ hPos L 2 = -1) ∧ ((s4 (L.getD 1 0) 3 (1 : Int32) (hPos L 3)) = -1 ↔ hPos L 3 = -1) := by decide +kernel
theorem own_l15 {e0 e1 e2 e3 p0 p1 p2 p3 : Int32} (H : HI (3 : Int32) e0 e1 e2 e3 p0 p1 p2 p3) : HI (3 : Int32) e0 e1 e2 e3 (s4 e1 0 (1 : Int32) p0) (s4 e1 1 (1 : Int32) p1) (s4 e1 2 (1 : Int32) p2) (s4 e1 3 (1 : Int32) p3) ∧ SM p0 p1 p2 p3 (s4 e1 0 (1 : Int32) p0) (s4 e1 1 (1 : Int32) p1) (s4 e1 2 (1 : Int32) p2) (s4 e1 3 (1 : Int32) p3) := by
  obtain ⟨L, hL, hn, h0, h1, h2, h3, rfl, rfl, rfl, rfl⟩ := H
  have hlen : L.length = 3 := own_hl3 L hL hn
  have g0 := h0 (by omega); subst g0
  have g1 := h1 (by omega); subst g1
  have g2 := h2 (by omega); subst g2
  have K := own_l15_k L hL hlen
  obtain ⟨k1, k2, k3, k4, k5, k6⟩ := K
  refine ⟨⟨[(L.getD 0 0), (L.getD 1 0), (L.getD 2 0)], k1, rfl, ?_, ?_, ?_, ?_, k2.symm, k3.symm, k4.symm, k5.symm⟩, k6⟩
  all_goals (intro hh; first | rfl | (exfalso; revert hh; decide) | (exfalso; simp at hh))
theorem ef_rm_down_13 (m : MethodId) (x0 : Addr) (x1 : Int32) : entryFrame m #[(.ref x0), (.int x1)] 5 = mkF m 0 #[.val (.ref x0), .val (.int x1), .unset, .unset, .unset] [] := by first | (simp [entryFrame, mkF, argsToLocals, Value.category]; done) | rfl
set_option maxRecDepth 65536 in
set_option maxHeartbeats 40000000 in
theorem rm_down_13 (l : Launch) (Z : State) (a0 : Array Value) (hw : ∀ d ∈ tables_1, d.before a0 Z = true) (ws : List Jvm.Cond) (hp : Addr) (pp : Int32) (kq aF aO aW aK aB aA aI lo aE aP : Addr) (cK kK kE kP : ClassId) (sz en0 en1 en2 en3 po0 po1 po2 po3 : Int32) (h0 : Heap) (n0 : Nat) (O0 : Old Z n0 h0) (E_hp : Exa Z h0 hp "com/example/leasewise/leasewise/IndexedHeap") (F_hp_order : Fld Z h0 hp "com/example/leasewise/leasewise/IndexedHeap" "order" "Lcom/example/leasewise/leasewise/IndexedHeap$Order;" (.ref lo)) (F_hp_entries : Fld Z h0 hp "com/example/leasewise/leasewise/IndexedHeap" "entries" "[I" (.ref aE)) (F_hp_positions : Fld Z h0 hp "com/example/leasewise/leasewise/IndexedHeap" "positions" "[I" (.ref aP)) (F_hp_size : Fld Z h0 hp "com/example/leasewise/leasewise/IndexedHeap" "size" "I" (.int sz)) (E_kq : Exa Z h0 kq "com/example/leasewise/leasewise/KilometreQueue") (F_kq_keys : Fld Z h0 kq "com/example/leasewise/leasewise/KilometreQueue" "keys" "[J" (.ref aK)) (MDc : Jvm.LamKit.Made Z "com/example/leasewise/leasewise/KilometreQueue" sgm cK) (V_aE : Arv Z h0 aE kE .int (4 : Int32) [(.int en0), (.int en1), (.int en2), (.int en3)] (.int (0 : Int32))) (V_aP : Arv Z h0 aP kP .int (4 : Int32) [(.int po0), (.int po1), (.int po2), (.int po3)] (.int (-1 : Int32))) (g_aE : n0 ≤ aE) (g_aP : n0 ≤ aP) (NDp : List.Nodup [kq, aF, aO, aW, aK, aB, aA, aI, hp, lo, aE, aP]) (HI0 : HI sz en0 en1 en2 en3 po0 po1 po2 po3) (hpp : pp = (1 : Int32)) (hsz : sz = (3 : Int32)) (V_aK : Arp Z h0 aK kK .long (4 : Int32) PJ) (Y_lo : LamO h0 lo cK kq) :
    MetFree l (⟨"com/example/leasewise/leasewise/IndexedHeap", "siftDown", "(I)V"⟩ : MethodName) (head1 (Jvm.Cond.code (⟨"com/example/leasewise/leasewise/IndexedHeap", "siftDown", "(I)V"⟩ : MethodName) prog_35_method_9_code 5 none :: ws) ({ frames := 2, cells := 0, slots := 0, locals := 28 } : Room)) (fun a U => a = #[(.ref hp), (.int pp)] ∧ Z.WarmedH U.vm ∧ U.heap = h0) (fun _ _ _ _ _ => True) (fun _ U o U' => ∃ v L, o = .returned v ∧ Q_rm_down_03 Z hp pp kq aF aO aW aK aB aA aI lo aE aP cK kK kE kP sz en0 en1 en2 en3 po0 po1 po2 po3 h0 n0 v U'.heap L ∧ FrameEnd U o U' L ({ frames := 2, cells := 0, slots := 0, locals := 28 } : Room).cells ({ frames := 2, cells := 0, slots := 0, locals := 28 } : Room).slots) := by
  refine MetFree.of_bodySF (plainFor_of_name pn_1) hisR ?_
  intro p e s m args below meth c s₁ Bd hml0 hP hK
  obtain ⟨rfl, hZH, hh⟩ := hP
  have hZ := hZH.wide
  have hx := Bd.exec
  have hby := Bd.bytes
  have D := fun {pc : Nat} {r : Except ClassFile.DecodeError (ClassFile.Instr × Nat)} (q : decode prog_35_method_9_code pc = r) => hb (pc := pc) hby q
  have hml : c.maxLocals = 5 := hml0
  have hown : s.vm.findClass "com/example/leasewise/leasewise/IndexedHeap" = some m.cls := findClass_of_methodNamed Bd.named
  have hnm := (name_of_methodNamed Bd.named Bd.method).1
  have X0 : Stand p l e ({ frames := 2, cells := 0, slots := 0, locals := 28 } : Room) s m #[(.ref hp), (.int pp)] below meth c s₁ [] 0 0 := Stand.of_body Bd
  have e0 : s₁.heap = h0 := by rw [← hh, Bd.state]; rfl
  have N0 := Fr.nil n0
  have pre0 : ∀ t, Steps p.tables e below (s₁.setTop (mkF m 0 #[.val (.ref hp), .val (.int pp), .unset, .unset, .unset] [])) t → Steps p.tables e below (s₁.setTop (entryFrame m #[(.ref hp), (.int pp)] 5)) t := fun t k => castTop (ef_rm_down_13 m (hp) (pp)) k
  have wd := fun {d : Jvm.Cond} (i : Nat) (h : tables_1[i]? = some d) => hw d (List.mem_of_getElem? h)
  subst hpp hsz
  obtain ⟨T1, X1, e1, st1⟩ := getF X0 hx hZ hown (host := "") (Or.inl (wd 44 rfl)) Via.refl e0 F_hp_entries (g := (mkF m 1 #[.val (.ref hp), .val (.int (1 : Int32)), .unset, .unset, .unset] [(.ref hp)])) rfl rfl (D d16_1)
  obtain ⟨cl2, Ar2, q2, S2, Nn2, H2, G2⟩ := id V_aE
  have hin2 : ¬ ((1 : Int32) < 0 ∨ cl2.slots.size ≤ ((1 : Int32)).toNatClampNeg) := inb_of S2 ⟨by decide, by decide⟩
  obtain ⟨T3, X3, e3, st3⟩ := getF X1 hx hZ hown (host := "") (Or.inl (wd 86 rfl)) Via.refl e1 F_hp_size (g := (mkF m 19 #[.val (.ref hp), .val (.int (1 : Int32)), .val (.int en1), .val (.int (1 : Int32)), .val (.int (3 : Int32))] [(.ref hp), (.int (3 : Int32))])) rfl rfl (D d16_19)
  obtain ⟨cq4, q4, q4'⟩ := E_hp.cell
  obtain ⟨_, _, ⟨T4, L4, k4, n4⟩, -, X4, ⟨Lc4, hQ4, l4, y4, z4⟩, st4⟩ := X3.privateBack hx (y := (⟨"com/example/leasewise/leasewise/IndexedHeap", "place", "(II)V"⟩ : MethodName)) hown (mvT hZ (wd 92 rfl)) (mvT hZ (wd 93 rfl)) (own_selpriv (y := (⟨"com/example/leasewise/leasewise/IndexedHeap", "place", "(II)V"⟩ : MethodName)) (mvT hZ (wd 59 rfl)) rfl (Cond.privateMethod_at (mvP hZ (wd 94 rfl) (args := #[]))) (mvT hZ (wd 93 rfl)) (by decide)) (Cond.privateMethod_at (mvP hZ (wd 94 rfl) (args := #[]))) (mvT hZ (wd 95 rfl)) (by decide) (own_backH (W := 0) (rm_place_1 l Z a0 hw [] hp en1 kq aF aO aW aK aB aA aI lo aE aP kE kP en0 en1 en2 en3 po0 po1 po2 po3 h0 n0 O0 E_hp F_hp_order F_hp_entries F_hp_positions V_aE V_aP g_aE g_aP NDp (own_en_1 HI0 (by decide))) hZH (wd 95 rfl) (wd 33 rfl) (by decide) (by decide)) (g := (mkF m 114 #[.val (.ref hp), .val (.int (1 : Int32)), .val (.int en1), .val (.int (1 : Int32)), .val (.int (3 : Int32))] [(.int (1 : Int32)), (.int en1), (.ref hp)])) rfl (by rw [hml]; rfl) (Steps.refl _) (a := hp) (by rw [e3]; exact q4) q4' (argsL := [(.int en1), (.int (1 : Int32))]) (rest := []) (lenOf pd_1 rfl) rfl (by show 2 * 0 + _ ≤ _; exact Nat.le_of_eq rfl) (D d16_114) (fun _ _ => ⟨rfl, e3, (by decide : 0 + 0 ≤ _), (by decide : 0 + 0 ≤ _)⟩)
  dsimp only [Pt.U, Pt.locs, Pt.cells, Pt.slots] at X4 l4 y4 z4 st4 hQ4
  subst l4 y4 z4
  obtain ⟨rfl, N4q, K4, Q4_0, Q4_1⟩ := hQ4
  have O4 := O0.keep K4 (allS g_aE (allS g_aP all0))
  have KK4 : Keep h0 T4.heap [aE, aP] := (Keep.refl h0 [aE, aP]).trans K4 (allS (own_mem 0 rfl) (allS (own_mem 1 rfl) all0))
  have N4 := Fr.app N0 N4q
  obtain ⟨fs, hr, hrun, hended, hW, hsame⟩ := X4.leave (v := none) (fun _ => rfl)
  refine ⟨_, _, pre0 _ ?_, hrun, hended, _, _, rfl, ?_, ⟨_, rfl⟩, hW, hsame.mono (by decide) (by decide)⟩
  · refine s_aloadN X0 hx (D d16_0) rfl rfl ?_
    refine st1 _ ?_
    refine s_iloadN X1 hx (D d16_4) rfl ?_
    refine X1.iaload hx (j := (1 : Int32)) (v := (.int en1)) (by rw [e1]; exact (Ar2).1) (State.isArrayOf_alike hZ.alike (Ar2).2.1) (Ar2).2.2 hin2 (H2.at hin2 rfl) (g := (mkF m 5 #[.val (.ref hp), .val (.int (1 : Int32)), .unset, .unset, .unset] [(.int (1 : Int32)), (.ref aE)])) rfl rfl (D d16_5) _ ?_
    refine s_istoreN X1 hx (D d16_6) (l' := #[.val (.ref hp), .val (.int (1 : Int32)), .val (.int en1), .unset, .unset]) rfl ?_
    refine s_iloadN X1 hx (D d16_7) rfl ?_
    refine s_istoreN X1 hx (D d16_8) (l' := #[.val (.ref hp), .val (.int (1 : Int32)), .val (.int en1), .val (.int (1 : Int32)), .unset]) rfl ?_
    refine s_iconst X1 hx (2 : Int32) (D d16_9) rfl ?_
    refine s_iloadN X1 hx (D d16_10) rfl ?_
    refine s_imul X1 hx (D d16_11) (r := (2 : Int32)) (by decide) ?_
    refine s_iconst X1 hx (1 : Int32) (D d16_12) rfl ?_
    refine s_iadd X1 hx (D d16_13) (r := (3 : Int32)) (by decide) ?_
    refine s_istore X1 hx (D d16_14) (l' := #[.val (.ref hp), .val (.int (1 : Int32)), .val (.int en1), .val (.int (1 : Int32)), .val (.int (3 : Int32))]) rfl ?_
    refine s_iload X1 hx (D d16_16) rfl ?_
    refine s_aloadN X1 hx (D d16_18) rfl rfl ?_
    refine st3 _ ?_
    refine s_icmpNo X3 hx (D d16_22) (flt (by decide : ¬ ((3 : Int32) < (3 : Int32)))).1 ?_
    refine s_goto X3 hx 111 (D d16_25) (of_decide_eq_true rfl) rfl ?_
    refine s_aloadN X3 hx (D d16_111) rfl rfl ?_
    refine s_iloadN X3 hx (D d16_112) rfl ?_
    refine s_iloadN X3 hx (D d16_113) rfl ?_
    refine st4.trans ?_
    exact X4.returnOut hx Bd.returns (D d16_117) hr
  · show Q_rm_down_03 Z hp (1 : Int32) kq aF aO aW aK aB aA aI lo aE aP cK kK kE kP (3 : Int32) en0 en1 en2 en3 po0 po1 po2 po3 h0 n0 _ T4.heap _
    exact ⟨en0, en1, en2, en3, (s4 en1 0 (1 : Int32) po0), (s4 en1 1 (1 : Int32) po1), (s4 en1 2 (1 : Int32) po2), (s4 en1 3 (1 : Int32) po3), rfl, N4, KK4, Q4_0, Q4_1, (own_l15 HI0)⟩
theorem own_l16_k : ∀ L ∈ hAll, L.length = 3 → [(L.getD 0 0), (L.getD 1 0), (L.getD 2 0)] ∈ hAll ∧ hPos [(L.getD 0 0), (L.getD 1 0), (L.getD 2 0)] 0 = (s4 (L.getD 2 0) 0 (2 : Int32) (hPos L 0)) ∧ hPos [(L.getD 0 0), (L.getD 1 0), (L.getD 2 0)] 1 = (s4 (L.getD 2 0) 1 (2 : Int32) (hPos L 1)) ∧ hPos [(L.getD 0 0), (L.getD 1 0), (L.getD 2 0)] 2 = (s4 (L.getD 2 0) 2 (2 : Int32) (hPos L 2)) ∧ hPos [(L.getD 0 0), (L.getD 1 0), (L.getD 2 0)] 3 = (s4 (L.getD 2 0) 3 (2 : Int32) (hPos L 3)) ∧ ((s4 (L.getD 2 0) 0 (2 : Int32) (hPos L 0)) = -1 ↔ hPos L 0 = -1) ∧ ((s4 (L.getD 2 0) 1 (2 : Int32) (hPos L 1)) = -1 ↔ hPos L 1 = -1) ∧ ((s4 (L.getD 2 0) 2 (2 : Int32) (hPos L 2)) = -1 ↔ hPos L 2 = -1) ∧ ((s4 (L.getD 2 0) 3 (2 : Int32) (hPos L 3)) = -1 ↔ hPos L 3 = -1) := by decide +kernel
theorem own_l16 {e0 e1 e2 e3 p0 p1 p2 p3 : Int32} (H : HI (3 : Int32) e0 e1 e2 e3 p0 p1 p2 p3) : HI (3 : Int32) e0 e1 e2 e3 (s4 e2 0 (2 : Int32) p0) (s4 e2 1 (2 : Int32) p1) (s4 e2 2 (2 : Int32) p2) (s4 e2 3 (2 : Int32) p3) ∧ SM p0 p1 p2 p3 (s4 e2 0 (2 : Int32) p0) (s4 e2 1 (2 : Int32) p1) (s4 e2 2 (2 : Int32) p2) (s4 e2 3 (2 : Int32) p3) := by
  obtain ⟨L, hL, hn, h0, h1, h2, h3, rfl, rfl, rfl, rfl⟩ := H
  have hlen : L.length = 3 := own_hl3 L hL hn
  have g0 := h0 (by omega); subst g0
  have g1 := h1 (by omega); subst g1
  have g2 := h2 (by omega); subst g2
  have K := own_l16_k L hL hlen
  obtain ⟨k1, k2, k3, k4, k5, k6⟩ := K
  refine ⟨⟨[(L.getD 0 0), (L.getD 1 0), (L.getD 2 0)], k1, rfl, ?_, ?_, ?_, ?_, k2.symm, k3.symm, k4.symm, k5.symm⟩, k6⟩
  all_goals (intro hh; first | rfl | (exfalso; revert hh; decide) | (exfalso; simp at hh))
theorem ef_rm_down_23 (m : MethodId) (x0 : Addr) (x1 : Int32) : entryFrame m #[(.ref x0), (.int x1)] 5 = mkF m 0 #[.val (.ref x0), .val (.int x1), .unset, .unset, .unset] [] := by first | (simp [entryFrame, mkF, argsToLocals, Value.category]; done) | rfl
set_option maxRecDepth 65536 in
set_option maxHeartbeats 40000000 in
theorem rm_down_23 (l : Launch) (Z : State) (a0 : Array Value) (hw : ∀ d ∈ tables_1, d.before a0 Z = true) (ws : List Jvm.Cond) (hp : Addr) (pp : Int32) (kq aF aO aW aK aB aA aI lo aE aP : Addr) (cK kK kE kP : ClassId) (sz en0 en1 en2 en3 po0 po1 po2 po3 : Int32) (h0 : Heap) (n0 : Nat) (O0 : Old Z n0 h0) (E_hp : Exa Z h0 hp "com/example/leasewise/leasewise/IndexedHeap") (F_hp_order : Fld Z h0 hp "com/example/leasewise/leasewise/IndexedHeap" "order" "Lcom/example/leasewise/leasewise/IndexedHeap$Order;" (.ref lo)) (F_hp_entries : Fld Z h0 hp "com/example/leasewise/leasewise/IndexedHeap" "entries" "[I" (.ref aE)) (F_hp_positions : Fld Z h0 hp "com/example/leasewise/leasewise/IndexedHeap" "positions" "[I" (.ref aP)) (F_hp_size : Fld Z h0 hp "com/example/leasewise/leasewise/IndexedHeap" "size" "I" (.int sz)) (E_kq : Exa Z h0 kq "com/example/leasewise/leasewise/KilometreQueue") (F_kq_keys : Fld Z h0 kq "com/example/leasewise/leasewise/KilometreQueue" "keys" "[J" (.ref aK)) (MDc : Jvm.LamKit.Made Z "com/example/leasewise/leasewise/KilometreQueue" sgm cK) (V_aE : Arv Z h0 aE kE .int (4 : Int32) [(.int en0), (.int en1), (.int en2), (.int en3)] (.int (0 : Int32))) (V_aP : Arv Z h0 aP kP .int (4 : Int32) [(.int po0), (.int po1), (.int po2), (.int po3)] (.int (-1 : Int32))) (g_aE : n0 ≤ aE) (g_aP : n0 ≤ aP) (NDp : List.Nodup [kq, aF, aO, aW, aK, aB, aA, aI, hp, lo, aE, aP]) (HI0 : HI sz en0 en1 en2 en3 po0 po1 po2 po3) (hpp : pp = (2 : Int32)) (hsz : sz = (3 : Int32)) (V_aK : Arp Z h0 aK kK .long (4 : Int32) PJ) (Y_lo : LamO h0 lo cK kq) :
    MetFree l (⟨"com/example/leasewise/leasewise/IndexedHeap", "siftDown", "(I)V"⟩ : MethodName) (head1 (Jvm.Cond.code (⟨"com/example/leasewise/leasewise/IndexedHeap", "siftDown", "(I)V"⟩ : MethodName) prog_35_method_9_code 5 none :: ws) ({ frames := 2, cells := 0, slots := 0, locals := 28 } : Room)) (fun a U => a = #[(.ref hp), (.int pp)] ∧ Z.WarmedH U.vm ∧ U.heap = h0) (fun _ _ _ _ _ => True) (fun _ U o U' => ∃ v L, o = .returned v ∧ Q_rm_down_03 Z hp pp kq aF aO aW aK aB aA aI lo aE aP cK kK kE kP sz en0 en1 en2 en3 po0 po1 po2 po3 h0 n0 v U'.heap L ∧ FrameEnd U o U' L ({ frames := 2, cells := 0, slots := 0, locals := 28 } : Room).cells ({ frames := 2, cells := 0, slots := 0, locals := 28 } : Room).slots) := by
  refine MetFree.of_bodySF (plainFor_of_name pn_1) hisR ?_
  intro p e s m args below meth c s₁ Bd hml0 hP hK
  obtain ⟨rfl, hZH, hh⟩ := hP
  have hZ := hZH.wide
  have hx := Bd.exec
  have hby := Bd.bytes
  have D := fun {pc : Nat} {r : Except ClassFile.DecodeError (ClassFile.Instr × Nat)} (q : decode prog_35_method_9_code pc = r) => hb (pc := pc) hby q
  have hml : c.maxLocals = 5 := hml0
  have hown : s.vm.findClass "com/example/leasewise/leasewise/IndexedHeap" = some m.cls := findClass_of_methodNamed Bd.named
  have hnm := (name_of_methodNamed Bd.named Bd.method).1
  have X0 : Stand p l e ({ frames := 2, cells := 0, slots := 0, locals := 28 } : Room) s m #[(.ref hp), (.int pp)] below meth c s₁ [] 0 0 := Stand.of_body Bd
  have e0 : s₁.heap = h0 := by rw [← hh, Bd.state]; rfl
  have N0 := Fr.nil n0
  have pre0 : ∀ t, Steps p.tables e below (s₁.setTop (mkF m 0 #[.val (.ref hp), .val (.int pp), .unset, .unset, .unset] [])) t → Steps p.tables e below (s₁.setTop (entryFrame m #[(.ref hp), (.int pp)] 5)) t := fun t k => castTop (ef_rm_down_23 m (hp) (pp)) k
  have wd := fun {d : Jvm.Cond} (i : Nat) (h : tables_1[i]? = some d) => hw d (List.mem_of_getElem? h)
  subst hpp hsz
  obtain ⟨T1, X1, e1, st1⟩ := getF X0 hx hZ hown (host := "") (Or.inl (wd 44 rfl)) Via.refl e0 F_hp_entries (g := (mkF m 1 #[.val (.ref hp), .val (.int (2 : Int32)), .unset, .unset, .unset] [(.ref hp)])) rfl rfl (D d16_1)
  obtain ⟨cl2, Ar2, q2, S2, Nn2, H2, G2⟩ := id V_aE
  have hin2 : ¬ ((2 : Int32) < 0 ∨ cl2.slots.size ≤ ((2 : Int32)).toNatClampNeg) := inb_of S2 ⟨by decide, by decide⟩
  obtain ⟨T3, X3, e3, st3⟩ := getF X1 hx hZ hown (host := "") (Or.inl (wd 86 rfl)) Via.refl e1 F_hp_size (g := (mkF m 19 #[.val (.ref hp), .val (.int (2 : Int32)), .val (.int en2), .val (.int (2 : Int32)), .val (.int (5 : Int32))] [(.ref hp), (.int (5 : Int32))])) rfl rfl (D d16_19)
  obtain ⟨cq4, q4, q4'⟩ := E_hp.cell
  obtain ⟨_, _, ⟨T4, L4, k4, n4⟩, -, X4, ⟨Lc4, hQ4, l4, y4, z4⟩, st4⟩ := X3.privateBack hx (y := (⟨"com/example/leasewise/leasewise/IndexedHeap", "place", "(II)V"⟩ : MethodName)) hown (mvT hZ (wd 92 rfl)) (mvT hZ (wd 93 rfl)) (own_selpriv (y := (⟨"com/example/leasewise/leasewise/IndexedHeap", "place", "(II)V"⟩ : MethodName)) (mvT hZ (wd 59 rfl)) rfl (Cond.privateMethod_at (mvP hZ (wd 94 rfl) (args := #[]))) (mvT hZ (wd 93 rfl)) (by decide)) (Cond.privateMethod_at (mvP hZ (wd 94 rfl) (args := #[]))) (mvT hZ (wd 95 rfl)) (by decide) (own_backH (W := 0) (rm_place_2 l Z a0 hw [] hp en2 kq aF aO aW aK aB aA aI lo aE aP kE kP en0 en1 en2 en3 po0 po1 po2 po3 h0 n0 O0 E_hp F_hp_order F_hp_entries F_hp_positions V_aE V_aP g_aE g_aP NDp (own_en_2 HI0 (by decide))) hZH (wd 95 rfl) (wd 33 rfl) (by decide) (by decide)) (g := (mkF m 114 #[.val (.ref hp), .val (.int (2 : Int32)), .val (.int en2), .val (.int (2 : Int32)), .val (.int (5 : Int32))] [(.int (2 : Int32)), (.int en2), (.ref hp)])) rfl (by rw [hml]; rfl) (Steps.refl _) (a := hp) (by rw [e3]; exact q4) q4' (argsL := [(.int en2), (.int (2 : Int32))]) (rest := []) (lenOf pd_1 rfl) rfl (by show 2 * 0 + _ ≤ _; exact Nat.le_of_eq rfl) (D d16_114) (fun _ _ => ⟨rfl, e3, (by decide : 0 + 0 ≤ _), (by decide : 0 + 0 ≤ _)⟩)
  dsimp only [Pt.U, Pt.locs, Pt.cells, Pt.slots] at X4 l4 y4 z4 st4 hQ4
  subst l4 y4 z4
  obtain ⟨rfl, N4q, K4, Q4_0, Q4_1⟩ := hQ4
  have O4 := O0.keep K4 (allS g_aE (allS g_aP all0))
  have KK4 : Keep h0 T4.heap [aE, aP] := (Keep.refl h0 [aE, aP]).trans K4 (allS (own_mem 0 rfl) (allS (own_mem 1 rfl) all0))
  have N4 := Fr.app N0 N4q
  obtain ⟨fs, hr, hrun, hended, hW, hsame⟩ := X4.leave (v := none) (fun _ => rfl)
  refine ⟨_, _, pre0 _ ?_, hrun, hended, _, _, rfl, ?_, ⟨_, rfl⟩, hW, hsame.mono (by decide) (by decide)⟩
  · refine s_aloadN X0 hx (D d16_0) rfl rfl ?_
    refine st1 _ ?_
    refine s_iloadN X1 hx (D d16_4) rfl ?_
    refine X1.iaload hx (j := (2 : Int32)) (v := (.int en2)) (by rw [e1]; exact (Ar2).1) (State.isArrayOf_alike hZ.alike (Ar2).2.1) (Ar2).2.2 hin2 (H2.at hin2 rfl) (g := (mkF m 5 #[.val (.ref hp), .val (.int (2 : Int32)), .unset, .unset, .unset] [(.int (2 : Int32)), (.ref aE)])) rfl rfl (D d16_5) _ ?_
    refine s_istoreN X1 hx (D d16_6) (l' := #[.val (.ref hp), .val (.int (2 : Int32)), .val (.int en2), .unset, .unset]) rfl ?_
    refine s_iloadN X1 hx (D d16_7) rfl ?_
    refine s_istoreN X1 hx (D d16_8) (l' := #[.val (.ref hp), .val (.int (2 : Int32)), .val (.int en2), .val (.int (2 : Int32)), .unset]) rfl ?_
    refine s_iconst X1 hx (2 : Int32) (D d16_9) rfl ?_
    refine s_iloadN X1 hx (D d16_10) rfl ?_
    refine s_imul X1 hx (D d16_11) (r := (4 : Int32)) (by decide) ?_
    refine s_iconst X1 hx (1 : Int32) (D d16_12) rfl ?_
    refine s_iadd X1 hx (D d16_13) (r := (5 : Int32)) (by decide) ?_
    refine s_istore X1 hx (D d16_14) (l' := #[.val (.ref hp), .val (.int (2 : Int32)), .val (.int en2), .val (.int (2 : Int32)), .val (.int (5 : Int32))]) rfl ?_
    refine s_iload X1 hx (D d16_16) rfl ?_
    refine s_aloadN X1 hx (D d16_18) rfl rfl ?_
    refine st3 _ ?_
    refine s_icmpNo X3 hx (D d16_22) (flt (by decide : ¬ ((5 : Int32) < (3 : Int32)))).1 ?_
    refine s_goto X3 hx 111 (D d16_25) (of_decide_eq_true rfl) rfl ?_
    refine s_aloadN X3 hx (D d16_111) rfl rfl ?_
    refine s_iloadN X3 hx (D d16_112) rfl ?_
    refine s_iloadN X3 hx (D d16_113) rfl ?_
    refine st4.trans ?_
    exact X4.returnOut hx Bd.returns (D d16_117) hr
  · show Q_rm_down_03 Z hp (2 : Int32) kq aF aO aW aK aB aA aI lo aE aP cK kK kE kP (3 : Int32) en0 en1 en2 en3 po0 po1 po2 po3 h0 n0 _ T4.heap _
    exact ⟨en0, en1, en2, en3, (s4 en2 0 (2 : Int32) po0), (s4 en2 1 (2 : Int32) po1), (s4 en2 2 (2 : Int32) po2), (s4 en2 3 (2 : Int32) po3), rfl, N4, KK4, Q4_0, Q4_1, (own_l16 HI0)⟩
def DNp (pp sz : Int32) : Prop := (pp = 0 ∧ sz = 3) ∨ (pp = 0 ∧ sz = 1) ∨ (pp = 0 ∧ sz = 2) ∨ (pp = 1 ∧ sz = 2) ∨ (pp = 1 ∧ sz = 3) ∨ (pp = 2 ∧ sz = 3)
theorem rm_down (l : Launch) (Z : State) (a0 : Array Value) (hw : ∀ d ∈ tables_1, d.before a0 Z = true) (ws : List Jvm.Cond) (hp : Addr) (pp : Int32) (kq aF aO aW aK aB aA aI lo aE aP : Addr) (cK kK kE kP : ClassId) (sz en0 en1 en2 en3 po0 po1 po2 po3 : Int32) (h0 : Heap) (n0 : Nat) (O0 : Old Z n0 h0) (E_hp : Exa Z h0 hp "com/example/leasewise/leasewise/IndexedHeap") (F_hp_order : Fld Z h0 hp "com/example/leasewise/leasewise/IndexedHeap" "order" "Lcom/example/leasewise/leasewise/IndexedHeap$Order;" (.ref lo)) (F_hp_entries : Fld Z h0 hp "com/example/leasewise/leasewise/IndexedHeap" "entries" "[I" (.ref aE)) (F_hp_positions : Fld Z h0 hp "com/example/leasewise/leasewise/IndexedHeap" "positions" "[I" (.ref aP)) (F_hp_size : Fld Z h0 hp "com/example/leasewise/leasewise/IndexedHeap" "size" "I" (.int sz)) (E_kq : Exa Z h0 kq "com/example/leasewise/leasewise/KilometreQueue") (F_kq_keys : Fld Z h0 kq "com/example/leasewise/leasewise/KilometreQueue" "keys" "[J" (.ref aK)) (MDc : Jvm.LamKit.Made Z "com/example/leasewise/leasewise/KilometreQueue" sgm cK) (V_aE : Arv Z h0 aE kE .int (4 : Int32) [(.int en0), (.int en1), (.int en2), (.int en3)] (.int (0 : Int32))) (V_aP : Arv Z h0 aP kP .int (4 : Int32) [(.int po0), (.int po1), (.int po2), (.int po3)] (.int (-1 : Int32))) (g_aE : n0 ≤ aE) (g_aP : n0 ≤ aP) (NDp : List.Nodup [kq, aF, aO, aW, aK, aB, aA, aI, hp, lo, aE, aP]) (HI0 : HI sz en0 en1 en2 en3 po0 po1 po2 po3) (hpp : DNp pp sz) (V_aK : Arp Z h0 aK kK .long (4 : Int32) PJ) (Y_lo : LamO h0 lo cK kq) :
    MetFree l (⟨"com/example/leasewise/leasewise/IndexedHeap", "siftDown", "(I)V"⟩ : MethodName) (head1 (Jvm.Cond.code (⟨"com/example/leasewise/leasewise/IndexedHeap", "siftDown", "(I)V"⟩ : MethodName) prog_35_method_9_code 5 none :: ws) ({ frames := 2, cells := 0, slots := 0, locals := 28 } : Room)) (fun a U => a = #[(.ref hp), (.int pp)] ∧ Z.WarmedH U.vm ∧ U.heap = h0) (fun _ _ _ _ _ => True) (fun _ U o U' => ∃ v L, o = .returned v ∧ Q_rm_down_03 Z hp pp kq aF aO aW aK aB aA aI lo aE aP cK kK kE kP sz en0 en1 en2 en3 po0 po1 po2 po3 h0 n0 v U'.heap L ∧ FrameEnd U o U' L ({ frames := 2, cells := 0, slots := 0, locals := 28 } : Room).cells ({ frames := 2, cells := 0, slots := 0, locals := 28 } : Room).slots) := by
  rcases hpp with ⟨rfl, rfl⟩ | ⟨rfl, rfl⟩ | ⟨rfl, rfl⟩ | ⟨rfl, rfl⟩ | ⟨rfl, rfl⟩ | ⟨rfl, rfl⟩
  · exact rm_down_03 l Z a0 hw ws hp (0 : Int32) kq aF aO aW aK aB aA aI lo aE aP cK kK kE kP (3 : Int32) en0 en1 en2 en3 po0 po1 po2 po3 h0 n0 O0 E_hp F_hp_order F_hp_entries F_hp_positions F_hp_size E_kq F_kq_keys MDc V_aE V_aP g_aE g_aP NDp HI0 rfl rfl V_aK Y_lo
  · exact rm_down_01 l Z a0 hw ws hp (0 : Int32) kq aF aO aW aK aB aA aI lo aE aP cK kK kE kP (1 : Int32) en0 en1 en2 en3 po0 po1 po2 po3 h0 n0 O0 E_hp F_hp_order F_hp_entries F_hp_positions F_hp_size E_kq F_kq_keys MDc V_aE V_aP g_aE g_aP NDp HI0 rfl rfl V_aK Y_lo
  · exact rm_down_02 l Z a0 hw ws hp (0 : Int32) kq aF aO aW aK aB aA aI lo aE aP cK kK kE kP (2 : Int32) en0 en1 en2 en3 po0 po1 po2 po3 h0 n0 O0 E_hp F_hp_order F_hp_entries F_hp_positions F_hp_size E_kq F_kq_keys MDc V_aE V_aP g_aE g_aP NDp HI0 rfl rfl V_aK Y_lo
  · exact rm_down_12 l Z a0 hw ws hp (1 : Int32) kq aF aO aW aK aB aA aI lo aE aP cK kK kE kP (2 : Int32) en0 en1 en2 en3 po0 po1 po2 po3 h0 n0 O0 E_hp F_hp_order F_hp_entries F_hp_positions F_hp_size E_kq F_kq_keys MDc V_aE V_aP g_aE g_aP NDp HI0 rfl rfl V_aK Y_lo
  · exact rm_down_13 l Z a0 hw ws hp (1 : Int32) kq aF aO aW aK aB aA aI lo aE aP cK kK kE kP (3 : Int32) en0 en1 en2 en3 po0 po1 po2 po3 h0 n0 O0 E_hp F_hp_order F_hp_entries F_hp_positions F_hp_size E_kq F_kq_keys MDc V_aE V_aP g_aE g_aP NDp HI0 rfl rfl V_aK Y_lo
  · exact rm_down_23 l Z a0 hw ws hp (2 : Int32) kq aF aO aW aK aB aA aI lo aE aP cK kK kE kP (3 : Int32) en0 en1 en2 en3 po0 po1 po2 po3 h0 n0 O0 E_hp F_hp_order F_hp_entries F_hp_positions F_hp_size E_kq F_kq_keys MDc V_aE V_aP g_aE g_aP NDp HI0 rfl rfl V_aK Y_lo
def HPut (en n e0 e1 e2 e3 q0 q1 q2 q3 p0 p1 p2 p3 : Int32) : Prop := HI n e0 e1 e2 e3 q0 q1 q2 q3 ∧ (q0 = -1 ↔ (¬ en = 0 ∧ p0 = -1)) ∧ (q1 = -1 ↔ (¬ en = 1 ∧ p1 = -1)) ∧ (q2 = -1 ↔ (¬ en = 2 ∧ p2 = -1)) ∧ (q3 = -1 ↔ (¬ en = 3 ∧ p3 = -1))
def HRem (en n e0 e1 e2 e3 q0 q1 q2 q3 p0 p1 p2 p3 : Int32) : Prop := HI n e0 e1 e2 e3 q0 q1 q2 q3 ∧ (q0 = -1 ↔ (en = 0 ∨ p0 = -1)) ∧ (q1 = -1 ↔ (en = 1 ∨ p1 = -1)) ∧ (q2 = -1 ↔ (en = 2 ∨ p2 = -1)) ∧ (q3 = -1 ↔ (en = 3 ∨ p3 = -1))
theorem own_g0 (x0 x1 x2 x3 : Int32) : g4 0 x0 x1 x2 x3 = x0 := if_pos rfl
theorem own_g1 (x0 x1 x2 x3 : Int32) : g4 1 x0 x1 x2 x3 = x1 := (if_neg (by decide)).trans (if_pos rfl)
theorem own_g2 (x0 x1 x2 x3 : Int32) : g4 2 x0 x1 x2 x3 = x2 := (if_neg (by decide)).trans ((if_neg (by decide)).trans (if_pos rfl))
theorem own_g3 (x0 x1 x2 x3 : Int32) : g4 3 x0 x1 x2 x3 = x3 := (if_neg (by decide)).trans ((if_neg (by decide)).trans (if_neg (by decide)))
theorem own_s1 (n : Int32) : n + 1 - 1 = n := Int32.add_sub_cancel n 1
theorem own_sp {en i n p q : Int32} (hn : ¬ n = -1) (e : q = -1 ↔ s4 en i n p = -1) : q = -1 ↔ (¬ en = i ∧ p = -1) := by
  rw [e, s4]
  by_cases u : en = i
  · rw [if_pos u]; exact ⟨fun z => absurd z hn, fun z => absurd u z.1⟩
  · rw [if_neg u]; exact ⟨fun z => ⟨u, z⟩, fun z => z.2⟩
theorem own_hput {en n e0 e1 e2 e3 p0 p1 p2 p3 f0 f1 f2 f3 q0 q1 q2 q3 : Int32} (H : HI n e0 e1 e2 e3 p0 p1 p2 p3) (he : I4 en) (hp : g4 en p0 p1 p2 p3 = -1) (K : HI (n + 1) f0 f1 f2 f3 q0 q1 q2 q3 ∧ SM (s4 en 0 n p0) (s4 en 1 n p1) (s4 en 2 n p2) (s4 en 3 n p3) q0 q1 q2 q3) : HPut en (n + 1) f0 f1 f2 f3 q0 q1 q2 q3 p0 p1 p2 p3 :=
  have hn := (hi_put H he hp).2.2.2
  ⟨K.1, own_sp hn K.2.1, own_sp hn K.2.2.1, own_sp hn K.2.2.2.1, own_sp hn K.2.2.2.2⟩
theorem own_putup {en n e0 e1 e2 e3 p0 p1 p2 p3 : Int32} (H : HI n e0 e1 e2 e3 p0 p1 p2 p3) (he : I4 en) (hp : g4 en p0 p1 p2 p3 = -1) : I4 (n + 1 - 1) ∧ n + 1 - 1 < n + 1 := by
  rw [own_s1]; exact ⟨(hi_put H he hp).2.1, (hi_put H he hp).2.2.1⟩
theorem own_rn {en n e0 e1 e2 e3 p0 p1 p2 p3 y : Int32} (H : HI n e0 e1 e2 e3 p0 p1 p2 p3) (hy : y = g4 en p0 p1 p2 p3) (h : y = -1) : HRem en n e0 e1 e2 e3 p0 p1 p2 p3 p0 p1 p2 p3 := by
  rw [hy] at h
  refine ⟨H, ⟨Or.inr, fun z => z.elim (fun u => ?_) id⟩, ⟨Or.inr, fun z => z.elim (fun u => ?_) id⟩, ⟨Or.inr, fun z => z.elim (fun u => ?_) id⟩, ⟨Or.inr, fun z => z.elim (fun u => ?_) id⟩⟩
  · rw [u, own_g0] at h; exact h
  · rw [u, own_g1] at h; exact h
  · rw [u, own_g2] at h; exact h
  · rw [u, own_g3] at h; exact h
theorem own_rl {en n e0 e1 e2 e3 p0 p1 p2 p3 y : Int32} (H : HI n e0 e1 e2 e3 p0 p1 p2 p3) (he : I4 en) (hy : y = g4 en p0 p1 p2 p3) (hp : ¬ y = -1) (hl : y = n - 1) : HRem en (n - 1) e0 e1 e2 e3 (s4 en 0 (-1) p0) (s4 en 1 (-1) p1) (s4 en 2 (-1) p2) (s4 en 3 (-1) p3) p0 p1 p2 p3 := by
  subst hy; exact hi_rml H he hp hl
theorem own_rs {en n e0 e1 e2 e3 p0 p1 p2 p3 y : Int32} (H : HI n e0 e1 e2 e3 p0 p1 p2 p3) (he : I4 en) (hy : y = g4 en p0 p1 p2 p3) (hp : ¬ y = -1) : I4 (n - 1) := by
  subst hy; exact hi_sz H he hp
theorem own_rr {en n e0 e1 e2 e3 p0 p1 p2 p3 x y : Int32} (H : HI n e0 e1 e2 e3 p0 p1 p2 p3) (he : I4 en) (hx : x = g4 en p0 p1 p2 p3) (hp : ¬ x = -1) (hl : ¬ x = n - 1) (hy : y = g4 (n - 1) e0 e1 e2 e3) : HRem en (n - 1) (s4 x 0 y e0) (s4 x 1 y e1) (s4 x 2 y e2) (s4 x 3 y e3) (s4 y 0 x (s4 en 0 (-1) p0)) (s4 y 1 x (s4 en 1 (-1) p1)) (s4 y 2 x (s4 en 2 (-1) p2)) (s4 y 3 x (s4 en 3 (-1) p3)) p0 p1 p2 p3 ∧ (I4 x ∧ I4 y ∧ x < n - 1) := by
  have K := hi_rm H he (by rw [← hx]; exact hp) (by rw [← hx]; exact hl) hx hy
  exact ⟨⟨K.1, K.2.2⟩, K.2.1⟩
theorem own_dn {r n : Int32} (h1 : I4 r) (h2 : I4 n) (h3 : r < n) : DNp r n := by
  rcases h1 with rfl | rfl | rfl | rfl <;> rcases h2 with rfl | rfl | rfl | rfl <;> first | (exact absurd h3 (by decide)) | (unfold DNp; decide)
theorem own_rt {en n e0 e1 e2 e3 q0 q1 q2 q3 p0 p1 p2 p3 f0 f1 f2 f3 r0 r1 r2 r3 d0 d1 d2 d3 t0 t1 t2 t3 : Int32} (A : HRem en n e0 e1 e2 e3 q0 q1 q2 q3 p0 p1 p2 p3) (B : HI n f0 f1 f2 f3 r0 r1 r2 r3 ∧ SM q0 q1 q2 q3 r0 r1 r2 r3) (C : HI n d0 d1 d2 d3 t0 t1 t2 t3 ∧ SM r0 r1 r2 r3 t0 t1 t2 t3) : HRem en n d0 d1 d2 d3 t0 t1 t2 t3 p0 p1 p2 p3 :=
  have D := SM.trans B.2 C.2
  ⟨C.1, D.1.trans A.2.1, D.2.1.trans A.2.2.1, D.2.2.1.trans A.2.2.2.1, D.2.2.2.trans A.2.2.2.2⟩
theorem d6_0 : decode prog_35_method_3_code 0 = .ok (.aload_n 0, 1) := by decide +kernel
theorem d6_1 : decode prog_35_method_3_code 1 = .ok (.getfield 17, 3) := by decide +kernel
theorem d6_4 : decode prog_35_method_3_code 4 = .ok (.iload_n 1, 1) := by decide +kernel
theorem d6_5 : decode prog_35_method_3_code 5 = .ok (.iaload, 1) := by decide +kernel
theorem d6_6 : decode prog_35_method_3_code 6 = .ok (.iconst (-1), 1) := by decide +kernel
theorem d6_7 : decode prog_35_method_3_code 7 = .ok (.if_icmp .eq 7, 3) := by decide +kernel
theorem d6_10 : decode prog_35_method_3_code 10 = .ok (.iconst 1, 1) := by decide +kernel
theorem d6_11 : decode prog_35_method_3_code 11 = .ok (.goto 4, 3) := by decide +kernel
theorem d6_14 : decode prog_35_method_3_code 14 = .ok (.iconst 0, 1) := by decide +kernel
theorem d6_15 : decode prog_35_method_3_code 15 = .ok (.ireturn, 1) := by decide +kernel
theorem ef_rm_hcontains (m : MethodId) (x0 : Addr) (x1 : Int32) : entryFrame m #[(.ref x0), (.int x1)] 2 = mkF m 0 #[.val (.ref x0), .val (.int x1)] [] := by first | (simp [entryFrame, mkF, argsToLocals, Value.category]; done) | rfl
def Q_rm_hcontains (Z : State) (hp : Addr) (en : Int32) (kq aF aO aW aK aB aA aI lo aE aP : Addr) (kP : ClassId) (po0 po1 po2 po3 : Int32) (h0 : Heap) (n0 : Nat) (v : Option Value) (h : Heap) (L : List Loc) : Prop := v = some (.int (if g4 en po0 po1 po2 po3 = (-1 : Int32) then (0 : Int32) else (1 : Int32))) ∧ Fr n0 L ∧ h = h0
set_option maxRecDepth 65536 in
set_option maxHeartbeats 40000000 in
theorem rm_hcontains (l : Launch) (Z : State) (a0 : Array Value) (hw : ∀ d ∈ tables_1, d.before a0 Z = true) (ws : List Jvm.Cond) (hp : Addr) (en : Int32) (kq aF aO aW aK aB aA aI lo aE aP : Addr) (kP : ClassId) (po0 po1 po2 po3 : Int32) (h0 : Heap) (n0 : Nat) (O0 : Old Z n0 h0) (E_hp : Exa Z h0 hp "com/example/leasewise/leasewise/IndexedHeap") (F_hp_order : Fld Z h0 hp "com/example/leasewise/leasewise/IndexedHeap" "order" "Lcom/example/leasewise/leasewise/IndexedHeap$Order;" (.ref lo)) (F_hp_entries : Fld Z h0 hp "com/example/leasewise/leasewise/IndexedHeap" "entries" "[I" (.ref aE)) (F_hp_positions : Fld Z h0 hp "com/example/leasewise/leasewise/IndexedHeap" "positions" "[I" (.ref aP)) (V_aP : Arv Z h0 aP kP .int (4 : Int32) [(.int po0), (.int po1), (.int po2), (.int po3)] (.int (-1 : Int32))) (he : I4 en) :
    MetFree l (⟨"com/example/leasewise/leasewise/IndexedHeap", "contains", "(I)Z"⟩ : MethodName) (head1 (Jvm.Cond.code (⟨"com/example/leasewise/leasewise/IndexedHeap", "contains", "(I)Z"⟩ : MethodName) prog_35_method_3_code 2 (some .boolean) :: ws) ({ frames := 0, cells := 0, slots := 0, locals := 0 } : Room)) (fun a U => a = #[(.ref hp), (.int en)] ∧ Z.WarmedH U.vm ∧ U.heap = h0) (fun _ _ _ _ _ => True) (fun _ U o U' => ∃ v L, o = .returned v ∧ Q_rm_hcontains Z hp en kq aF aO aW aK aB aA aI lo aE aP kP po0 po1 po2 po3 h0 n0 v U'.heap L ∧ FrameEnd U o U' L ({ frames := 0, cells := 0, slots := 0, locals := 0 } : Room).cells ({ frames := 0, cells := 0, slots := 0, locals := 0 } : Room).slots) := by
  refine MetFree.of_bodySF (plainFor_of_name pn_1) hisR ?_
  intro p e s m args below meth c s₁ Bd hml0 hP hK
  obtain ⟨rfl, hZH, hh⟩ := hP
  have hZ := hZH.wide
  have hx := Bd.exec
  have hby := Bd.bytes
  have D := fun {pc : Nat} {r : Except ClassFile.DecodeError (ClassFile.Instr × Nat)} (q : decode prog_35_method_3_code pc = r) => hb (pc := pc) hby q
  have hml : c.maxLocals = 2 := hml0
  have hown : s.vm.findClass "com/example/leasewise/leasewise/IndexedHeap" = some m.cls := findClass_of_methodNamed Bd.named
  have hnm := (name_of_methodNamed Bd.named Bd.method).1
  have X0 : Stand p l e ({ frames := 0, cells := 0, slots := 0, locals := 0 } : Room) s m #[(.ref hp), (.int en)] below meth c s₁ [] 0 0 := Stand.of_body Bd
  have e0 : s₁.heap = h0 := by rw [← hh, Bd.state]; rfl
  have N0 := Fr.nil n0
  have pre0 : ∀ t, Steps p.tables e below (s₁.setTop (mkF m 0 #[.val (.ref hp), .val (.int en)] [])) t → Steps p.tables e below (s₁.setTop (entryFrame m #[(.ref hp), (.int en)] 2)) t := fun t k => castTop (ef_rm_hcontains m (hp) (en)) k
  have wd := fun {d : Jvm.Cond} (i : Nat) (h : tables_1[i]? = some d) => hw d (List.mem_of_getElem? h)
  obtain ⟨T1, X1, e1, st1⟩ := getF X0 hx hZ hown (host := "") (Or.inl (wd 46 rfl)) Via.refl e0 F_hp_positions (g := (mkF m 1 #[.val (.ref hp), .val (.int en)] [(.ref hp)])) rfl rfl (D d6_1)
  obtain ⟨cl2, Ar2, q2, S2, Nn2, H2, G2⟩ := id V_aP
  have hin2 : ¬ (en < 0 ∨ cl2.slots.size ≤ (en).toNatClampNeg) := inb_of S2 (own_in4 he)
  obtain ⟨y2, hy2⟩ : ∃ y, y = g4 en po0 po1 po2 po3 := ⟨_, rfl⟩
  have hat2 := own_get4 H2 hin2 he hy2
  have cs3 : Steps p.tables e below (s₁.setTop (mkF m 0 #[.val (.ref hp), .val (.int en)] [])) (T1.setTop (mkF m 7 #[.val (.ref hp), .val (.int en)] [(.int (-1 : Int32)), (.int y2)])) := (by
    refine s_aloadN X0 hx (D d6_0) rfl rfl ?_
    refine st1 _ ?_
    refine s_iloadN X1 hx (D d6_4) rfl ?_
    refine X1.iaload hx (j := en) (v := (.int y2)) (by rw [e1]; exact (Ar2).1) (State.isArrayOf_alike hZ.alike (Ar2).2.1) (Ar2).2.2 hin2 hat2 (g := (mkF m 5 #[.val (.ref hp), .val (.int en)] [(.int en), (.ref aP)])) rfl rfl (D d6_5) _ ?_
    refine s_iconst X1 hx (-1 : Int32) (D d6_6) rfl ?_
    exact Steps.refl _)
  by_cases hc4 : y2 = (-1 : Int32)
  · obtain ⟨fs, hr, hrun, hended, hW, hsame⟩ := X1.leave (v := some (.int (0 : Int32))) (fun h => by rw [Bd.returns] at h; cases h)
    refine ⟨_, _, pre0 _ ?_, hrun, hended, _, _, rfl, ?_, ⟨_, rfl⟩, hW, hsame.mono (by decide) (by decide)⟩
    · refine cs3.trans ?_
      refine s_icmpYes X1 hx 14 (D d6_7) (teq hc4).1 (of_decide_eq_true rfl) rfl ?_
      refine s_iconst X1 hx (0 : Int32) (D d6_14) rfl ?_
      exact retN X1 hx (t := .boolean) Bd.returns (by simp) (D d6_15) hr
    · show Q_rm_hcontains Z hp en kq aF aO aW aK aB aA aI lo aE aP kP po0 po1 po2 po3 h0 n0 _ T1.heap _
      rw [e1]
      exact ⟨by rw [if_pos (hy2.symm.trans hc4)], N0, rfl⟩
  · obtain ⟨fs, hr, hrun, hended, hW, hsame⟩ := X1.leave (v := some (.int (1 : Int32))) (fun h => by rw [Bd.returns] at h; cases h)
    refine ⟨_, _, pre0 _ ?_, hrun, hended, _, _, rfl, ?_, ⟨_, rfl⟩, hW, hsame.mono (by decide) (by decide)⟩
    · refine cs3.trans ?_
      refine s_icmpNo X1 hx (D d6_7) (feq hc4).1 ?_
      refine s_iconst X1 hx (1 : Int32) (D d6_10) rfl ?_
      refine s_goto X1 hx 15 (D d6_11) (of_decide_eq_true rfl) rfl ?_
      exact retN X1 hx (t := .boolean) Bd.returns (by simp) (D d6_15) hr
    · show Q_rm_hcontains Z hp en kq aF aO aW aK aB aA aI lo aE aP kP po0 po1 po2 po3 h0 n0 _ T1.heap _
      rw [e1]
      exact ⟨by rw [if_neg (fun z => hc4 (hy2.trans z))], N0, rfl⟩
theorem d10_0 : decode prog_35_method_6_code 0 = .ok (.aload_n 0, 1) := by decide +kernel
theorem d10_1 : decode prog_35_method_6_code 1 = .ok (.iload_n 1, 1) := by decide +kernel
theorem d10_2 : decode prog_35_method_6_code 2 = .ok (.invokevirtual 45, 3) := by decide +kernel
theorem d10_5 : decode prog_35_method_6_code 5 = .ok (.ifCond .eq 20, 3) := by decide +kernel
theorem d10_25 : decode prog_35_method_6_code 25 = .ok (.aload_n 0, 1) := by decide +kernel
theorem d10_26 : decode prog_35_method_6_code 26 = .ok (.getfield 13, 3) := by decide +kernel
theorem d10_29 : decode prog_35_method_6_code 29 = .ok (.aload_n 0, 1) := by decide +kernel
theorem d10_30 : decode prog_35_method_6_code 30 = .ok (.getfield 26, 3) := by decide +kernel
theorem d10_33 : decode prog_35_method_6_code 33 = .ok (.iload_n 1, 1) := by decide +kernel
theorem d10_34 : decode prog_35_method_6_code 34 = .ok (.iastore, 1) := by decide +kernel
theorem d10_35 : decode prog_35_method_6_code 35 = .ok (.aload_n 0, 1) := by decide +kernel
theorem d10_36 : decode prog_35_method_6_code 36 = .ok (.getfield 17, 3) := by decide +kernel
theorem d10_39 : decode prog_35_method_6_code 39 = .ok (.iload_n 1, 1) := by decide +kernel
theorem d10_40 : decode prog_35_method_6_code 40 = .ok (.aload_n 0, 1) := by decide +kernel
theorem d10_41 : decode prog_35_method_6_code 41 = .ok (.getfield 26, 3) := by decide +kernel
theorem d10_44 : decode prog_35_method_6_code 44 = .ok (.iastore, 1) := by decide +kernel
theorem d10_45 : decode prog_35_method_6_code 45 = .ok (.aload_n 0, 1) := by decide +kernel
theorem d10_46 : decode prog_35_method_6_code 46 = .ok (.dup, 1) := by decide +kernel
theorem d10_47 : decode prog_35_method_6_code 47 = .ok (.getfield 26, 3) := by decide +kernel
theorem d10_50 : decode prog_35_method_6_code 50 = .ok (.iconst 1, 1) := by decide +kernel
theorem d10_51 : decode prog_35_method_6_code 51 = .ok (.iadd, 1) := by decide +kernel
theorem d10_52 : decode prog_35_method_6_code 52 = .ok (.putfield 26, 3) := by decide +kernel
theorem d10_55 : decode prog_35_method_6_code 55 = .ok (.aload_n 0, 1) := by decide +kernel
theorem d10_56 : decode prog_35_method_6_code 56 = .ok (.aload_n 0, 1) := by decide +kernel
theorem d10_57 : decode prog_35_method_6_code 57 = .ok (.getfield 26, 3) := by decide +kernel
theorem d10_60 : decode prog_35_method_6_code 60 = .ok (.iconst 1, 1) := by decide +kernel
theorem d10_61 : decode prog_35_method_6_code 61 = .ok (.isub, 1) := by decide +kernel
theorem d10_62 : decode prog_35_method_6_code 62 = .ok (.invokevirtual 49, 3) := by decide +kernel
theorem d10_65 : decode prog_35_method_6_code 65 = .ok (.pop, 1) := by decide +kernel
theorem d10_66 : decode prog_35_method_6_code 66 = .ok (.return_, 1) := by decide +kernel
theorem pd_2 : parseMethodDescriptor "(I)Z" = some ⟨[.int], some .boolean⟩ := by decide +kernel
theorem ne8_11 {kq aF aO aW aK aB aA aI hp lo aE aP : Addr} (h : List.Nodup [kq, aF, aO, aW, aK, aB, aA, aI, hp, lo, aE, aP]) : hp ≠ aP := own_nd h 8 11 rfl rfl (by decide)
theorem ne4_10 {kq aF aO aW aK aB aA aI hp lo aE aP : Addr} (h : List.Nodup [kq, aF, aO, aW, aK, aB, aA, aI, hp, lo, aE, aP]) : aK ≠ aE := own_nd h 4 10 rfl rfl (by decide)
theorem ne4_11 {kq aF aO aW aK aB aA aI hp lo aE aP : Addr} (h : List.Nodup [kq, aF, aO, aW, aK, aB, aA, aI, hp, lo, aE, aP]) : aK ≠ aP := own_nd h 4 11 rfl rfl (by decide)
theorem ne4_8 {kq aF aO aW aK aB aA aI hp lo aE aP : Addr} (h : List.Nodup [kq, aF, aO, aW, aK, aB, aA, aI, hp, lo, aE, aP]) : aK ≠ hp := own_nd h 4 8 rfl rfl (by decide)
theorem ne9_10 {kq aF aO aW aK aB aA aI hp lo aE aP : Addr} (h : List.Nodup [kq, aF, aO, aW, aK, aB, aA, aI, hp, lo, aE, aP]) : lo ≠ aE := own_nd h 9 10 rfl rfl (by decide)
theorem ne9_11 {kq aF aO aW aK aB aA aI hp lo aE aP : Addr} (h : List.Nodup [kq, aF, aO, aW, aK, aB, aA, aI, hp, lo, aE, aP]) : lo ≠ aP := own_nd h 9 11 rfl rfl (by decide)
theorem ne9_8 {kq aF aO aW aK aB aA aI hp lo aE aP : Addr} (h : List.Nodup [kq, aF, aO, aW, aK, aB, aA, aI, hp, lo, aE, aP]) : lo ≠ hp := own_nd h 9 8 rfl rfl (by decide)
theorem ne0_10 {kq aF aO aW aK aB aA aI hp lo aE aP : Addr} (h : List.Nodup [kq, aF, aO, aW, aK, aB, aA, aI, hp, lo, aE, aP]) : kq ≠ aE := own_nd h 0 10 rfl rfl (by decide)
theorem ne0_11 {kq aF aO aW aK aB aA aI hp lo aE aP : Addr} (h : List.Nodup [kq, aF, aO, aW, aK, aB, aA, aI, hp, lo, aE, aP]) : kq ≠ aP := own_nd h 0 11 rfl rfl (by decide)
theorem ne0_8 {kq aF aO aW aK aB aA aI hp lo aE aP : Addr} (h : List.Nodup [kq, aF, aO, aW, aK, aB, aA, aI, hp, lo, aE, aP]) : kq ≠ hp := own_nd h 0 8 rfl rfl (by decide)
theorem ne10_8 {kq aF aO aW aK aB aA aI hp lo aE aP : Addr} (h : List.Nodup [kq, aF, aO, aW, aK, aB, aA, aI, hp, lo, aE, aP]) : aE ≠ hp := own_nd h 10 8 rfl rfl (by decide)
theorem ne11_8 {kq aF aO aW aK aB aA aI hp lo aE aP : Addr} (h : List.Nodup [kq, aF, aO, aW, aK, aB, aA, aI, hp, lo, aE, aP]) : aP ≠ hp := own_nd h 11 8 rfl rfl (by decide)
theorem pd_3 : parseMethodDescriptor "(I)I" = some ⟨[.int], some .int⟩ := by decide +kernel
theorem ef_rm_hput (m : MethodId) (x0 : Addr) (x1 : Int32) : entryFrame m #[(.ref x0), (.int x1)] 3 = mkF m 0 #[.val (.ref x0), .val (.int x1), .unset] [] := by first | (simp [entryFrame, mkF, argsToLocals, Value.category]; done) | rfl
def Q_rm_hput (Z : State) (hp : Addr) (en : Int32) (kq aF aO aW aK aB aA aI lo aE aP : Addr) (cK kK kE kP : ClassId) (sz en0 en1 en2 en3 po0 po1 po2 po3 : Int32) (h0 : Heap) (n0 : Nat) (v : Option Value) (h : Heap) (L : List Loc) : Prop := ∃ (ve0 : Int32) (ve1 : Int32) (ve2 : Int32) (ve3 : Int32) (vp0 : Int32) (vp1 : Int32) (vp2 : Int32) (vp3 : Int32) (vz_ : Int32), v = none ∧ Fr n0 L ∧ Keep h0 h [hp, aE, aP] ∧ Fld Z h hp "com/example/leasewise/leasewise/IndexedHeap" "order" "Lcom/example/leasewise/leasewise/IndexedHeap$Order;" (.ref lo) ∧ Fld Z h hp "com/example/leasewise/leasewise/IndexedHeap" "entries" "[I" (.ref aE) ∧ Fld Z h hp "com/example/leasewise/leasewise/IndexedHeap" "positions" "[I" (.ref aP) ∧ Fld Z h hp "com/example/leasewise/leasewise/IndexedHeap" "size" "I" (.int vz_) ∧ Arv Z h aE kE .int (4 : Int32) [(.int ve0), (.int ve1), (.int ve2), (.int ve3)] (.int (0 : Int32)) ∧ Arv Z h aP kP .int (4 : Int32) [(.int vp0), (.int vp1), (.int vp2), (.int vp3)] (.int (-1 : Int32)) ∧ (HPut en vz_ ve0 ve1 ve2 ve3 vp0 vp1 vp2 vp3 po0 po1 po2 po3)
set_option maxRecDepth 65536 in
set_option maxHeartbeats 40000000 in
theorem rm_hput (l : Launch) (Z : State) (a0 : Array Value) (hw : ∀ d ∈ tables_1, d.before a0 Z = true) (ws : List Jvm.Cond) (hp : Addr) (en : Int32) (kq aF aO aW aK aB aA aI lo aE aP : Addr) (cK kK kE kP : ClassId) (sz en0 en1 en2 en3 po0 po1 po2 po3 : Int32) (h0 : Heap) (n0 : Nat) (O0 : Old Z n0 h0) (E_hp : Exa Z h0 hp "com/example/leasewise/leasewise/IndexedHeap") (F_hp_order : Fld Z h0 hp "com/example/leasewise/leasewise/IndexedHeap" "order" "Lcom/example/leasewise/leasewise/IndexedHeap$Order;" (.ref lo)) (F_hp_entries : Fld Z h0 hp "com/example/leasewise/leasewise/IndexedHeap" "entries" "[I" (.ref aE)) (F_hp_positions : Fld Z h0 hp "com/example/leasewise/leasewise/IndexedHeap" "positions" "[I" (.ref aP)) (F_hp_size : Fld Z h0 hp "com/example/leasewise/leasewise/IndexedHeap" "size" "I" (.int sz)) (E_kq : Exa Z h0 kq "com/example/leasewise/leasewise/KilometreQueue") (F_kq_keys : Fld Z h0 kq "com/example/leasewise/leasewise/KilometreQueue" "keys" "[J" (.ref aK)) (MDc : Jvm.LamKit.Made Z "com/example/leasewise/leasewise/KilometreQueue" sgm cK) (V_aE : Arv Z h0 aE kE .int (4 : Int32) [(.int en0), (.int en1), (.int en2), (.int en3)] (.int (0 : Int32))) (V_aP : Arv Z h0 aP kP .int (4 : Int32) [(.int po0), (.int po1), (.int po2), (.int po3)] (.int (-1 : Int32))) (g_hp : n0 ≤ hp) (g_aE : n0 ≤ aE) (g_aP : n0 ≤ aP) (NDp : List.Nodup [kq, aF, aO, aW, aK, aB, aA, aI, hp, lo, aE, aP]) (HI0 : HI sz en0 en1 en2 en3 po0 po1 po2 po3) (he : I4 en) (hpk : g4 en po0 po1 po2 po3 = -1) (V_aK : Arp Z h0 aK kK .long (4 : Int32) PJ) (Y_lo : LamO h0 lo cK kq) :
    MetFree l (⟨"com/example/leasewise/leasewise/IndexedHeap", "put", "(I)V"⟩ : MethodName) (head1 (Jvm.Cond.code (⟨"com/example/leasewise/leasewise/IndexedHeap", "put", "(I)V"⟩ : MethodName) prog_35_method_6_code 3 none :: ws) ({ frames := 3, cells := 0, slots := 0, locals := 44 } : Room)) (fun a U => a = #[(.ref hp), (.int en)] ∧ Z.WarmedH U.vm ∧ U.heap = h0) (fun _ _ _ _ _ => True) (fun _ U o U' => ∃ v L, o = .returned v ∧ Q_rm_hput Z hp en kq aF aO aW aK aB aA aI lo aE aP cK kK kE kP sz en0 en1 en2 en3 po0 po1 po2 po3 h0 n0 v U'.heap L ∧ FrameEnd U o U' L ({ frames := 3, cells := 0, slots := 0, locals := 44 } : Room).cells ({ frames := 3, cells := 0, slots := 0, locals := 44 } : Room).slots) := by
  refine MetFree.of_bodySF (plainFor_of_name pn_1) hisR ?_
  intro p e s m args below meth c s₁ Bd hml0 hP hK
  obtain ⟨rfl, hZH, hh⟩ := hP
  have hZ := hZH.wide
  have hx := Bd.exec
  have hby := Bd.bytes
  have D := fun {pc : Nat} {r : Except ClassFile.DecodeError (ClassFile.Instr × Nat)} (q : decode prog_35_method_6_code pc = r) => hb (pc := pc) hby q
  have hml : c.maxLocals = 3 := hml0
  have hown : s.vm.findClass "com/example/leasewise/leasewise/IndexedHeap" = some m.cls := findClass_of_methodNamed Bd.named
  have hnm := (name_of_methodNamed Bd.named Bd.method).1
  have X0 : Stand p l e ({ frames := 3, cells := 0, slots := 0, locals := 44 } : Room) s m #[(.ref hp), (.int en)] below meth c s₁ [] 0 0 := Stand.of_body Bd
  have e0 : s₁.heap = h0 := by rw [← hh, Bd.state]; rfl
  have N0 := Fr.nil n0
  have pre0 : ∀ t, Steps p.tables e below (s₁.setTop (mkF m 0 #[.val (.ref hp), .val (.int en), .unset] [])) t → Steps p.tables e below (s₁.setTop (entryFrame m #[(.ref hp), (.int en)] 3)) t := fun t k => castTop (ef_rm_hput m (hp) (en)) k
  have wd := fun {d : Jvm.Cond} (i : Nat) (h : tables_1[i]? = some d) => hw d (List.mem_of_getElem? h)
  obtain ⟨cq1, kq1, q1a, q1b, q1c⟩ := isOf hZ e0 E_hp
  obtain ⟨_, _, ⟨T1, L1, k1, n1⟩, -, X1, ⟨Lc1, hQ1, l1, y1, z1⟩, st1⟩ := X0.virtualBack hx (y := (⟨"com/example/leasewise/leasewise/IndexedHeap", "contains", "(I)Z"⟩ : MethodName)) (z := (⟨"com/example/leasewise/leasewise/IndexedHeap", "contains", "(I)Z"⟩ : MethodName)) hown (mvT hZ (wd 85 rfl)) (mvT hZ (wd 57 rfl)) (notFace_of_selects (args := #[]) (mvT hZ (wd 59 rfl))) (mvT hZ (wd 59 rfl)) (mvT hZ (wd 58 rfl)) (by decide) (own_backH (W := 0) (rm_hcontains l Z a0 hw [] hp en kq aF aO aW aK aB aA aI lo aE aP kP po0 po1 po2 po3 h0 n0 O0 E_hp F_hp_order F_hp_entries F_hp_positions V_aP he) hZH (wd 60 rfl) (wd 33 rfl) (by decide) (by decide)) q1a q1c (g := (mkF m 2 #[.val (.ref hp), .val (.int en), .unset] [(.int en), (.ref hp)])) rfl (by rw [hml]; rfl) (Steps.refl _) (argsL := [(.int en)]) (rest := []) (lenOf pd_2 rfl) rfl (by show 2 * 0 + _ ≤ _; exact Nat.le_of_eq rfl) (D d10_2) (fun _ _ => ⟨rfl, e0, (by decide : 0 + 0 ≤ _), (by decide : 0 + 0 ≤ _)⟩)
  dsimp only [Pt.U, Pt.locs, Pt.cells, Pt.slots] at X1 l1 y1 z1 st1 hQ1
  subst l1 y1 z1
  obtain ⟨rfl, N1q, e1⟩ := hQ1
  have N1 := Fr.app N0 N1q
  obtain ⟨T2, X2, e2, st2⟩ := getF X1 hx hZ hown (host := "") (Or.inl (wd 44 rfl)) Via.refl e1 F_hp_entries (g := (mkF m 26 #[.val (.ref hp), .val (.int en), .unset] [(.ref hp)])) rfl rfl (D d10_26)
  obtain ⟨T3, X3, e3, st3⟩ := getF X2 hx hZ hown (host := "") (Or.inl (wd 86 rfl)) Via.refl e2 F_hp_size (g := (mkF m 30 #[.val (.ref hp), .val (.int en), .unset] [(.ref hp), (.ref aE)])) rfl rfl (D d10_30)
  obtain ⟨cl4, Ar4, q4, S4, Nn4, H4, G4⟩ := id V_aE
  have hin4 : ¬ (sz < 0 ∨ cl4.slots.size ≤ (sz).toNatClampNeg) := inb_of S4 (own_in4 (hi_put HI0 he hpk).2.1)
  obtain ⟨T4, h4, X4, e4, W4, st4⟩ := stI X3 hx hZ e3 Ar4 (j := sz) hin4 (g := (mkF m 34 #[.val (.ref hp), .val (.int en), .unset] [(.int en), (.int sz), (.ref aE)])) rfl rfl (D d10_34)
  have V4 : Arv Z h4 aE kE .int (4 : Int32) [(.int (s4 sz 0 en en0)), (.int (s4 sz 1 en en1)), (.int (s4 sz 2 en en2)), (.int (s4 sz 3 en en3))] (.int (0 : Int32)) := own_set4 (w := en) Ar4 q4 S4 Nn4 H4 G4 rfl W4 (hi_put HI0 he hpk).2.1
  have N4 := Fr.snoc X4 N1 g_aE
  have Zn4 : n0 ≤ h4.size := Nat.le_trans (own_oldsz O0) (Keep.of_wr W4).1
  have K4 : Keep h0 h4 [hp, aE, aP] := (Keep.refl h0 [hp, aE, aP]).wr W4 (Or.inl (List.mem_of_getElem? (i := 1) rfl))
  have O4 := O0.wr W4 g_aE
  have f5 := (F_hp_positions.other W4 (Or.inl (ne8_10 NDp)))
  obtain ⟨T6, X6, e6, st6⟩ := getF X4 hx hZ hown (host := "") (Or.inl (wd 46 rfl)) Via.refl e4 f5 (g := (mkF m 36 #[.val (.ref hp), .val (.int en), .unset] [(.ref hp)])) rfl rfl (D d10_36)
  have f7 := (F_hp_size.other W4 (Or.inl (ne8_10 NDp)))
  obtain ⟨T8, X8, e8, st8⟩ := getF X6 hx hZ hown (host := "") (Or.inl (wd 86 rfl)) Via.refl e6 f7 (g := (mkF m 41 #[.val (.ref hp), .val (.int en), .unset] [(.ref hp), (.int en), (.ref aP)])) rfl rfl (D d10_41)
  have f10 := (V_aP.other W4 (ne11_10 NDp))
  obtain ⟨cl9, Ar9, q9, S9, Nn9, H9, G9⟩ := id f10
  have hin9 : ¬ (en < 0 ∨ cl9.slots.size ≤ (en).toNatClampNeg) := inb_of S9 (own_in4 he)
  obtain ⟨T9, h9, X9, e9, W9, st9⟩ := stI X8 hx hZ e8 Ar9 (j := en) hin9 (g := (mkF m 44 #[.val (.ref hp), .val (.int en), .unset] [(.int sz), (.int en), (.ref aP)])) rfl rfl (D d10_44)
  have V9 : Arv Z h9 aP kP .int (4 : Int32) [(.int (s4 en 0 sz po0)), (.int (s4 en 1 sz po1)), (.int (s4 en 2 sz po2)), (.int (s4 en 3 sz po3))] (.int (-1 : Int32)) := own_set4 (w := sz) Ar9 q9 S9 Nn9 H9 G9 rfl W9 he
  have N9 := Fr.snoc X9 N4 g_aP
  have Zn9 : n0 ≤ h9.size := Nat.le_trans Zn4 (Keep.of_wr W9).1
  have K9 : Keep h0 h9 [hp, aE, aP] := K4.wr W9 (Or.inl (List.mem_of_getElem? (i := 2) rfl))
  have O9 := O4.wr W9 g_aP
  have f11 := (f7.other W9 (Or.inl (ne8_11 NDp)))
  obtain ⟨T12, X12, e12, st12⟩ := getF X9 hx hZ hown (host := "") (Or.inl (wd 86 rfl)) Via.refl e9 f11 (g := (mkF m 47 #[.val (.ref hp), .val (.int en), .unset] [(.ref hp), (.ref hp)])) rfl rfl (D d10_47)
  have f14 := ((E_hp.wr W4).wr W9)
  obtain ⟨T13, h13, X13, e13, W13, st13⟩ := putF X12 hx hZ hown (host := "") (Or.inl (wd 86 rfl)) Via.refl e12 f11 f14 (Or.inl (wd 87 rfl)) (wd 32 rfl) (ty := .int) (by decide) rfl rfl (g := (mkF m 52 #[.val (.ref hp), .val (.int en), .unset] [(.int (sz + (1 : Int32))), (.ref hp)])) rfl rfl (D d10_52)
  have Fw13 : Fld Z h13 hp "com/example/leasewise/leasewise/IndexedHeap" "size" "I" (.int (sz + (1 : Int32))) := Fld.same W13 f11
  have N13 := Fr.snoc X13 N9 g_hp
  have Zn13 : n0 ≤ h13.size := Nat.le_trans Zn9 (Keep.of_wr W13).1
  have K13 : Keep h0 h13 [hp, aE, aP] := K9.wr W13 (Or.inl (List.mem_of_getElem? (i := 0) rfl))
  have O13 := O9.wr W13 g_hp
  obtain ⟨T15, X15, e15, st15⟩ := getF X13 hx hZ hown (host := "") (Or.inl (wd 86 rfl)) Via.refl e13 Fw13 (g := (mkF m 57 #[.val (.ref hp), .val (.int en), .unset] [(.ref hp), (.ref hp)])) rfl rfl (D d10_57)
  have f16 := (((V_aK.other W4 (ne4_10 NDp)).other W9 (ne4_11 NDp)).other W13 (ne4_8 NDp))
  have f17 := (((Y_lo.other W4 (ne9_10 NDp)).other W9 (ne9_11 NDp)).other W13 (ne9_8 NDp))
  have f18 := (f14.wr W13)
  have f19 := (((F_hp_order.other W4 (Or.inl (ne8_10 NDp))).other W9 (Or.inl (ne8_11 NDp))).other W13 (Or.inr (slot_ne (Or.inr (wd 43 rfl)) (Or.inl (wd 87 rfl)) (by decide) (t := (.object "com/example/leasewise/leasewise/IndexedHeap$Order")) (t' := .int) (by decide) (by decide))))
  have f20 := (((F_hp_entries.other W4 (Or.inl (ne8_10 NDp))).other W9 (Or.inl (ne8_11 NDp))).other W13 (Or.inr (slot_ne (Or.inr (wd 45 rfl)) (Or.inl (wd 87 rfl)) (by decide) (t := (.array .int)) (t' := .int) (by decide) (by decide))))
  have f21 := ((f5.other W9 (Or.inl (ne8_11 NDp))).other W13 (Or.inr (slot_ne (Or.inr (wd 47 rfl)) (Or.inl (wd 87 rfl)) (by decide) (t := (.array .int)) (t' := .int) (by decide) (by decide))))
  have f22 := (((E_kq.wr W4).wr W9).wr W13)
  have f23 := (((F_kq_keys.other W4 (Or.inl (ne0_10 NDp))).other W9 (Or.inl (ne0_11 NDp))).other W13 (Or.inl (ne0_8 NDp)))
  have f24 := ((V4.other W9 (ne10_11 NDp)).other W13 (ne10_8 NDp))
  have f25 := (V9.other W13 (ne11_8 NDp))
  obtain ⟨cq26, q26, q26'⟩ := f18.cell
  obtain ⟨_, _, ⟨T26, L26, k26, n26⟩, -, X26, ⟨Lc26, hQ26, l26, y26, z26⟩, st26⟩ := X15.privateBack hx (y := (⟨"com/example/leasewise/leasewise/IndexedHeap", "siftUp", "(I)I"⟩ : MethodName)) hown (mvT hZ (wd 88 rfl)) (mvT hZ (wd 89 rfl)) (own_selpriv (y := (⟨"com/example/leasewise/leasewise/IndexedHeap", "siftUp", "(I)I"⟩ : MethodName)) (mvT hZ (wd 59 rfl)) rfl (Cond.privateMethod_at (mvP hZ (wd 90 rfl) (args := #[]))) (mvT hZ (wd 89 rfl)) (by decide)) (Cond.privateMethod_at (mvP hZ (wd 90 rfl) (args := #[]))) (mvT hZ (wd 91 rfl)) (by decide) (own_backH (W := 0) (rm_up l Z a0 hw [] hp ((sz + (1 : Int32)) - (1 : Int32)) kq aF aO aW aK aB aA aI lo aE aP cK kK kE kP (sz + (1 : Int32)) (s4 sz 0 en en0) (s4 sz 1 en en1) (s4 sz 2 en en2) (s4 sz 3 en en3) (s4 en 0 sz po0) (s4 en 1 sz po1) (s4 en 2 sz po2) (s4 en 3 sz po3) h13 n0 O13 f18 f19 f20 f21 Fw13 f22 f23 MDc f24 f25 g_aE g_aP NDp ((hi_put HI0 he hpk).1) ((own_putup HI0 he hpk).1) ((own_putup HI0 he hpk).2) f16 f17) hZH (wd 91 rfl) (wd 33 rfl) (by decide) (by decide)) (g := (mkF m 62 #[.val (.ref hp), .val (.int en), .unset] [(.int ((sz + (1 : Int32)) - (1 : Int32))), (.ref hp)])) rfl (by rw [hml]; rfl) (Steps.refl _) (a := hp) (by rw [e15]; exact q26) q26' (argsL := [(.int ((sz + (1 : Int32)) - (1 : Int32)))]) (rest := []) (lenOf pd_3 rfl) rfl (by show 2 * 0 + _ ≤ _; exact Nat.le_of_eq rfl) (D d10_62) (fun _ _ => ⟨rfl, e15, (by decide : 0 + 0 ≤ _), (by decide : 0 + 0 ≤ _)⟩)
  dsimp only [Pt.U, Pt.locs, Pt.cells, Pt.slots] at X26 l26 y26 z26 st26 hQ26
  subst l26 y26 z26
  obtain ⟨ve0_26, ve1_26, ve2_26, ve3_26, vp0_26, vp1_26, vp2_26, vp3_26, r__26, rfl, N26q, K26, Q26_0, Q26_1, Q26_2, Q26_3⟩ := hQ26
  have O26 := O13.keep K26 (allS g_aE (allS g_aP all0))
  have KK26 : Keep h0 T26.heap [hp, aE, aP] := K13.trans K26 (allS (own_mem 1 rfl) (allS (own_mem 2 rfl) all0))
  have N26 := Fr.app N13 N26q
  have f27 := (f19.keep K26 (nn3 NDp))
  have f28 := (f20.keep K26 (nn3 NDp))
  have f29 := (f21.keep K26 (nn3 NDp))
  have f30 := (Fw13.keep K26 (nn3 NDp))
  obtain ⟨fs, hr, hrun, hended, hW, hsame⟩ := X26.leave (v := none) (fun _ => rfl)
  refine ⟨_, _, pre0 _ ?_, hrun, hended, _, _, rfl, ?_, ⟨_, rfl⟩, hW, hsame.mono (by decide) (by decide)⟩
  · refine s_aloadN X0 hx (D d10_0) rfl rfl ?_
    refine s_iloadN X0 hx (D d10_1) rfl ?_
    refine st1.trans ?_
    refine s_ifYes X1 hx 25 (D d10_5) ((if0 _ _).trans (teq (by rw [if_pos hpk] : (if g4 en po0 po1 po2 po3 = (-1 : Int32) then (0 : Int32) else (1 : Int32)) = (0 : Int32))).1) (of_decide_eq_true rfl) rfl ?_
    refine s_aloadN X1 hx (D d10_25) rfl rfl ?_
    refine st2 _ ?_
    refine s_aloadN X2 hx (D d10_29) rfl rfl ?_
    refine st3 _ ?_
    refine s_iloadN X3 hx (D d10_33) rfl ?_
    refine st4 _ ?_
    refine s_aloadN X4 hx (D d10_35) rfl rfl ?_
    refine st6 _ ?_
    refine s_iloadN X6 hx (D d10_39) rfl ?_
    refine s_aloadN X6 hx (D d10_40) rfl rfl ?_
    refine st8 _ ?_
    refine st9 _ ?_
    refine s_aloadN X9 hx (D d10_45) rfl rfl ?_
    refine s_dup X9 hx (D d10_46) rfl ?_
    refine st12 _ ?_
    refine s_iconst X12 hx (1 : Int32) (D d10_50) rfl ?_
    refine s_iadd X12 hx (D d10_51) rfl ?_
    refine st13 _ ?_
    refine s_aloadN X13 hx (D d10_55) rfl rfl ?_
    refine s_aloadN X13 hx (D d10_56) rfl rfl ?_
    refine st15 _ ?_
    refine s_iconst X15 hx (1 : Int32) (D d10_60) rfl ?_
    refine s_isub X15 hx (D d10_61) rfl ?_
    refine st26.trans ?_
    refine s_pop X26 hx (D d10_65) rfl ?_
    exact X26.returnOut hx Bd.returns (D d10_66) hr
  · show Q_rm_hput Z hp en kq aF aO aW aK aB aA aI lo aE aP cK kK kE kP sz en0 en1 en2 en3 po0 po1 po2 po3 h0 n0 _ T26.heap _
    exact ⟨ve0_26, ve1_26, ve2_26, ve3_26, vp0_26, vp1_26, vp2_26, vp3_26, (sz + (1 : Int32)), rfl, N26, KK26, f27, f28, f29, f30, Q26_0, Q26_1, (own_hput HI0 he hpk Q26_2)⟩
theorem d9_0 : decode prog_35_method_7_code 0 = .ok (.aload_n 0, 1) := by decide +kernel
theorem d9_1 : decode prog_35_method_7_code 1 = .ok (.getfield 17, 3) := by decide +kernel
theorem d9_4 : decode prog_35_method_7_code 4 = .ok (.iload_n 1, 1) := by decide +kernel
theorem d9_5 : decode prog_35_method_7_code 5 = .ok (.iaload, 1) := by decide +kernel
theorem d9_6 : decode prog_35_method_7_code 6 = .ok (.istore_n 2, 1) := by decide +kernel
theorem d9_7 : decode prog_35_method_7_code 7 = .ok (.iload_n 2, 1) := by decide +kernel
theorem d9_8 : decode prog_35_method_7_code 8 = .ok (.iconst (-1), 1) := by decide +kernel
theorem d9_9 : decode prog_35_method_7_code 9 = .ok (.if_icmp .ne 4, 3) := by decide +kernel
theorem d9_12 : decode prog_35_method_7_code 12 = .ok (.return_, 1) := by decide +kernel
theorem d9_13 : decode prog_35_method_7_code 13 = .ok (.aload_n 0, 1) := by decide +kernel
theorem d9_14 : decode prog_35_method_7_code 14 = .ok (.dup, 1) := by decide +kernel
theorem d9_15 : decode prog_35_method_7_code 15 = .ok (.getfield 26, 3) := by decide +kernel
theorem d9_18 : decode prog_35_method_7_code 18 = .ok (.iconst 1, 1) := by decide +kernel
theorem d9_19 : decode prog_35_method_7_code 19 = .ok (.isub, 1) := by decide +kernel
theorem d9_20 : decode prog_35_method_7_code 20 = .ok (.putfield 26, 3) := by decide +kernel
theorem d9_23 : decode prog_35_method_7_code 23 = .ok (.aload_n 0, 1) := by decide +kernel
theorem d9_24 : decode prog_35_method_7_code 24 = .ok (.getfield 17, 3) := by decide +kernel
theorem d9_27 : decode prog_35_method_7_code 27 = .ok (.iload_n 1, 1) := by decide +kernel
theorem d9_28 : decode prog_35_method_7_code 28 = .ok (.iconst (-1), 1) := by decide +kernel
theorem d9_29 : decode prog_35_method_7_code 29 = .ok (.iastore, 1) := by decide +kernel
theorem d9_30 : decode prog_35_method_7_code 30 = .ok (.iload_n 2, 1) := by decide +kernel
theorem d9_31 : decode prog_35_method_7_code 31 = .ok (.aload_n 0, 1) := by decide +kernel
theorem d9_32 : decode prog_35_method_7_code 32 = .ok (.getfield 26, 3) := by decide +kernel
theorem d9_35 : decode prog_35_method_7_code 35 = .ok (.if_icmp .ne 4, 3) := by decide +kernel
theorem d9_38 : decode prog_35_method_7_code 38 = .ok (.return_, 1) := by decide +kernel
theorem d9_39 : decode prog_35_method_7_code 39 = .ok (.aload_n 0, 1) := by decide +kernel
theorem d9_40 : decode prog_35_method_7_code 40 = .ok (.getfield 13, 3) := by decide +kernel
theorem d9_43 : decode prog_35_method_7_code 43 = .ok (.aload_n 0, 1) := by decide +kernel
theorem d9_44 : decode prog_35_method_7_code 44 = .ok (.getfield 26, 3) := by decide +kernel
theorem d9_47 : decode prog_35_method_7_code 47 = .ok (.iaload, 1) := by decide +kernel
theorem d9_48 : decode prog_35_method_7_code 48 = .ok (.istore_n 3, 1) := by decide +kernel
theorem d9_49 : decode prog_35_method_7_code 49 = .ok (.aload_n 0, 1) := by decide +kernel
theorem d9_50 : decode prog_35_method_7_code 50 = .ok (.getfield 13, 3) := by decide +kernel
theorem d9_53 : decode prog_35_method_7_code 53 = .ok (.iload_n 2, 1) := by decide +kernel
theorem d9_54 : decode prog_35_method_7_code 54 = .ok (.iload_n 3, 1) := by decide +kernel
theorem d9_55 : decode prog_35_method_7_code 55 = .ok (.iastore, 1) := by decide +kernel
theorem d9_56 : decode prog_35_method_7_code 56 = .ok (.aload_n 0, 1) := by decide +kernel
theorem d9_57 : decode prog_35_method_7_code 57 = .ok (.getfield 17, 3) := by decide +kernel
theorem d9_60 : decode prog_35_method_7_code 60 = .ok (.iload_n 3, 1) := by decide +kernel
theorem d9_61 : decode prog_35_method_7_code 61 = .ok (.iload_n 2, 1) := by decide +kernel
theorem d9_62 : decode prog_35_method_7_code 62 = .ok (.iastore, 1) := by decide +kernel
theorem d9_63 : decode prog_35_method_7_code 63 = .ok (.aload_n 0, 1) := by decide +kernel
theorem d9_64 : decode prog_35_method_7_code 64 = .ok (.aload_n 0, 1) := by decide +kernel
theorem d9_65 : decode prog_35_method_7_code 65 = .ok (.iload_n 2, 1) := by decide +kernel
theorem d9_66 : decode prog_35_method_7_code 66 = .ok (.invokevirtual 49, 3) := by decide +kernel
theorem d9_69 : decode prog_35_method_7_code 69 = .ok (.invokevirtual 53, 3) := by decide +kernel
theorem d9_72 : decode prog_35_method_7_code 72 = .ok (.return_, 1) := by decide +kernel
theorem pd_4 : parseMethodDescriptor "(I)V" = some ⟨[.int], none⟩ := by decide +kernel
theorem ef_rm_hremove (m : MethodId) (x0 : Addr) (x1 : Int32) : entryFrame m #[(.ref x0), (.int x1)] 4 = mkF m 0 #[.val (.ref x0), .val (.int x1), .unset, .unset] [] := by first | (simp [entryFrame, mkF, argsToLocals, Value.category]; done) | rfl
def Q_rm_hremove (Z : State) (hp : Addr) (en : Int32) (kq aF aO aW aK aB aA aI lo aE aP : Addr) (cK kK kE kP : ClassId) (sz en0 en1 en2 en3 po0 po1 po2 po3 : Int32) (h0 : Heap) (n0 : Nat) (v : Option Value) (h : Heap) (L : List Loc) : Prop := ∃ (ve0 : Int32) (ve1 : Int32) (ve2 : Int32) (ve3 : Int32) (vp0 : Int32) (vp1 : Int32) (vp2 : Int32) (vp3 : Int32) (vz_ : Int32), v = none ∧ Fr n0 L ∧ Keep h0 h [hp, aE, aP] ∧ Fld Z h hp "com/example/leasewise/leasewise/IndexedHeap" "order" "Lcom/example/leasewise/leasewise/IndexedHeap$Order;" (.ref lo) ∧ Fld Z h hp "com/example/leasewise/leasewise/IndexedHeap" "entries" "[I" (.ref aE) ∧ Fld Z h hp "com/example/leasewise/leasewise/IndexedHeap" "positions" "[I" (.ref aP) ∧ Fld Z h hp "com/example/leasewise/leasewise/IndexedHeap" "size" "I" (.int vz_) ∧ Arv Z h aE kE .int (4 : Int32) [(.int ve0), (.int ve1), (.int ve2), (.int ve3)] (.int (0 : Int32)) ∧ Arv Z h aP kP .int (4 : Int32) [(.int vp0), (.int vp1), (.int vp2), (.int vp3)] (.int (-1 : Int32)) ∧ (HRem en vz_ ve0 ve1 ve2 ve3 vp0 vp1 vp2 vp3 po0 po1 po2 po3)
set_option maxRecDepth 65536 in
set_option maxHeartbeats 40000000 in
theorem rm_hremove (l : Launch) (Z : State) (a0 : Array Value) (hw : ∀ d ∈ tables_1, d.before a0 Z = true) (ws : List Jvm.Cond) (hp : Addr) (en : Int32) (kq aF aO aW aK aB aA aI lo aE aP : Addr) (cK kK kE kP : ClassId) (sz en0 en1 en2 en3 po0 po1 po2 po3 : Int32) (h0 : Heap) (n0 : Nat) (O0 : Old Z n0 h0) (E_hp : Exa Z h0 hp "com/example/leasewise/leasewise/IndexedHeap") (F_hp_order : Fld Z h0 hp "com/example/leasewise/leasewise/IndexedHeap" "order" "Lcom/example/leasewise/leasewise/IndexedHeap$Order;" (.ref lo)) (F_hp_entries : Fld Z h0 hp "com/example/leasewise/leasewise/IndexedHeap" "entries" "[I" (.ref aE)) (F_hp_positions : Fld Z h0 hp "com/example/leasewise/leasewise/IndexedHeap" "positions" "[I" (.ref aP)) (F_hp_size : Fld Z h0 hp "com/example/leasewise/leasewise/IndexedHeap" "size" "I" (.int sz)) (E_kq : Exa Z h0 kq "com/example/leasewise/leasewise/KilometreQueue") (F_kq_keys : Fld Z h0 kq "com/example/leasewise/leasewise/KilometreQueue" "keys" "[J" (.ref aK)) (MDc : Jvm.LamKit.Made Z "com/example/leasewise/leasewise/KilometreQueue" sgm cK) (V_aE : Arv Z h0 aE kE .int (4 : Int32) [(.int en0), (.int en1), (.int en2), (.int en3)] (.int (0 : Int32))) (V_aP : Arv Z h0 aP kP .int (4 : Int32) [(.int po0), (.int po1), (.int po2), (.int po3)] (.int (-1 : Int32))) (g_hp : n0 ≤ hp) (g_aE : n0 ≤ aE) (g_aP : n0 ≤ aP) (NDp : List.Nodup [kq, aF, aO, aW, aK, aB, aA, aI, hp, lo, aE, aP]) (HI0 : HI sz en0 en1 en2 en3 po0 po1 po2 po3) (he : I4 en) (V_aK : Arp Z h0 aK kK .long (4 : Int32) PJ) (Y_lo : LamO h0 lo cK kq) :
    MetFree l (⟨"com/example/leasewise/leasewise/IndexedHeap", "remove", "(I)V"⟩ : MethodName) (head1 (Jvm.Cond.code (⟨"com/example/leasewise/leasewise/IndexedHeap", "remove", "(I)V"⟩ : MethodName) prog_35_method_7_code 4 none :: ws) ({ frames := 3, cells := 0, slots := 0, locals := 45 } : Room)) (fun a U => a = #[(.ref hp), (.int en)] ∧ Z.WarmedH U.vm ∧ U.heap = h0) (fun _ _ _ _ _ => True) (fun _ U o U' => ∃ v L, o = .returned v ∧ Q_rm_hremove Z hp en kq aF aO aW aK aB aA aI lo aE aP cK kK kE kP sz en0 en1 en2 en3 po0 po1 po2 po3 h0 n0 v U'.heap L ∧ FrameEnd U o U' L ({ frames := 3, cells := 0, slots := 0, locals := 45 } : Room).cells ({ frames := 3, cells := 0, slots := 0, locals := 45 } : Room).slots) := by
  refine MetFree.of_bodySF (plainFor_of_name pn_1) hisR ?_
  intro p e s m args below meth c s₁ Bd hml0 hP hK
  obtain ⟨rfl, hZH, hh⟩ := hP
  have hZ := hZH.wide
  have hx := Bd.exec
  have hby := Bd.bytes
  have D := fun {pc : Nat} {r : Except ClassFile.DecodeError (ClassFile.Instr × Nat)} (q : decode prog_35_method_7_code pc = r) => hb (pc := pc) hby q
  have hml : c.maxLocals = 4 := hml0
  have hown : s.vm.findClass "com/example/leasewise/leasewise/IndexedHeap" = some m.cls := findClass_of_methodNamed Bd.named
  have hnm := (name_of_methodNamed Bd.named Bd.method).1
  have X0 : Stand p l e ({ frames := 3, cells := 0, slots := 0, locals := 45 } : Room) s m #[(.ref hp), (.int en)] below meth c s₁ [] 0 0 := Stand.of_body Bd
  have e0 : s₁.heap = h0 := by rw [← hh, Bd.state]; rfl
  have N0 := Fr.nil n0
  have pre0 : ∀ t, Steps p.tables e below (s₁.setTop (mkF m 0 #[.val (.ref hp), .val (.int en), .unset, .unset] [])) t → Steps p.tables e below (s₁.setTop (entryFrame m #[(.ref hp), (.int en)] 4)) t := fun t k => castTop (ef_rm_hremove m (hp) (en)) k
  have wd := fun {d : Jvm.Cond} (i : Nat) (h : tables_1[i]? = some d) => hw d (List.mem_of_getElem? h)
  obtain ⟨T1, X1, e1, st1⟩ := getF X0 hx hZ hown (host := "") (Or.inl (wd 46 rfl)) Via.refl e0 F_hp_positions (g := (mkF m 1 #[.val (.ref hp), .val (.int en), .unset, .unset] [(.ref hp)])) rfl rfl (D d9_1)
  obtain ⟨cl2, Ar2, q2, S2, Nn2, H2, G2⟩ := id V_aP
  have hin2 : ¬ (en < 0 ∨ cl2.slots.size ≤ (en).toNatClampNeg) := inb_of S2 (own_in4 he)
  obtain ⟨y2, hy2⟩ : ∃ y, y = g4 en po0 po1 po2 po3 := ⟨_, rfl⟩
  have hat2 := own_get4 H2 hin2 he hy2
  have cs3 : Steps p.tables e below (s₁.setTop (mkF m 0 #[.val (.ref hp), .val (.int en), .unset, .unset] [])) (T1.setTop (mkF m 9 #[.val (.ref hp), .val (.int en), .val (.int y2), .unset] [(.int (-1 : Int32)), (.int y2)])) := (by
    refine s_aloadN X0 hx (D d9_0) rfl rfl ?_
    refine st1 _ ?_
    refine s_iloadN X1 hx (D d9_4) rfl ?_
    refine X1.iaload hx (j := en) (v := (.int y2)) (by rw [e1]; exact (Ar2).1) (State.isArrayOf_alike hZ.alike (Ar2).2.1) (Ar2).2.2 hin2 hat2 (g := (mkF m 5 #[.val (.ref hp), .val (.int en), .unset, .unset] [(.int en), (.ref aP)])) rfl rfl (D d9_5) _ ?_
    refine s_istoreN X1 hx (D d9_6) (l' := #[.val (.ref hp), .val (.int en), .val (.int y2), .unset]) rfl ?_
    refine s_iloadN X1 hx (D d9_7) rfl ?_
    refine s_iconst X1 hx (-1 : Int32) (D d9_8) rfl ?_
    exact Steps.refl _)
  by_cases hc4 : y2 = (-1 : Int32)
  · obtain ⟨fs, hr, hrun, hended, hW, hsame⟩ := X1.leave (v := none) (fun _ => rfl)
    refine ⟨_, _, pre0 _ ?_, hrun, hended, _, _, rfl, ?_, ⟨_, rfl⟩, hW, hsame.mono (by decide) (by decide)⟩
    · refine cs3.trans ?_
      refine s_icmpNo X1 hx (D d9_9) (teq hc4).2 ?_
      exact X1.returnOut hx Bd.returns (D d9_12) hr
    · show Q_rm_hremove Z hp en kq aF aO aW aK aB aA aI lo aE aP cK kK kE kP sz en0 en1 en2 en3 po0 po1 po2 po3 h0 n0 _ T1.heap _
      rw [e1]
      exact ⟨en0, en1, en2, en3, po0, po1, po2, po3, sz, rfl, N0, (Keep.refl h0 [hp, aE, aP]), F_hp_order, F_hp_entries, F_hp_positions, F_hp_size, V_aE, V_aP, (own_rn HI0 hy2 hc4)⟩
  · obtain ⟨T5, X5, e5, st5⟩ := getF X1 hx hZ hown (host := "") (Or.inl (wd 86 rfl)) Via.refl e1 F_hp_size (g := (mkF m 15 #[.val (.ref hp), .val (.int en), .val (.int y2), .unset] [(.ref hp), (.ref hp)])) rfl rfl (D d9_15)
    obtain ⟨T6, h6, X6, e6, W6, st6⟩ := putF X5 hx hZ hown (host := "") (Or.inl (wd 86 rfl)) Via.refl e5 F_hp_size E_hp (Or.inl (wd 87 rfl)) (wd 32 rfl) (ty := .int) (by decide) rfl rfl (g := (mkF m 20 #[.val (.ref hp), .val (.int en), .val (.int y2), .unset] [(.int (sz - (1 : Int32))), (.ref hp)])) rfl rfl (D d9_20)
    have Fw6 : Fld Z h6 hp "com/example/leasewise/leasewise/IndexedHeap" "size" "I" (.int (sz - (1 : Int32))) := Fld.same W6 F_hp_size
    have N6 := Fr.snoc X6 N0 g_hp
    have Zn6 : n0 ≤ h6.size := Nat.le_trans (own_oldsz O0) (Keep.of_wr W6).1
    have K6 : Keep h0 h6 [hp, aE, aP] := (Keep.refl h0 [hp, aE, aP]).wr W6 (Or.inl (List.mem_of_getElem? (i := 0) rfl))
    have O6 := O0.wr W6 g_hp
    have f7 := (F_hp_positions.other W6 (Or.inr (slot_ne (Or.inr (wd 47 rfl)) (Or.inl (wd 87 rfl)) (by decide) (t := (.array .int)) (t' := .int) (by decide) (by decide))))
    obtain ⟨T8, X8, e8, st8⟩ := getF X6 hx hZ hown (host := "") (Or.inl (wd 46 rfl)) Via.refl e6 f7 (g := (mkF m 24 #[.val (.ref hp), .val (.int en), .val (.int y2), .unset] [(.ref hp)])) rfl rfl (D d9_24)
    have f10 := (V_aP.other W6 (ne11_8 NDp))
    obtain ⟨cl9, Ar9, q9, S9, Nn9, H9, G9⟩ := id f10
    have hin9 : ¬ (en < 0 ∨ cl9.slots.size ≤ (en).toNatClampNeg) := inb_of S9 (own_in4 he)
    obtain ⟨T9, h9, X9, e9, W9, st9⟩ := stI X8 hx hZ e8 Ar9 (j := en) hin9 (g := (mkF m 29 #[.val (.ref hp), .val (.int en), .val (.int y2), .unset] [(.int (-1 : Int32)), (.int en), (.ref aP)])) rfl rfl (D d9_29)
    have V9 : Arv Z h9 aP kP .int (4 : Int32) [(.int (s4 en 0 (-1 : Int32) po0)), (.int (s4 en 1 (-1 : Int32) po1)), (.int (s4 en 2 (-1 : Int32) po2)), (.int (s4 en 3 (-1 : Int32) po3))] (.int (-1 : Int32)) := own_set4 (w := (-1 : Int32)) Ar9 q9 S9 Nn9 H9 G9 rfl W9 he
    have N9 := Fr.snoc X9 N6 g_aP
    have Zn9 : n0 ≤ h9.size := Nat.le_trans Zn6 (Keep.of_wr W9).1
    have K9 : Keep h0 h9 [hp, aE, aP] := K6.wr W9 (Or.inl (List.mem_of_getElem? (i := 2) rfl))
    have O9 := O6.wr W9 g_aP
    have f11 := (Fw6.other W9 (Or.inl (ne8_11 NDp)))
    obtain ⟨T12, X12, e12, st12⟩ := getF X9 hx hZ hown (host := "") (Or.inl (wd 86 rfl)) Via.refl e9 f11 (g := (mkF m 32 #[.val (.ref hp), .val (.int en), .val (.int y2), .unset] [(.ref hp), (.int y2)])) rfl rfl (D d9_32)
    have cs13 : Steps p.tables e below (s₁.setTop (mkF m 0 #[.val (.ref hp), .val (.int en), .unset, .unset] [])) (T12.setTop (mkF m 35 #[.val (.ref hp), .val (.int en), .val (.int y2), .unset] [(.int (sz - (1 : Int32))), (.int y2)])) := cs3.trans (by
      refine s_icmpYes X1 hx 13 (D d9_9) (feq hc4).2 (of_decide_eq_true rfl) rfl ?_
      refine s_aloadN X1 hx (D d9_13) rfl rfl ?_
      refine s_dup X1 hx (D d9_14) rfl ?_
      refine st5 _ ?_
      refine s_iconst X5 hx (1 : Int32) (D d9_18) rfl ?_
      refine s_isub X5 hx (D d9_19) rfl ?_
      refine st6 _ ?_
      refine s_aloadN X6 hx (D d9_23) rfl rfl ?_
      refine st8 _ ?_
      refine s_iloadN X8 hx (D d9_27) rfl ?_
      refine s_iconst X8 hx (-1 : Int32) (D d9_28) rfl ?_
      refine st9 _ ?_
      refine s_iloadN X9 hx (D d9_30) rfl ?_
      refine s_aloadN X9 hx (D d9_31) rfl rfl ?_
      refine st12 _ ?_
      exact Steps.refl _)
    by_cases hc14 : y2 = (sz - (1 : Int32))
    · have f15 := ((F_hp_order.other W6 (Or.inr (slot_ne (Or.inr (wd 43 rfl)) (Or.inl (wd 87 rfl)) (by decide) (t := (.object "com/example/leasewise/leasewise/IndexedHeap$Order")) (t' := .int) (by decide) (by decide)))).other W9 (Or.inl (ne8_11 NDp)))
      have f16 := ((F_hp_entries.other W6 (Or.inr (slot_ne (Or.inr (wd 45 rfl)) (Or.inl (wd 87 rfl)) (by decide) (t := (.array .int)) (t' := .int) (by decide) (by decide)))).other W9 (Or.inl (ne8_11 NDp)))
      have f17 := (f7.other W9 (Or.inl (ne8_11 NDp)))
      have f18 := ((V_aE.other W6 (ne10_8 NDp)).other W9 (ne10_11 NDp))
      obtain ⟨fs, hr, hrun, hended, hW, hsame⟩ := X12.leave (v := none) (fun _ => rfl)
      refine ⟨_, _, pre0 _ ?_, hrun, hended, _, _, rfl, ?_, ⟨_, rfl⟩, hW, hsame.mono (by decide) (by decide)⟩
      · refine cs13.trans ?_
        refine s_icmpNo X12 hx (D d9_35) (teq hc14).2 ?_
        exact X12.returnOut hx Bd.returns (D d9_38) hr
      · show Q_rm_hremove Z hp en kq aF aO aW aK aB aA aI lo aE aP cK kK kE kP sz en0 en1 en2 en3 po0 po1 po2 po3 h0 n0 _ T12.heap _
        rw [e12]
        exact ⟨en0, en1, en2, en3, (s4 en 0 (-1 : Int32) po0), (s4 en 1 (-1 : Int32) po1), (s4 en 2 (-1 : Int32) po2), (s4 en 3 (-1 : Int32) po3), (sz - (1 : Int32)), rfl, N9, K9, f15, f16, f17, f11, f18, V9, (own_rl HI0 he hy2 hc4 hc14)⟩
    · have f19 := ((F_hp_entries.other W6 (Or.inr (slot_ne (Or.inr (wd 45 rfl)) (Or.inl (wd 87 rfl)) (by decide) (t := (.array .int)) (t' := .int) (by decide) (by decide)))).other W9 (Or.inl (ne8_11 NDp)))
      obtain ⟨T20, X20, e20, st20⟩ := getF X12 hx hZ hown (host := "") (Or.inl (wd 44 rfl)) Via.refl e12 f19 (g := (mkF m 40 #[.val (.ref hp), .val (.int en), .val (.int y2), .unset] [(.ref hp)])) rfl rfl (D d9_40)
      obtain ⟨T21, X21, e21, st21⟩ := getF X20 hx hZ hown (host := "") (Or.inl (wd 86 rfl)) Via.refl e20 f11 (g := (mkF m 44 #[.val (.ref hp), .val (.int en), .val (.int y2), .unset] [(.ref hp), (.ref aE)])) rfl rfl (D d9_44)
      have f23 := ((V_aE.other W6 (ne10_8 NDp)).other W9 (ne10_11 NDp))
      obtain ⟨cl22, Ar22, q22, S22, Nn22, H22, G22⟩ := id f23
      have hin22 : ¬ ((sz - (1 : Int32)) < 0 ∨ cl22.slots.size ≤ ((sz - (1 : Int32))).toNatClampNeg) := inb_of S22 (own_in4 (own_rs HI0 he hy2 hc4))
      obtain ⟨y22, hy22⟩ : ∃ y, y = g4 (sz - (1 : Int32)) en0 en1 en2 en3 := ⟨_, rfl⟩
      have hat22 := own_get4 H22 hin22 (own_rs HI0 he hy2 hc4) hy22
      obtain ⟨T24, X24, e24, st24⟩ := getF X21 hx hZ hown (host := "") (Or.inl (wd 44 rfl)) Via.refl e21 f19 (g := (mkF m 50 #[.val (.ref hp), .val (.int en), .val (.int y2), .val (.int y22)] [(.ref hp)])) rfl rfl (D d9_50)
      obtain ⟨cl25, Ar25, q25, S25, Nn25, H25, G25⟩ := id f23
      have hin25 : ¬ (y2 < 0 ∨ cl25.slots.size ≤ (y2).toNatClampNeg) := inb_of S25 (own_in4 (own_rr HI0 he hy2 hc4 hc14 hy22).2.1)
      obtain ⟨T25, h25, X25, e25, W25, st25⟩ := stI X24 hx hZ e24 Ar25 (j := y2) hin25 (g := (mkF m 55 #[.val (.ref hp), .val (.int en), .val (.int y2), .val (.int y22)] [(.int y22), (.int y2), (.ref aE)])) rfl rfl (D d9_55)
      have V25 : Arv Z h25 aE kE .int (4 : Int32) [(.int (s4 y2 0 y22 en0)), (.int (s4 y2 1 y22 en1)), (.int (s4 y2 2 y22 en2)), (.int (s4 y2 3 y22 en3))] (.int (0 : Int32)) := own_set4 (w := y22) Ar25 q25 S25 Nn25 H25 G25 rfl W25 (own_rr HI0 he hy2 hc4 hc14 hy22).2.1
      have N25 := Fr.snoc X25 N9 g_aE
      have Zn25 : n0 ≤ h25.size := Nat.le_trans Zn9 (Keep.of_wr W25).1
      have K25 : Keep h0 h25 [hp, aE, aP] := K9.wr W25 (Or.inl (List.mem_of_getElem? (i := 1) rfl))
      have O25 := O9.wr W25 g_aE
      have f26 := ((f7.other W9 (Or.inl (ne8_11 NDp))).other W25 (Or.inl (ne8_10 NDp)))
      obtain ⟨T27, X27, e27, st27⟩ := getF X25 hx hZ hown (host := "") (Or.inl (wd 46 rfl)) Via.refl e25 f26 (g := (mkF m 57 #[.val (.ref hp), .val (.int en), .val (.int y2), .val (.int y22)] [(.ref hp)])) rfl rfl (D d9_57)
      have f29 := (V9.other W25 (ne11_10 NDp))
      obtain ⟨cl28, Ar28, q28, S28, Nn28, H28, G28⟩ := id f29
      have hin28 : ¬ (y22 < 0 ∨ cl28.slots.size ≤ (y22).toNatClampNeg) := inb_of S28 (own_in4 (own_rr HI0 he hy2 hc4 hc14 hy22).2.2.1)
      obtain ⟨T28, h28, X28, e28, W28, st28⟩ := stI X27 hx hZ e27 Ar28 (j := y22) hin28 (g := (mkF m 62 #[.val (.ref hp), .val (.int en), .val (.int y2), .val (.int y22)] [(.int y2), (.int y22), (.ref aP)])) rfl rfl (D d9_62)
      have V28 : Arv Z h28 aP kP .int (4 : Int32) [(.int (s4 y22 0 y2 (s4 en 0 (-1 : Int32) po0))), (.int (s4 y22 1 y2 (s4 en 1 (-1 : Int32) po1))), (.int (s4 y22 2 y2 (s4 en 2 (-1 : Int32) po2))), (.int (s4 y22 3 y2 (s4 en 3 (-1 : Int32) po3)))] (.int (-1 : Int32)) := own_set4 (w := y2) Ar28 q28 S28 Nn28 H28 G28 rfl W28 (own_rr HI0 he hy2 hc4 hc14 hy22).2.2.1
      have N28 := Fr.snoc X28 N25 g_aP
      have Zn28 : n0 ≤ h28.size := Nat.le_trans Zn25 (Keep.of_wr W28).1
      have K28 : Keep h0 h28 [hp, aE, aP] := K25.wr W28 (Or.inl (List.mem_of_getElem? (i := 2) rfl))
      have O28 := O25.wr W28 g_aP
      have f30 := ((((V_aK.other W6 (ne4_8 NDp)).other W9 (ne4_11 NDp)).other W25 (ne4_10 NDp)).other W28 (ne4_11 NDp))
      have f31 := ((((Y_lo.other W6 (ne9_8 NDp)).other W9 (ne9_11 NDp)).other W25 (ne9_10 NDp)).other W28 (ne9_11 NDp))
      have f32 := ((((E_hp.wr W6).wr W9).wr W25).wr W28)
      have f33 := ((((F_hp_order.other W6 (Or.inr (slot_ne (Or.inr (wd 43 rfl)) (Or.inl (wd 87 rfl)) (by decide) (t := (.object "com/example/leasewise/leasewise/IndexedHeap$Order")) (t' := .int) (by decide) (by decide)))).other W9 (Or.inl (ne8_11 NDp))).other W25 (Or.inl (ne8_10 NDp))).other W28 (Or.inl (ne8_11 NDp)))
      have f34 := ((f19.other W25 (Or.inl (ne8_10 NDp))).other W28 (Or.inl (ne8_11 NDp)))
      have f35 := (f26.other W28 (Or.inl (ne8_11 NDp)))
      have f36 := ((f11.other W25 (Or.inl (ne8_10 NDp))).other W28 (Or.inl (ne8_11 NDp)))
      have f37 := ((((E_kq.wr W6).wr W9).wr W25).wr W28)
      have f38 := ((((F_kq_keys.other W6 (Or.inl (ne0_8 NDp))).other W9 (Or.inl (ne0_11 NDp))).other W25 (Or.inl (ne0_10 NDp))).other W28 (Or.inl (ne0_11 NDp)))
      have f39 := (V25.other W28 (ne10_11 NDp))
      obtain ⟨cq40, q40, q40'⟩ := f32.cell
      obtain ⟨_, _, ⟨T40, L40, k40, n40⟩, -, X40, ⟨Lc40, hQ40, l40, y40, z40⟩, st40⟩ := X28.privateBack hx (y := (⟨"com/example/leasewise/leasewise/IndexedHeap", "siftUp", "(I)I"⟩ : MethodName)) hown (mvT hZ (wd 88 rfl)) (mvT hZ (wd 89 rfl)) (own_selpriv (y := (⟨"com/example/leasewise/leasewise/IndexedHeap", "siftUp", "(I)I"⟩ : MethodName)) (mvT hZ (wd 59 rfl)) rfl (Cond.privateMethod_at (mvP hZ (wd 90 rfl) (args := #[]))) (mvT hZ (wd 89 rfl)) (by decide)) (Cond.privateMethod_at (mvP hZ (wd 90 rfl) (args := #[]))) (mvT hZ (wd 91 rfl)) (by decide) (own_backH (W := 1) (rm_up l Z a0 hw [] hp y2 kq aF aO aW aK aB aA aI lo aE aP cK kK kE kP (sz - (1 : Int32)) (s4 y2 0 y22 en0) (s4 y2 1 y22 en1) (s4 y2 2 y22 en2) (s4 y2 3 y22 en3) (s4 y22 0 y2 (s4 en 0 (-1 : Int32) po0)) (s4 y22 1 y2 (s4 en 1 (-1 : Int32) po1)) (s4 y22 2 y2 (s4 en 2 (-1 : Int32) po2)) (s4 y22 3 y2 (s4 en 3 (-1 : Int32) po3)) h28 n0 O28 f32 f33 f34 f35 f36 f37 f38 MDc f39 V28 g_aE g_aP NDp ((own_rr HI0 he hy2 hc4 hc14 hy22).1.1) ((own_rr HI0 he hy2 hc4 hc14 hy22).2.1) ((own_rr HI0 he hy2 hc4 hc14 hy22).2.2.2) f30 f31) hZH (wd 91 rfl) (wd 33 rfl) (by decide) (by decide)) (g := (mkF m 66 #[.val (.ref hp), .val (.int en), .val (.int y2), .val (.int y22)] [(.int y2), (.ref hp), (.ref hp)])) rfl (by rw [hml]; rfl) (Steps.refl _) (a := hp) (by rw [e28]; exact q40) q40' (argsL := [(.int y2)]) (rest := [(.ref hp)]) (lenOf pd_3 rfl) rfl (by show 2 * 0 + _ ≤ _; exact Nat.le_of_eq rfl) (D d9_66) (fun _ _ => ⟨rfl, e28, (by decide : 0 + 0 ≤ _), (by decide : 0 + 0 ≤ _)⟩)
      dsimp only [Pt.U, Pt.locs, Pt.cells, Pt.slots] at X40 l40 y40 z40 st40 hQ40
      subst l40 y40 z40
      obtain ⟨ve0_40, ve1_40, ve2_40, ve3_40, vp0_40, vp1_40, vp2_40, vp3_40, r__40, rfl, N40q, K40, Q40_0, Q40_1, Q40_2, Q40_3⟩ := hQ40
      have O40 := O28.keep K40 (allS g_aE (allS g_aP all0))
      have KK40 : Keep h0 T40.heap [hp, aE, aP] := K28.trans K40 (allS (own_mem 1 rfl) (allS (own_mem 2 rfl) all0))
      have N40 := Fr.app N28 N40q
      have f41 := (f30.keep K40 (nn4 NDp))
      have f42 := (f31.keep K40 (nn6 NDp))
      have f43 := (f32.keep K40)
      have f44 := (f33.keep K40 (nn3 NDp))
      have f45 := (f34.keep K40 (nn3 NDp))
      have f46 := (f35.keep K40 (nn3 NDp))
      have f47 := (f36.keep K40 (nn3 NDp))
      have f48 := (f37.keep K40)
      have f49 := (f38.keep K40 (nn5 NDp))
      obtain ⟨cq50, q50, q50'⟩ := f43.cell
      obtain ⟨_, _, ⟨T50, L50, k50, n50⟩, -, X50, ⟨Lc50, hQ50, l50, y50, z50⟩, st50⟩ := X40.privateBack hx (y := (⟨"com/example/leasewise/leasewise/IndexedHeap", "siftDown", "(I)V"⟩ : MethodName)) hown (mvT hZ (wd 115 rfl)) (mvT hZ (wd 116 rfl)) (own_selpriv (y := (⟨"com/example/leasewise/leasewise/IndexedHeap", "siftDown", "(I)V"⟩ : MethodName)) (mvT hZ (wd 59 rfl)) rfl (Cond.privateMethod_at (mvP hZ (wd 117 rfl) (args := #[]))) (mvT hZ (wd 116 rfl)) (by decide)) (Cond.privateMethod_at (mvP hZ (wd 117 rfl) (args := #[]))) (mvT hZ (wd 118 rfl)) (by decide) (own_backH (W := 0) (rm_down l Z a0 hw [] hp r__40 kq aF aO aW aK aB aA aI lo aE aP cK kK kE kP (sz - (1 : Int32)) ve0_40 ve1_40 ve2_40 ve3_40 vp0_40 vp1_40 vp2_40 vp3_40 T40.heap n0 O40 f43 f44 f45 f46 f47 f48 f49 MDc Q40_0 Q40_1 g_aE g_aP NDp Q40_2.1 (own_dn Q40_3.1 (own_rs HI0 he hy2 hc4) Q40_3.2) f41 f42) hZH (wd 118 rfl) (wd 33 rfl) (by decide) (by decide)) (g := (mkF m 69 #[.val (.ref hp), .val (.int en), .val (.int y2), .val (.int y22)] [(.int r__40), (.ref hp)])) rfl (by rw [hml]; rfl) (Steps.refl _) (a := hp) (by exact q50) q50' (argsL := [(.int r__40)]) (rest := []) (lenOf pd_4 rfl) rfl (by show 2 * 0 + _ ≤ _; exact Nat.le_of_eq rfl) (D d9_69) (fun _ _ => ⟨rfl, rfl, (by decide : 0 + 0 ≤ _), (by decide : 0 + 0 ≤ _)⟩)
      dsimp only [Pt.U, Pt.locs, Pt.cells, Pt.slots] at X50 l50 y50 z50 st50 hQ50
      subst l50 y50 z50
      obtain ⟨ve0_50, ve1_50, ve2_50, ve3_50, vp0_50, vp1_50, vp2_50, vp3_50, rfl, N50q, K50, Q50_0, Q50_1, Q50_2⟩ := hQ50
      have O50 := O40.keep K50 (allS g_aE (allS g_aP all0))
      have KK50 : Keep h0 T50.heap [hp, aE, aP] := KK40.trans K50 (allS (own_mem 1 rfl) (allS (own_mem 2 rfl) all0))
      have N50 := Fr.app N40 N50q
      have f51 := (f44.keep K50 (nn3 NDp))
      have f52 := (f45.keep K50 (nn3 NDp))
      have f53 := (f46.keep K50 (nn3 NDp))
      have f54 := (f47.keep K50 (nn3 NDp))
      obtain ⟨fs, hr, hrun, hended, hW, hsame⟩ := X50.leave (v := none) (fun _ => rfl)
      refine ⟨_, _, pre0 _ ?_, hrun, hended, _, _, rfl, ?_, ⟨_, rfl⟩, hW, hsame.mono (by decide) (by decide)⟩
      · refine cs13.trans ?_
        refine s_icmpYes X12 hx 39 (D d9_35) (feq hc14).2 (of_decide_eq_true rfl) rfl ?_
        refine s_aloadN X12 hx (D d9_39) rfl rfl ?_
        refine st20 _ ?_
        refine s_aloadN X20 hx (D d9_43) rfl rfl ?_
        refine st21 _ ?_
        refine X21.iaload hx (j := (sz - (1 : Int32))) (v := (.int y22)) (by rw [e21]; exact (Ar22).1) (State.isArrayOf_alike hZ.alike (Ar22).2.1) (Ar22).2.2 hin22 hat22 (g := (mkF m 47 #[.val (.ref hp), .val (.int en), .val (.int y2), .unset] [(.int (sz - (1 : Int32))), (.ref aE)])) rfl rfl (D d9_47) _ ?_
        refine s_istoreN X21 hx (D d9_48) (l' := #[.val (.ref hp), .val (.int en), .val (.int y2), .val (.int y22)]) rfl ?_
        refine s_aloadN X21 hx (D d9_49) rfl rfl ?_
        refine st24 _ ?_
        refine s_iloadN X24 hx (D d9_53) rfl ?_
        refine s_iloadN X24 hx (D d9_54) rfl ?_
        refine st25 _ ?_
        refine s_aloadN X25 hx (D d9_56) rfl rfl ?_
        refine st27 _ ?_
        refine s_iloadN X27 hx (D d9_60) rfl ?_
        refine s_iloadN X27 hx (D d9_61) rfl ?_
        refine st28 _ ?_
        refine s_aloadN X28 hx (D d9_63) rfl rfl ?_
        refine s_aloadN X28 hx (D d9_64) rfl rfl ?_
        refine s_iloadN X28 hx (D d9_65) rfl ?_
        refine st40.trans ?_
        refine st50.trans ?_
        exact X50.returnOut hx Bd.returns (D d9_72) hr
      · show Q_rm_hremove Z hp en kq aF aO aW aK aB aA aI lo aE aP cK kK kE kP sz en0 en1 en2 en3 po0 po1 po2 po3 h0 n0 _ T50.heap _
        exact ⟨ve0_50, ve1_50, ve2_50, ve3_50, vp0_50, vp1_50, vp2_50, vp3_50, (sz - (1 : Int32)), rfl, N50, KK50, f51, f52, f53, f54, Q50_0, Q50_1, (own_rt (own_rr HI0 he hy2 hc4 hc14 hy22).1 Q40_2 Q50_2)⟩
theorem own_bk (v : Int64) : 0 ≤ ((v &&& (65535 : Int64)).toInt32).toInt ∧ ((v &&& (65535 : Int64)).toInt32).toInt < 65536 := by
  have e1 := c_maskL v 65535 16 (by decide) (by decide)
  have e2 := c_l2i (v &&& (65535 : Int64))
  have h3 : ((2 ^ 16 : Nat) : Int) = 65536 := by decide
  rw [h3] at e1
  have r := rng32 ((v &&& (65535 : Int64)).toInt32)
  omega
theorem own_bkl {x : Int32} {n : Int} {y : Int32} (h : 0 ≤ x.toInt ∧ x.toInt < n) (hy : y.toInt = n) : ¬ x < 0 ∧ x < y := by
  have e0 : (0 : Int32).toInt = 0 := by decide
  rw [Int32.lt_iff_toInt_lt, Int32.lt_iff_toInt_lt, hy, e0]; omega
theorem own_div64 {x : Int32} {n : Int} (h : 0 ≤ x.toInt ∧ x.toInt < n * 64) : 0 ≤ (x / (64 : Int32)).toInt ∧ (x / (64 : Int32)).toInt < n := by
  have e := (c_idiv x 64 64 (by decide) (by decide)).1 h.1
  rw [e]; omega
theorem own_pi4 {y : Int32} (h : y = -1 ∨ y = 0 ∨ y = 1 ∨ y = 2 ∨ y = 3) (hn : ¬ y = (-1 : Int32)) : ¬ y < 0 ∧ y < 4 := own_in4 (h.resolve_left hn)
def MB (i p m : Int32) : Prop := (i = 1 ∧ p = -1 ∧ m = 1) ∨ (i = 0 ∧ p ≠ -1 ∧ m = 1) ∨ (i = 0 ∧ p = -1 ∧ m = 0)
def KI (n e0 e1 e2 e3 p0 p1 p2 p3 i0 i1 i2 i3 m0 m1 m2 m3 : Int32) : Prop := HI n e0 e1 e2 e3 p0 p1 p2 p3 ∧ MB i0 p0 m0 ∧ MB i1 p1 m1 ∧ MB i2 p2 m2 ∧ MB i3 p3 m3
theorem own_mb_iff {i p q m : Int32} (h : MB i p m) (e : q = -1 ↔ p = -1) : MB i q m := by
  rcases h with ⟨a, b, d⟩ | ⟨a, b, d⟩ | ⟨a, b, d⟩
  · exact Or.inl ⟨a, e.mpr b, d⟩
  · exact Or.inr (Or.inl ⟨a, fun z => b (e.mp z), d⟩)
  · exact Or.inr (Or.inr ⟨a, e.mpr b, d⟩)
theorem own_mb_1 {i p m : Int32} (h : MB i p m) (hi : ¬ i = 0) : p = -1 ∧ m = 1 := by
  rcases h with ⟨a, b, d⟩ | ⟨a, b, d⟩ | ⟨a, b, d⟩
  · exact ⟨b, d⟩
  · exact absurd a hi
  · exact absurd a hi
theorem own_mb_2 {i p m : Int32} (h : MB i p m) (hi : i = 0) (hp : ¬ p = -1) : m = 1 := by
  rcases h with ⟨a, b, d⟩ | ⟨a, b, d⟩ | ⟨a, b, d⟩
  · exact absurd b hp
  · exact d
  · exact absurd b hp
theorem own_mb_3 {i p m : Int32} (h : MB i p m) (hi : i = 0) (hp : p = -1) : m = 0 := by
  rcases h with ⟨a, b, d⟩ | ⟨a, b, d⟩ | ⟨a, b, d⟩
  · rw [hi] at a; exact absurd a (by decide)
  · exact absurd hp b
  · exact d
theorem own_mb_z {i p m : Int32} (h : MB i p m) (hm : m = 0) : i = 0 ∧ p = -1 := by
  rcases h with ⟨a, b, d⟩ | ⟨a, b, d⟩ | ⟨a, b, d⟩
  · rw [hm] at d; exact absurd d (by decide)
  · rw [hm] at d; exact absurd d (by decide)
  · exact ⟨a, b⟩
theorem own_mb_u {en k i p m : Int32} (hM : MB i p m) (hi : en = k → ¬ i = 0) : MB (s4 en k 0 i) p (s4 en k 0 m) := by
  unfold s4
  by_cases u : en = k
  · rw [if_pos u, if_pos u]; exact Or.inr (Or.inr ⟨rfl, (own_mb_1 hM (hi u)).1, rfl⟩)
  · rw [if_neg u, if_neg u]; exact hM
theorem own_mb_h {en k i p q m : Int32} (hM : MB i p m) (hi : en = k → i = 0) (e : q = -1 ↔ (en = k ∨ p = -1)) : MB i q (s4 en k 0 m) := by
  unfold s4
  by_cases u : en = k
  · rw [if_pos u]; exact Or.inr (Or.inr ⟨hi u, e.mpr (Or.inl u), rfl⟩)
  · rw [if_neg u]; exact own_mb_iff hM ⟨fun z => (e.mp z).resolve_left u, fun z => e.mpr (Or.inr z)⟩
theorem own_mb_l {en k i p m : Int32} (hM : MB i p (s4 en k 0 m)) : MB (s4 en k 1 i) p (s4 en k 1 m) := by
  unfold s4 at hM ⊢
  by_cases u : en = k
  · rw [if_pos u] at hM; rw [if_pos u, if_pos u]; exact Or.inl ⟨rfl, (own_mb_z hM rfl).2, rfl⟩
  · rw [if_neg u] at hM; rw [if_neg u, if_neg u]; exact hM
theorem own_mb_p {en k i p q m : Int32} (hM : MB i p (s4 en k 0 m)) (e : q = -1 ↔ (¬ en = k ∧ p = -1)) : MB i q (s4 en k 1 m) := by
  unfold s4 at hM ⊢
  by_cases u : en = k
  · rw [if_pos u] at hM; rw [if_pos u]; exact Or.inr (Or.inl ⟨(own_mb_z hM rfl).1, fun z => (e.mp z).1 u, rfl⟩)
  · rw [if_neg u] at hM; rw [if_neg u]; exact own_mb_iff hM ⟨fun z => (e.mp z).2, fun z => e.mpr ⟨u, z⟩⟩
theorem own_ku {en y n e0 e1 e2 e3 p0 p1 p2 p3 i0 i1 i2 i3 m0 m1 m2 m3 : Int32} (h : KI n e0 e1 e2 e3 p0 p1 p2 p3 i0 i1 i2 i3 m0 m1 m2 m3) (hy : y = g4 en i0 i1 i2 i3) (hi : ¬ y = 0) : KI n e0 e1 e2 e3 p0 p1 p2 p3 (s4 en 0 0 i0) (s4 en 1 0 i1) (s4 en 2 0 i2) (s4 en 3 0 i3) (s4 en 0 0 m0) (s4 en 1 0 m1) (s4 en 2 0 m2) (s4 en 3 0 m3) := by
  rw [hy] at hi
  exact ⟨h.1, own_mb_u h.2.1 (fun u => by rw [u, own_g0] at hi; exact hi), own_mb_u h.2.2.1 (fun u => by rw [u, own_g1] at hi; exact hi), own_mb_u h.2.2.2.1 (fun u => by rw [u, own_g2] at hi; exact hi), own_mb_u h.2.2.2.2 (fun u => by rw [u, own_g3] at hi; exact hi)⟩
theorem own_kh {en y n e0 e1 e2 e3 p0 p1 p2 p3 i0 i1 i2 i3 m0 m1 m2 m3 n' f0 f1 f2 f3 q0 q1 q2 q3 : Int32} (h : KI n e0 e1 e2 e3 p0 p1 p2 p3 i0 i1 i2 i3 m0 m1 m2 m3) (hy : y = g4 en i0 i1 i2 i3) (hi : y = 0) (g : HRem en n' f0 f1 f2 f3 q0 q1 q2 q3 p0 p1 p2 p3) : KI n' f0 f1 f2 f3 q0 q1 q2 q3 i0 i1 i2 i3 (s4 en 0 0 m0) (s4 en 1 0 m1) (s4 en 2 0 m2) (s4 en 3 0 m3) := by
  rw [hy] at hi
  exact ⟨g.1, own_mb_h h.2.1 (fun u => by rw [u, own_g0] at hi; exact hi) g.2.1, own_mb_h h.2.2.1 (fun u => by rw [u, own_g1] at hi; exact hi) g.2.2.1, own_mb_h h.2.2.2.1 (fun u => by rw [u, own_g2] at hi; exact hi) g.2.2.2.1, own_mb_h h.2.2.2.2 (fun u => by rw [u, own_g3] at hi; exact hi) g.2.2.2.2⟩
theorem own_kz {en n e0 e1 e2 e3 p0 p1 p2 p3 i0 i1 i2 i3 m0 m1 m2 m3 : Int32} (h : KI n e0 e1 e2 e3 p0 p1 p2 p3 i0 i1 i2 i3 (s4 en 0 0 m0) (s4 en 1 0 m1) (s4 en 2 0 m2) (s4 en 3 0 m3)) (he : I4 en) : g4 en p0 p1 p2 p3 = -1 := by
  rcases he with rfl | rfl | rfl | rfl
  · rw [own_g0]; exact (own_mb_z h.2.1 (if_pos rfl)).2
  · rw [own_g1]; exact (own_mb_z h.2.2.1 (if_pos rfl)).2
  · rw [own_g2]; exact (own_mb_z h.2.2.2.1 (if_pos rfl)).2
  · rw [own_g3]; exact (own_mb_z h.2.2.2.2 (if_pos rfl)).2
theorem own_kl {en n e0 e1 e2 e3 p0 p1 p2 p3 i0 i1 i2 i3 m0 m1 m2 m3 : Int32} (h : KI n e0 e1 e2 e3 p0 p1 p2 p3 i0 i1 i2 i3 (s4 en 0 0 m0) (s4 en 1 0 m1) (s4 en 2 0 m2) (s4 en 3 0 m3)) : KI n e0 e1 e2 e3 p0 p1 p2 p3 (s4 en 0 1 i0) (s4 en 1 1 i1) (s4 en 2 1 i2) (s4 en 3 1 i3) (s4 en 0 1 m0) (s4 en 1 1 m1) (s4 en 2 1 m2) (s4 en 3 1 m3) := ⟨h.1, own_mb_l h.2.1, own_mb_l h.2.2.1, own_mb_l h.2.2.2.1, own_mb_l h.2.2.2.2⟩
theorem own_kp {en n e0 e1 e2 e3 p0 p1 p2 p3 i0 i1 i2 i3 m0 m1 m2 m3 n' f0 f1 f2 f3 q0 q1 q2 q3 : Int32} (h : KI n e0 e1 e2 e3 p0 p1 p2 p3 i0 i1 i2 i3 (s4 en 0 0 m0) (s4 en 1 0 m1) (s4 en 2 0 m2) (s4 en 3 0 m3)) (g : HPut en n' f0 f1 f2 f3 q0 q1 q2 q3 p0 p1 p2 p3) : KI n' f0 f1 f2 f3 q0 q1 q2 q3 i0 i1 i2 i3 (s4 en 0 1 m0) (s4 en 1 1 m1) (s4 en 2 1 m2) (s4 en 3 1 m3) := ⟨g.1, own_mb_p h.2.1 g.2.1, own_mb_p h.2.2.1 g.2.2.1, own_mb_p h.2.2.2.1 g.2.2.2.1, own_mb_p h.2.2.2.2 g.2.2.2.2⟩
theorem own_mbg {en y n e0 e1 e2 e3 p0 p1 p2 p3 i0 i1 i2 i3 m0 m1 m2 m3 : Int32} (h : KI n e0 e1 e2 e3 p0 p1 p2 p3 i0 i1 i2 i3 m0 m1 m2 m3) (he : I4 en) (hy : y = g4 en i0 i1 i2 i3) : MB y (g4 en p0 p1 p2 p3) (g4 en m0 m1 m2 m3) := by
  subst hy
  rcases he with rfl | rfl | rfl | rfl
  · rw [own_g0, own_g0, own_g0]; exact h.2.1
  · rw [own_g1, own_g1, own_g1]; exact h.2.2.1
  · rw [own_g2, own_g2, own_g2]; exact h.2.2.2.1
  · rw [own_g3, own_g3, own_g3]; exact h.2.2.2.2
theorem own_ml0 {w n e0 e1 e2 e3 p0 p1 p2 p3 i0 i1 i2 i3 m0 m1 m2 m3 : Int32} (h : KI n e0 e1 e2 e3 p0 p1 p2 p3 i0 i1 i2 i3 (s4 0 0 w m0) (s4 0 1 w m1) (s4 0 2 w m2) (s4 0 3 w m3)) : KI n e0 e1 e2 e3 p0 p1 p2 p3 i0 i1 i2 i3 w m1 m2 m3 := h
theorem own_ml1 {w n e0 e1 e2 e3 p0 p1 p2 p3 i0 i1 i2 i3 m0 m1 m2 m3 : Int32} (h : KI n e0 e1 e2 e3 p0 p1 p2 p3 i0 i1 i2 i3 (s4 1 0 w m0) (s4 1 1 w m1) (s4 1 2 w m2) (s4 1 3 w m3)) : KI n e0 e1 e2 e3 p0 p1 p2 p3 i0 i1 i2 i3 m0 w m2 m3 := h
theorem own_ml2 {w n e0 e1 e2 e3 p0 p1 p2 p3 i0 i1 i2 i3 m0 m1 m2 m3 : Int32} (h : KI n e0 e1 e2 e3 p0 p1 p2 p3 i0 i1 i2 i3 (s4 2 0 w m0) (s4 2 1 w m1) (s4 2 2 w m2) (s4 2 3 w m3)) : KI n e0 e1 e2 e3 p0 p1 p2 p3 i0 i1 i2 i3 m0 m1 w m3 := h
theorem d14_0 : decode prog_39_method_13_code 0 = .ok (.aload_n 0, 1) := by decide +kernel
theorem d14_1 : decode prog_39_method_13_code 1 = .ok (.getfield 23, 3) := by decide +kernel
theorem d14_4 : decode prog_39_method_13_code 4 = .ok (.iload_n 1, 1) := by decide +kernel
theorem d14_5 : decode prog_39_method_13_code 5 = .ok (.laload, 1) := by decide +kernel
theorem d14_6 : decode prog_39_method_13_code 6 = .ok (.ldc2_w 117, 3) := by decide +kernel
theorem d14_9 : decode prog_39_method_13_code 9 = .ok (.land, 1) := by decide +kernel
theorem d14_10 : decode prog_39_method_13_code 10 = .ok (.l2i, 1) := by decide +kernel
theorem d14_11 : decode prog_39_method_13_code 11 = .ok (.istore_n 2, 1) := by decide +kernel
theorem d14_12 : decode prog_39_method_13_code 12 = .ok (.aload_n 0, 1) := by decide +kernel
theorem d14_13 : decode prog_39_method_13_code 13 = .ok (.getfield 10, 3) := by decide +kernel
theorem d14_16 : decode prog_39_method_13_code 16 = .ok (.iload_n 2, 1) := by decide +kernel
theorem d14_17 : decode prog_39_method_13_code 17 = .ok (.iaload, 1) := by decide +kernel
theorem d14_18 : decode prog_39_method_13_code 18 = .ok (.istore_n 3, 1) := by decide +kernel
theorem d14_19 : decode prog_39_method_13_code 19 = .ok (.aload_n 0, 1) := by decide +kernel
theorem d14_20 : decode prog_39_method_13_code 20 = .ok (.getfield 26, 3) := by decide +kernel
theorem d14_23 : decode prog_39_method_13_code 23 = .ok (.iload_n 1, 1) := by decide +kernel
theorem d14_24 : decode prog_39_method_13_code 24 = .ok (.iconst (-1), 1) := by decide +kernel
theorem d14_25 : decode prog_39_method_13_code 25 = .ok (.iastore, 1) := by decide +kernel
theorem d14_26 : decode prog_39_method_13_code 26 = .ok (.aload_n 0, 1) := by decide +kernel
theorem d14_27 : decode prog_39_method_13_code 27 = .ok (.getfield 29, 3) := by decide +kernel
theorem d14_30 : decode prog_39_method_13_code 30 = .ok (.iload_n 1, 1) := by decide +kernel
theorem d14_31 : decode prog_39_method_13_code 31 = .ok (.iload_n 3, 1) := by decide +kernel
theorem d14_32 : decode prog_39_method_13_code 32 = .ok (.iastore, 1) := by decide +kernel
theorem d14_33 : decode prog_39_method_13_code 33 = .ok (.iload_n 3, 1) := by decide +kernel
theorem d14_34 : decode prog_39_method_13_code 34 = .ok (.iconst (-1), 1) := by decide +kernel
theorem d14_35 : decode prog_39_method_13_code 35 = .ok (.if_icmp .eq 13, 3) := by decide +kernel
theorem d14_38 : decode prog_39_method_13_code 38 = .ok (.aload_n 0, 1) := by decide +kernel
theorem d14_39 : decode prog_39_method_13_code 39 = .ok (.getfield 26, 3) := by decide +kernel
theorem d14_42 : decode prog_39_method_13_code 42 = .ok (.iload_n 3, 1) := by decide +kernel
theorem d14_43 : decode prog_39_method_13_code 43 = .ok (.iload_n 1, 1) := by decide +kernel
theorem d14_44 : decode prog_39_method_13_code 44 = .ok (.iastore, 1) := by decide +kernel
theorem d14_45 : decode prog_39_method_13_code 45 = .ok (.goto 45, 3) := by decide +kernel
theorem d14_48 : decode prog_39_method_13_code 48 = .ok (.aload_n 0, 1) := by decide +kernel
theorem d14_49 : decode prog_39_method_13_code 49 = .ok (.getfield 16, 3) := by decide +kernel
theorem d14_52 : decode prog_39_method_13_code 52 = .ok (.iload_n 2, 1) := by decide +kernel
theorem d14_53 : decode prog_39_method_13_code 53 = .ok (.bipush 64, 2) := by decide +kernel
theorem d14_55 : decode prog_39_method_13_code 55 = .ok (.idiv, 1) := by decide +kernel
theorem d14_56 : decode prog_39_method_13_code 56 = .ok (.dup2, 1) := by decide +kernel
theorem d14_57 : decode prog_39_method_13_code 57 = .ok (.laload, 1) := by decide +kernel
theorem d14_58 : decode prog_39_method_13_code 58 = .ok (.lconst 1, 1) := by decide +kernel
theorem d14_59 : decode prog_39_method_13_code 59 = .ok (.iload_n 2, 1) := by decide +kernel
theorem d14_60 : decode prog_39_method_13_code 60 = .ok (.bipush 64, 2) := by decide +kernel
theorem d14_62 : decode prog_39_method_13_code 62 = .ok (.irem, 1) := by decide +kernel
theorem d14_63 : decode prog_39_method_13_code 63 = .ok (.lshl, 1) := by decide +kernel
theorem d14_64 : decode prog_39_method_13_code 64 = .ok (.lor, 1) := by decide +kernel
theorem d14_65 : decode prog_39_method_13_code 65 = .ok (.lastore, 1) := by decide +kernel
theorem d14_66 : decode prog_39_method_13_code 66 = .ok (.aload_n 0, 1) := by decide +kernel
theorem d14_67 : decode prog_39_method_13_code 67 = .ok (.getfield 20, 3) := by decide +kernel
theorem d14_70 : decode prog_39_method_13_code 70 = .ok (.iload_n 2, 1) := by decide +kernel
theorem d14_71 : decode prog_39_method_13_code 71 = .ok (.bipush 64, 2) := by decide +kernel
theorem d14_73 : decode prog_39_method_13_code 73 = .ok (.idiv, 1) := by decide +kernel
theorem d14_74 : decode prog_39_method_13_code 74 = .ok (.bipush 64, 2) := by decide +kernel
theorem d14_76 : decode prog_39_method_13_code 76 = .ok (.idiv, 1) := by decide +kernel
theorem d14_77 : decode prog_39_method_13_code 77 = .ok (.dup2, 1) := by decide +kernel
theorem d14_78 : decode prog_39_method_13_code 78 = .ok (.laload, 1) := by decide +kernel
theorem d14_79 : decode prog_39_method_13_code 79 = .ok (.lconst 1, 1) := by decide +kernel
theorem d14_80 : decode prog_39_method_13_code 80 = .ok (.iload_n 2, 1) := by decide +kernel
theorem d14_81 : decode prog_39_method_13_code 81 = .ok (.bipush 64, 2) := by decide +kernel
theorem d14_83 : decode prog_39_method_13_code 83 = .ok (.idiv, 1) := by decide +kernel
theorem d14_84 : decode prog_39_method_13_code 84 = .ok (.bipush 64, 2) := by decide +kernel
theorem d14_86 : decode prog_39_method_13_code 86 = .ok (.irem, 1) := by decide +kernel
theorem d14_87 : decode prog_39_method_13_code 87 = .ok (.lshl, 1) := by decide +kernel
theorem d14_88 : decode prog_39_method_13_code 88 = .ok (.lor, 1) := by decide +kernel
theorem d14_89 : decode prog_39_method_13_code 89 = .ok (.lastore, 1) := by decide +kernel
theorem d14_90 : decode prog_39_method_13_code 90 = .ok (.aload_n 0, 1) := by decide +kernel
theorem d14_91 : decode prog_39_method_13_code 91 = .ok (.getfield 10, 3) := by decide +kernel
theorem d14_94 : decode prog_39_method_13_code 94 = .ok (.iload_n 2, 1) := by decide +kernel
theorem d14_95 : decode prog_39_method_13_code 95 = .ok (.iload_n 1, 1) := by decide +kernel
theorem d14_96 : decode prog_39_method_13_code 96 = .ok (.iastore, 1) := by decide +kernel
theorem d14_97 : decode prog_39_method_13_code 97 = .ok (.aload_n 0, 1) := by decide +kernel
theorem d14_98 : decode prog_39_method_13_code 98 = .ok (.getfield 32, 3) := by decide +kernel
theorem d14_101 : decode prog_39_method_13_code 101 = .ok (.iload_n 1, 1) := by decide +kernel
theorem d14_102 : decode prog_39_method_13_code 102 = .ok (.iconst 1, 1) := by decide +kernel
theorem d14_103 : decode prog_39_method_13_code 103 = .ok (.bastore, 1) := by decide +kernel
theorem d14_104 : decode prog_39_method_13_code 104 = .ok (.aload_n 0, 1) := by decide +kernel
theorem d14_105 : decode prog_39_method_13_code 105 = .ok (.dup, 1) := by decide +kernel
theorem d14_106 : decode prog_39_method_13_code 106 = .ok (.getfield 54, 3) := by decide +kernel
theorem d14_109 : decode prog_39_method_13_code 109 = .ok (.iconst 1, 1) := by decide +kernel
theorem d14_110 : decode prog_39_method_13_code 110 = .ok (.iadd, 1) := by decide +kernel
theorem d14_111 : decode prog_39_method_13_code 111 = .ok (.putfield 54, 3) := by decide +kernel
theorem d14_114 : decode prog_39_method_13_code 114 = .ok (.return_, 1) := by decide +kernel
theorem ne0_5 {kq aF aO aW aK aB aA aI hp lo aE aP : Addr} (h : List.Nodup [kq, aF, aO, aW, aK, aB, aA, aI, hp, lo, aE, aP]) : kq ≠ aB := own_nd h 0 5 rfl rfl (by decide)
theorem ne6_5 {kq aF aO aW aK aB aA aI hp lo aE aP : Addr} (h : List.Nodup [kq, aF, aO, aW, aK, aB, aA, aI, hp, lo, aE, aP]) : aA ≠ aB := own_nd h 6 5 rfl rfl (by decide)
theorem ne0_6 {kq aF aO aW aK aB aA aI hp lo aE aP : Addr} (h : List.Nodup [kq, aF, aO, aW, aK, aB, aA, aI, hp, lo, aE, aP]) : kq ≠ aA := own_nd h 0 6 rfl rfl (by decide)
theorem ne2_5 {kq aF aO aW aK aB aA aI hp lo aE aP : Addr} (h : List.Nodup [kq, aF, aO, aW, aK, aB, aA, aI, hp, lo, aE, aP]) : aO ≠ aB := own_nd h 2 5 rfl rfl (by decide)
theorem ne2_6 {kq aF aO aW aK aB aA aI hp lo aE aP : Addr} (h : List.Nodup [kq, aF, aO, aW, aK, aB, aA, aI, hp, lo, aE, aP]) : aO ≠ aA := own_nd h 2 6 rfl rfl (by decide)
theorem ne0_2 {kq aF aO aW aK aB aA aI hp lo aE aP : Addr} (h : List.Nodup [kq, aF, aO, aW, aK, aB, aA, aI, hp, lo, aE, aP]) : kq ≠ aO := own_nd h 0 2 rfl rfl (by decide)
theorem ne3_5 {kq aF aO aW aK aB aA aI hp lo aE aP : Addr} (h : List.Nodup [kq, aF, aO, aW, aK, aB, aA, aI, hp, lo, aE, aP]) : aW ≠ aB := own_nd h 3 5 rfl rfl (by decide)
theorem ne3_6 {kq aF aO aW aK aB aA aI hp lo aE aP : Addr} (h : List.Nodup [kq, aF, aO, aW, aK, aB, aA, aI, hp, lo, aE, aP]) : aW ≠ aA := own_nd h 3 6 rfl rfl (by decide)
theorem ne3_2 {kq aF aO aW aK aB aA aI hp lo aE aP : Addr} (h : List.Nodup [kq, aF, aO, aW, aK, aB, aA, aI, hp, lo, aE, aP]) : aW ≠ aO := own_nd h 3 2 rfl rfl (by decide)
theorem ne0_3 {kq aF aO aW aK aB aA aI hp lo aE aP : Addr} (h : List.Nodup [kq, aF, aO, aW, aK, aB, aA, aI, hp, lo, aE, aP]) : kq ≠ aW := own_nd h 0 3 rfl rfl (by decide)
theorem ne7_5 {kq aF aO aW aK aB aA aI hp lo aE aP : Addr} (h : List.Nodup [kq, aF, aO, aW, aK, aB, aA, aI, hp, lo, aE, aP]) : aI ≠ aB := own_nd h 7 5 rfl rfl (by decide)
theorem ne7_6 {kq aF aO aW aK aB aA aI hp lo aE aP : Addr} (h : List.Nodup [kq, aF, aO, aW, aK, aB, aA, aI, hp, lo, aE, aP]) : aI ≠ aA := own_nd h 7 6 rfl rfl (by decide)
theorem ne7_2 {kq aF aO aW aK aB aA aI hp lo aE aP : Addr} (h : List.Nodup [kq, aF, aO, aW, aK, aB, aA, aI, hp, lo, aE, aP]) : aI ≠ aO := own_nd h 7 2 rfl rfl (by decide)
theorem ne7_3 {kq aF aO aW aK aB aA aI hp lo aE aP : Addr} (h : List.Nodup [kq, aF, aO, aW, aK, aB, aA, aI, hp, lo, aE, aP]) : aI ≠ aW := own_nd h 7 3 rfl rfl (by decide)
theorem ne4_5 {kq aF aO aW aK aB aA aI hp lo aE aP : Addr} (h : List.Nodup [kq, aF, aO, aW, aK, aB, aA, aI, hp, lo, aE, aP]) : aK ≠ aB := own_nd h 4 5 rfl rfl (by decide)
theorem ne4_6 {kq aF aO aW aK aB aA aI hp lo aE aP : Addr} (h : List.Nodup [kq, aF, aO, aW, aK, aB, aA, aI, hp, lo, aE, aP]) : aK ≠ aA := own_nd h 4 6 rfl rfl (by decide)
theorem ne4_2 {kq aF aO aW aK aB aA aI hp lo aE aP : Addr} (h : List.Nodup [kq, aF, aO, aW, aK, aB, aA, aI, hp, lo, aE, aP]) : aK ≠ aO := own_nd h 4 2 rfl rfl (by decide)
theorem ne4_3 {kq aF aO aW aK aB aA aI hp lo aE aP : Addr} (h : List.Nodup [kq, aF, aO, aW, aK, aB, aA, aI, hp, lo, aE, aP]) : aK ≠ aW := own_nd h 4 3 rfl rfl (by decide)
theorem ne5_6 {kq aF aO aW aK aB aA aI hp lo aE aP : Addr} (h : List.Nodup [kq, aF, aO, aW, aK, aB, aA, aI, hp, lo, aE, aP]) : aB ≠ aA := own_nd h 5 6 rfl rfl (by decide)
theorem ne5_2 {kq aF aO aW aK aB aA aI hp lo aE aP : Addr} (h : List.Nodup [kq, aF, aO, aW, aK, aB, aA, aI, hp, lo, aE, aP]) : aB ≠ aO := own_nd h 5 2 rfl rfl (by decide)
theorem ne5_3 {kq aF aO aW aK aB aA aI hp lo aE aP : Addr} (h : List.Nodup [kq, aF, aO, aW, aK, aB, aA, aI, hp, lo, aE, aP]) : aB ≠ aW := own_nd h 5 3 rfl rfl (by decide)
theorem ne6_2 {kq aF aO aW aK aB aA aI hp lo aE aP : Addr} (h : List.Nodup [kq, aF, aO, aW, aK, aB, aA, aI, hp, lo, aE, aP]) : aA ≠ aO := own_nd h 6 2 rfl rfl (by decide)
theorem ne6_3 {kq aF aO aW aK aB aA aI hp lo aE aP : Addr} (h : List.Nodup [kq, aF, aO, aW, aK, aB, aA, aI, hp, lo, aE, aP]) : aA ≠ aW := own_nd h 6 3 rfl rfl (by decide)
theorem ne1_5 {kq aF aO aW aK aB aA aI hp lo aE aP : Addr} (h : List.Nodup [kq, aF, aO, aW, aK, aB, aA, aI, hp, lo, aE, aP]) : aF ≠ aB := own_nd h 1 5 rfl rfl (by decide)
theorem ne1_6 {kq aF aO aW aK aB aA aI hp lo aE aP : Addr} (h : List.Nodup [kq, aF, aO, aW, aK, aB, aA, aI, hp, lo, aE, aP]) : aF ≠ aA := own_nd h 1 6 rfl rfl (by decide)
theorem ne1_2 {kq aF aO aW aK aB aA aI hp lo aE aP : Addr} (h : List.Nodup [kq, aF, aO, aW, aK, aB, aA, aI, hp, lo, aE, aP]) : aF ≠ aO := own_nd h 1 2 rfl rfl (by decide)
theorem ne1_3 {kq aF aO aW aK aB aA aI hp lo aE aP : Addr} (h : List.Nodup [kq, aF, aO, aW, aK, aB, aA, aI, hp, lo, aE, aP]) : aF ≠ aW := own_nd h 1 3 rfl rfl (by decide)
theorem ne2_3 {kq aF aO aW aK aB aA aI hp lo aE aP : Addr} (h : List.Nodup [kq, aF, aO, aW, aK, aB, aA, aI, hp, lo, aE, aP]) : aO ≠ aW := own_nd h 2 3 rfl rfl (by decide)
theorem ne0_1 {kq aF aO aW aK aB aA aI hp lo aE aP : Addr} (h : List.Nodup [kq, aF, aO, aW, aK, aB, aA, aI, hp, lo, aE, aP]) : kq ≠ aF := own_nd h 0 1 rfl rfl (by decide)
theorem ne7_1 {kq aF aO aW aK aB aA aI hp lo aE aP : Addr} (h : List.Nodup [kq, aF, aO, aW, aK, aB, aA, aI, hp, lo, aE, aP]) : aI ≠ aF := own_nd h 7 1 rfl rfl (by decide)
theorem ne0_7 {kq aF aO aW aK aB aA aI hp lo aE aP : Addr} (h : List.Nodup [kq, aF, aO, aW, aK, aB, aA, aI, hp, lo, aE, aP]) : kq ≠ aI := own_nd h 0 7 rfl rfl (by decide)
theorem ne5_1 {kq aF aO aW aK aB aA aI hp lo aE aP : Addr} (h : List.Nodup [kq, aF, aO, aW, aK, aB, aA, aI, hp, lo, aE, aP]) : aB ≠ aF := own_nd h 5 1 rfl rfl (by decide)
theorem ne5_7 {kq aF aO aW aK aB aA aI hp lo aE aP : Addr} (h : List.Nodup [kq, aF, aO, aW, aK, aB, aA, aI, hp, lo, aE, aP]) : aB ≠ aI := own_nd h 5 7 rfl rfl (by decide)
theorem ne5_0 {kq aF aO aW aK aB aA aI hp lo aE aP : Addr} (h : List.Nodup [kq, aF, aO, aW, aK, aB, aA, aI, hp, lo, aE, aP]) : aB ≠ kq := own_nd h 5 0 rfl rfl (by decide)
theorem ne6_1 {kq aF aO aW aK aB aA aI hp lo aE aP : Addr} (h : List.Nodup [kq, aF, aO, aW, aK, aB, aA, aI, hp, lo, aE, aP]) : aA ≠ aF := own_nd h 6 1 rfl rfl (by decide)
theorem ne6_7 {kq aF aO aW aK aB aA aI hp lo aE aP : Addr} (h : List.Nodup [kq, aF, aO, aW, aK, aB, aA, aI, hp, lo, aE, aP]) : aA ≠ aI := own_nd h 6 7 rfl rfl (by decide)
theorem ne6_0 {kq aF aO aW aK aB aA aI hp lo aE aP : Addr} (h : List.Nodup [kq, aF, aO, aW, aK, aB, aA, aI, hp, lo, aE, aP]) : aA ≠ kq := own_nd h 6 0 rfl rfl (by decide)
theorem ne7_0 {kq aF aO aW aK aB aA aI hp lo aE aP : Addr} (h : List.Nodup [kq, aF, aO, aW, aK, aB, aA, aI, hp, lo, aE, aP]) : aI ≠ kq := own_nd h 7 0 rfl rfl (by decide)
theorem ne1_7 {kq aF aO aW aK aB aA aI hp lo aE aP : Addr} (h : List.Nodup [kq, aF, aO, aW, aK, aB, aA, aI, hp, lo, aE, aP]) : aF ≠ aI := own_nd h 1 7 rfl rfl (by decide)
theorem ne1_0 {kq aF aO aW aK aB aA aI hp lo aE aP : Addr} (h : List.Nodup [kq, aF, aO, aW, aK, aB, aA, aI, hp, lo, aE, aP]) : aF ≠ kq := own_nd h 1 0 rfl rfl (by decide)
theorem ne2_1 {kq aF aO aW aK aB aA aI hp lo aE aP : Addr} (h : List.Nodup [kq, aF, aO, aW, aK, aB, aA, aI, hp, lo, aE, aP]) : aO ≠ aF := own_nd h 2 1 rfl rfl (by decide)
theorem ne2_7 {kq aF aO aW aK aB aA aI hp lo aE aP : Addr} (h : List.Nodup [kq, aF, aO, aW, aK, aB, aA, aI, hp, lo, aE, aP]) : aO ≠ aI := own_nd h 2 7 rfl rfl (by decide)
theorem ne2_0 {kq aF aO aW aK aB aA aI hp lo aE aP : Addr} (h : List.Nodup [kq, aF, aO, aW, aK, aB, aA, aI, hp, lo, aE, aP]) : aO ≠ kq := own_nd h 2 0 rfl rfl (by decide)
theorem ne3_1 {kq aF aO aW aK aB aA aI hp lo aE aP : Addr} (h : List.Nodup [kq, aF, aO, aW, aK, aB, aA, aI, hp, lo, aE, aP]) : aW ≠ aF := own_nd h 3 1 rfl rfl (by decide)
theorem ne3_7 {kq aF aO aW aK aB aA aI hp lo aE aP : Addr} (h : List.Nodup [kq, aF, aO, aW, aK, aB, aA, aI, hp, lo, aE, aP]) : aW ≠ aI := own_nd h 3 7 rfl rfl (by decide)
theorem ne3_0 {kq aF aO aW aK aB aA aI hp lo aE aP : Addr} (h : List.Nodup [kq, aF, aO, aW, aK, aB, aA, aI, hp, lo, aE, aP]) : aW ≠ kq := own_nd h 3 0 rfl rfl (by decide)
theorem ef_rm_klink (m : MethodId) (x0 : Addr) (x1 : Int32) : entryFrame m #[(.ref x0), (.int x1)] 4 = mkF m 0 #[.val (.ref x0), .val (.int x1), .unset, .unset] [] := by first | (simp [entryFrame, mkF, argsToLocals, Value.category]; done) | rfl
def Q_rm_klink (Z : State) (kq : Addr) (en : Int32) (aF aO aW aK aB aA aI hp lo aE aP : Addr) (kK kB kA kI kF kO kW : ClassId) (bk ib0 ib1 ib2 ib3 : Int32) (h0 : Heap) (n0 : Nat) (v : Option Value) (h : Heap) (L : List Loc) : Prop := ∃ (vb_ : Int32), v = none ∧ Fr n0 L ∧ Keep h0 h [kq, aB, aA, aI, aF, aO, aW] ∧ Fld Z h kq "com/example/leasewise/leasewise/KilometreQueue" "keys" "[J" (.ref aK) ∧ Fld Z h kq "com/example/leasewise/leasewise/KilometreQueue" "before" "[I" (.ref aB) ∧ Fld Z h kq "com/example/leasewise/leasewise/KilometreQueue" "after" "[I" (.ref aA) ∧ Fld Z h kq "com/example/leasewise/leasewise/KilometreQueue" "inBucket" "[Z" (.ref aI) ∧ Fld Z h kq "com/example/leasewise/leasewise/KilometreQueue" "firsts" "[I" (.ref aF) ∧ Fld Z h kq "com/example/leasewise/leasewise/KilometreQueue" "occupied" "[J" (.ref aO) ∧ Fld Z h kq "com/example/leasewise/leasewise/KilometreQueue" "occupiedWords" "[J" (.ref aW) ∧ Fld Z h kq "com/example/leasewise/leasewise/KilometreQueue" "further" "Lcom/example/leasewise/leasewise/IndexedHeap;" (.ref hp) ∧ Fld Z h kq "com/example/leasewise/leasewise/KilometreQueue" "bucketed" "I" (.int vb_) ∧ Fld Z h kq "com/example/leasewise/leasewise/KilometreQueue" "floor" "J" (.long (0 : Int64)) ∧ Arp Z h aB kB .int (4 : Int32) PI ∧ Arp Z h aA kA .int (4 : Int32) PI ∧ Arv Z h aI kI .boolean (4 : Int32) [(.int (s4 en 0 (1 : Int32) ib0)), (.int (s4 en 1 (1 : Int32) ib1)), (.int (s4 en 2 (1 : Int32) ib2)), (.int (s4 en 3 (1 : Int32) ib3))] (.int (0 : Int32)) ∧ Arp Z h aF kF .int (65536 : Int32) PI ∧ Arp Z h aO kO .long (1024 : Int32) PJ ∧ Arp Z h aW kW .long (16 : Int32) PJ
set_option maxRecDepth 65536 in
set_option maxHeartbeats 40000000 in
theorem rm_klink (l : Launch) (Z : State) (a0 : Array Value) (hw : ∀ d ∈ tables_1, d.before a0 Z = true) (ws : List Jvm.Cond) (kq : Addr) (en : Int32) (aF aO aW aK aB aA aI hp lo aE aP : Addr) (kK kB kA kI kF kO kW : ClassId) (bk ib0 ib1 ib2 ib3 : Int32) (h0 : Heap) (n0 : Nat) (O0 : Old Z n0 h0) (E_kq : Exa Z h0 kq "com/example/leasewise/leasewise/KilometreQueue") (F_kq_keys : Fld Z h0 kq "com/example/leasewise/leasewise/KilometreQueue" "keys" "[J" (.ref aK)) (F_kq_before : Fld Z h0 kq "com/example/leasewise/leasewise/KilometreQueue" "before" "[I" (.ref aB)) (F_kq_after : Fld Z h0 kq "com/example/leasewise/leasewise/KilometreQueue" "after" "[I" (.ref aA)) (F_kq_inBucket : Fld Z h0 kq "com/example/leasewise/leasewise/KilometreQueue" "inBucket" "[Z" (.ref aI)) (F_kq_firsts : Fld Z h0 kq "com/example/leasewise/leasewise/KilometreQueue" "firsts" "[I" (.ref aF)) (F_kq_occupied : Fld Z h0 kq "com/example/leasewise/leasewise/KilometreQueue" "occupied" "[J" (.ref aO)) (F_kq_occupiedWords : Fld Z h0 kq "com/example/leasewise/leasewise/KilometreQueue" "occupiedWords" "[J" (.ref aW)) (F_kq_further : Fld Z h0 kq "com/example/leasewise/leasewise/KilometreQueue" "further" "Lcom/example/leasewise/leasewise/IndexedHeap;" (.ref hp)) (F_kq_bucketed : Fld Z h0 kq "com/example/leasewise/leasewise/KilometreQueue" "bucketed" "I" (.int bk)) (F_kq_floor : Fld Z h0 kq "com/example/leasewise/leasewise/KilometreQueue" "floor" "J" (.long (0 : Int64))) (V_aI : Arv Z h0 aI kI .boolean (4 : Int32) [(.int ib0), (.int ib1), (.int ib2), (.int ib3)] (.int (0 : Int32))) (NDp : List.Nodup [kq, aF, aO, aW, aK, aB, aA, aI, hp, lo, aE, aP]) (he : I4 en) (g_kq : n0 ≤ kq) (g_aB : n0 ≤ aB) (g_aA : n0 ≤ aA) (g_aI : n0 ≤ aI) (g_aF : n0 ≤ aF) (g_aO : n0 ≤ aO) (g_aW : n0 ≤ aW) (V_aK : Arp Z h0 aK kK .long (4 : Int32) PJ) (V_aB : Arp Z h0 aB kB .int (4 : Int32) PI) (V_aA : Arp Z h0 aA kA .int (4 : Int32) PI) (V_aF : Arp Z h0 aF kF .int (65536 : Int32) PI) (V_aO : Arp Z h0 aO kO .long (1024 : Int32) PJ) (V_aW : Arp Z h0 aW kW .long (16 : Int32) PJ) :
    MetFree l (⟨"com/example/leasewise/leasewise/KilometreQueue", "link", "(I)V"⟩ : MethodName) (head1 (Jvm.Cond.code (⟨"com/example/leasewise/leasewise/KilometreQueue", "link", "(I)V"⟩ : MethodName) prog_39_method_13_code 4 none :: ws) ({ frames := 0, cells := 0, slots := 0, locals := 0 } : Room)) (fun a U => a = #[(.ref kq), (.int en)] ∧ Z.WarmedH U.vm ∧ U.heap = h0) (fun _ _ _ _ _ => True) (fun _ U o U' => ∃ v L, o = .returned v ∧ Q_rm_klink Z kq en aF aO aW aK aB aA aI hp lo aE aP kK kB kA kI kF kO kW bk ib0 ib1 ib2 ib3 h0 n0 v U'.heap L ∧ FrameEnd U o U' L ({ frames := 0, cells := 0, slots := 0, locals := 0 } : Room).cells ({ frames := 0, cells := 0, slots := 0, locals := 0 } : Room).slots) := by
  refine MetFree.of_bodySF (plainFor_of_name pn_2) hisR ?_
  intro p e s m args below meth c s₁ Bd hml0 hP hK
  obtain ⟨rfl, hZH, hh⟩ := hP
  have hZ := hZH.wide
  have hx := Bd.exec
  have hby := Bd.bytes
  have D := fun {pc : Nat} {r : Except ClassFile.DecodeError (ClassFile.Instr × Nat)} (q : decode prog_39_method_13_code pc = r) => hb (pc := pc) hby q
  have hml : c.maxLocals = 4 := hml0
  have hown : s.vm.findClass "com/example/leasewise/leasewise/KilometreQueue" = some m.cls := findClass_of_methodNamed Bd.named
  have hnm := (name_of_methodNamed Bd.named Bd.method).1
  have X0 : Stand p l e ({ frames := 0, cells := 0, slots := 0, locals := 0 } : Room) s m #[(.ref kq), (.int en)] below meth c s₁ [] 0 0 := Stand.of_body Bd
  have e0 : s₁.heap = h0 := by rw [← hh, Bd.state]; rfl
  have N0 := Fr.nil n0
  have pre0 : ∀ t, Steps p.tables e below (s₁.setTop (mkF m 0 #[.val (.ref kq), .val (.int en), .unset, .unset] [])) t → Steps p.tables e below (s₁.setTop (entryFrame m #[(.ref kq), (.int en)] 4)) t := fun t k => castTop (ef_rm_klink m (kq) (en)) k
  have wd := fun {d : Jvm.Cond} (i : Nat) (h : tables_1[i]? = some d) => hw d (List.mem_of_getElem? h)
  obtain ⟨T1, X1, e1, st1⟩ := getF X0 hx hZ hown (host := "") (Or.inl (wd 18 rfl)) Via.refl e0 F_kq_keys (g := (mkF m 1 #[.val (.ref kq), .val (.int en), .unset, .unset] [(.ref kq)])) rfl rfl (D d14_1)
  obtain ⟨cl2, Ar2, q2, S2, Nn2, H2, -⟩ := id V_aK
  have hin2 : ¬ (en < 0 ∨ cl2.slots.size ≤ (en).toNatClampNeg) := inb_of S2 (own_in4 he)
  obtain ⟨_, hat2, v2, rfl⟩ := Arp.get H2 hin2
  have C2 : Elt h0 aK (en).toNatClampNeg (.long v2) := ⟨cl2, Ar2.1, hat2⟩
  obtain ⟨T3, X3, e3, st3⟩ := getF X1 hx hZ hown (host := "") (Or.inl (wd 11 rfl)) Via.refl e1 F_kq_firsts (g := (mkF m 13 #[.val (.ref kq), .val (.int en), .val (.int ((v2 &&& (65535 : Int64)).toInt32)), .unset] [(.ref kq)])) rfl rfl (D d14_13)
  obtain ⟨cl4, Ar4, q4, S4, Nn4, H4, -⟩ := id V_aF
  have hin4 : ¬ (((v2 &&& (65535 : Int64)).toInt32) < 0 ∨ cl4.slots.size ≤ (((v2 &&& (65535 : Int64)).toInt32)).toNatClampNeg) := inb_of S4 (own_bkl (own_bk v2) (by decide))
  obtain ⟨_, hat4, v4, rfl, pi4⟩ := Arp.get H4 hin4
  have C4 : Elt h0 aF (((v2 &&& (65535 : Int64)).toInt32)).toNatClampNeg (.int v4) := ⟨cl4, Ar4.1, hat4⟩
  obtain ⟨T5, X5, e5, st5⟩ := getF X3 hx hZ hown (host := "") (Or.inl (wd 20 rfl)) Via.refl e3 F_kq_before (g := (mkF m 20 #[.val (.ref kq), .val (.int en), .val (.int ((v2 &&& (65535 : Int64)).toInt32)), .val (.int v4)] [(.ref kq)])) rfl rfl (D d14_20)
  obtain ⟨cl6, Ar6, q6, S6, Nn6, H6, G6⟩ := id V_aB
  have hin6 : ¬ (en < 0 ∨ cl6.slots.size ≤ (en).toNatClampNeg) := inb_of S6 (own_in4 he)
  obtain ⟨T6, h6, X6, e6, W6, st6⟩ := stI X5 hx hZ e5 Ar6 (j := en) hin6 (g := (mkF m 25 #[.val (.ref kq), .val (.int en), .val (.int ((v2 &&& (65535 : Int64)).toInt32)), .val (.int v4)] [(.int (-1 : Int32)), (.int en), (.ref aB)])) rfl rfl (D d14_25)
  have V6 : Arp Z h6 aB kB .int (4 : Int32) PI := Arp.set Ar6 q6 S6 Nn6 H6 (own_PI (by decide)) W6
  have N6 := Fr.snoc X6 N0 g_aB
  have Zn6 : n0 ≤ h6.size := Nat.le_trans (own_oldsz O0) (Keep.of_wr W6).1
  have K6 : Keep h0 h6 [kq, aB, aA, aI, aF, aO, aW] := (Keep.refl h0 [kq, aB, aA, aI, aF, aO, aW]).wr W6 (Or.inl (List.mem_of_getElem? (i := 1) rfl))
  have O6 := O0.wr W6 g_aB
  have f7 := (F_kq_after.other W6 (Or.inl (ne0_5 NDp)))
  obtain ⟨T8, X8, e8, st8⟩ := getF X6 hx hZ hown (host := "") (Or.inl (wd 22 rfl)) Via.refl e6 f7 (g := (mkF m 27 #[.val (.ref kq), .val (.int en), .val (.int ((v2 &&& (65535 : Int64)).toInt32)), .val (.int v4)] [(.ref kq)])) rfl rfl (D d14_27)
  have f10 := (V_aA.other W6 (ne6_5 NDp))
  obtain ⟨cl9, Ar9, q9, S9, Nn9, H9, G9⟩ := id f10
  have hin9 : ¬ (en < 0 ∨ cl9.slots.size ≤ (en).toNatClampNeg) := inb_of S9 (own_in4 he)
  obtain ⟨T9, h9, X9, e9, W9, st9⟩ := stI X8 hx hZ e8 Ar9 (j := en) hin9 (g := (mkF m 32 #[.val (.ref kq), .val (.int en), .val (.int ((v2 &&& (65535 : Int64)).toInt32)), .val (.int v4)] [(.int v4), (.int en), (.ref aA)])) rfl rfl (D d14_32)
  have V9 : Arp Z h9 aA kA .int (4 : Int32) PI := Arp.set Ar9 q9 S9 Nn9 H9 (own_PI pi4) W9
  have N9 := Fr.snoc X9 N6 g_aA
  have Zn9 : n0 ≤ h9.size := Nat.le_trans Zn6 (Keep.of_wr W9).1
  have K9 : Keep h0 h9 [kq, aB, aA, aI, aF, aO, aW] := K6.wr W9 (Or.inl (List.mem_of_getElem? (i := 2) rfl))
  have O9 := O6.wr W9 g_aA
  have cs12 : Steps p.tables e below (s₁.setTop (mkF m 0 #[.val (.ref kq), .val (.int en), .unset, .unset] [])) (T9.setTop (mkF m 35 #[.val (.ref kq), .val (.int en), .val (.int ((v2 &&& (65535 : Int64)).toInt32)), .val (.int v4)] [(.int (-1 : Int32)), (.int v4)])) := (by
    refine s_aloadN X0 hx (D d14_0) rfl rfl ?_
    refine st1 _ ?_
    refine s_iloadN X1 hx (D d14_4) rfl ?_
    refine X1.laload hx (j := en) (v := (.long v2)) (by rw [e1]; exact (Ar2).1) (State.isArrayOf_alike hZ.alike (Ar2).2.1) (Ar2).2.2 hin2 hat2 (g := (mkF m 5 #[.val (.ref kq), .val (.int en), .unset, .unset] [(.int en), (.ref aK)])) rfl rfl (D d14_5) _ ?_
    refine X1.ldc2Long hx hown (mvT hZ (wd 107 rfl)) (g := (mkF m 6 #[.val (.ref kq), .val (.int en), .unset, .unset] [(.long v2)])) rfl (D d14_6) _ ?_
    refine s_land X1 hx (D d14_9) rfl ?_
    refine s_l2i X1 hx (D d14_10) rfl ?_
    refine s_istoreN X1 hx (D d14_11) (l' := #[.val (.ref kq), .val (.int en), .val (.int ((v2 &&& (65535 : Int64)).toInt32)), .unset]) rfl ?_
    refine s_aloadN X1 hx (D d14_12) rfl rfl ?_
    refine st3 _ ?_
    refine s_iloadN X3 hx (D d14_16) rfl ?_
    refine X3.iaload hx (j := ((v2 &&& (65535 : Int64)).toInt32)) (v := (.int v4)) (by rw [e3]; exact (Ar4).1) (State.isArrayOf_alike hZ.alike (Ar4).2.1) (Ar4).2.2 hin4 hat4 (g := (mkF m 17 #[.val (.ref kq), .val (.int en), .val (.int ((v2 &&& (65535 : Int64)).toInt32)), .unset] [(.int ((v2 &&& (65535 : Int64)).toInt32)), (.ref aF)])) rfl rfl (D d14_17) _ ?_
    refine s_istoreN X3 hx (D d14_18) (l' := #[.val (.ref kq), .val (.int en), .val (.int ((v2 &&& (65535 : Int64)).toInt32)), .val (.int v4)]) rfl ?_
    refine s_aloadN X3 hx (D d14_19) rfl rfl ?_
    refine st5 _ ?_
    refine s_iloadN X5 hx (D d14_23) rfl ?_
    refine s_iconst X5 hx (-1 : Int32) (D d14_24) rfl ?_
    refine st6 _ ?_
    refine s_aloadN X6 hx (D d14_26) rfl rfl ?_
    refine st8 _ ?_
    refine s_iloadN X8 hx (D d14_30) rfl ?_
    refine s_iloadN X8 hx (D d14_31) rfl ?_
    refine st9 _ ?_
    refine s_iloadN X9 hx (D d14_33) rfl ?_
    refine s_iconst X9 hx (-1 : Int32) (D d14_34) rfl ?_
    exact Steps.refl _)
  have jn11 : ∃ (T : State) (L : List Loc) (h : Heap), Stand p l e ({ frames := 0, cells := 0, slots := 0, locals := 0 } : Room) s m #[(.ref kq), (.int en)] below meth c T L 0 0 ∧ T.heap = h ∧ Fr n0 L ∧ Keep h0 h [kq, aB, aA, aI, aF, aO, aW] ∧ Old Z n0 h ∧ Exa Z h kq "com/example/leasewise/leasewise/KilometreQueue" ∧ Fld Z h kq "com/example/leasewise/leasewise/KilometreQueue" "keys" "[J" (.ref aK) ∧ Fld Z h kq "com/example/leasewise/leasewise/KilometreQueue" "before" "[I" (.ref aB) ∧ Fld Z h kq "com/example/leasewise/leasewise/KilometreQueue" "after" "[I" (.ref aA) ∧ Fld Z h kq "com/example/leasewise/leasewise/KilometreQueue" "inBucket" "[Z" (.ref aI) ∧ Fld Z h kq "com/example/leasewise/leasewise/KilometreQueue" "firsts" "[I" (.ref aF) ∧ Fld Z h kq "com/example/leasewise/leasewise/KilometreQueue" "occupied" "[J" (.ref aO) ∧ Fld Z h kq "com/example/leasewise/leasewise/KilometreQueue" "occupiedWords" "[J" (.ref aW) ∧ Fld Z h kq "com/example/leasewise/leasewise/KilometreQueue" "further" "Lcom/example/leasewise/leasewise/IndexedHeap;" (.ref hp) ∧ Fld Z h kq "com/example/leasewise/leasewise/KilometreQueue" "bucketed" "I" (.int bk) ∧ Fld Z h kq "com/example/leasewise/leasewise/KilometreQueue" "floor" "J" (.long (0 : Int64)) ∧ Arv Z h aI kI .boolean (4 : Int32) [(.int ib0), (.int ib1), (.int ib2), (.int ib3)] (.int (0 : Int32)) ∧ Arp Z h aK kK .long (4 : Int32) PJ ∧ Arp Z h aB kB .int (4 : Int32) PI ∧ Arp Z h aA kA .int (4 : Int32) PI ∧ Arp Z h aF kF .int (65536 : Int32) PI ∧ Arp Z h aO kO .long (1024 : Int32) PJ ∧ Arp Z h aW kW .long (16 : Int32) PJ ∧ Steps p.tables e below (s₁.setTop (mkF m 0 #[.val (.ref kq), .val (.int en), .unset, .unset] [])) (T.setTop (mkF m 90 #[.val (.ref kq), .val (.int en), .val (.int ((v2 &&& (65535 : Int64)).toInt32)), .val (.int v4)] [])) := by
    by_cases hc13 : v4 = (-1 : Int32)
    · have f14 := ((F_kq_occupied.other W6 (Or.inl (ne0_5 NDp))).other W9 (Or.inl (ne0_6 NDp)))
      obtain ⟨T15, X15, e15, st15⟩ := getF X9 hx hZ hown (host := "") (Or.inl (wd 14 rfl)) Via.refl e9 f14 (g := (mkF m 49 #[.val (.ref kq), .val (.int en), .val (.int ((v2 &&& (65535 : Int64)).toInt32)), .val (.int v4)] [(.ref kq)])) rfl rfl (D d14_49)
      have f17 := ((V_aO.other W6 (ne2_5 NDp)).other W9 (ne2_6 NDp))
      obtain ⟨cl16, Ar16, q16, S16, Nn16, H16, -⟩ := id f17
      have hin16 : ¬ ((((v2 &&& (65535 : Int64)).toInt32) / (64 : Int32)) < 0 ∨ cl16.slots.size ≤ ((((v2 &&& (65535 : Int64)).toInt32) / (64 : Int32))).toNatClampNeg) := inb_of S16 (own_bkl (own_div64 (n := 1024) (own_bk v2)) (by decide))
      obtain ⟨_, hat16, v16, rfl⟩ := Arp.get H16 hin16
      have C16 : Elt h9 aO ((((v2 &&& (65535 : Int64)).toInt32) / (64 : Int32))).toNatClampNeg (.long v16) := ⟨cl16, Ar16.1, hat16⟩
      obtain ⟨cl18, Ar18, q18, S18, Nn18, H18, G18⟩ := id f17
      have hin18 : ¬ ((((v2 &&& (65535 : Int64)).toInt32) / (64 : Int32)) < 0 ∨ cl18.slots.size ≤ ((((v2 &&& (65535 : Int64)).toInt32) / (64 : Int32))).toNatClampNeg) := inb_of S18 (own_bkl (own_div64 (n := 1024) (own_bk v2)) (by decide))
      obtain ⟨T18, h18, X18, e18, W18, st18⟩ := stJ X15 hx hZ e15 Ar18 (j := (((v2 &&& (65535 : Int64)).toInt32) / (64 : Int32))) hin18 (g := (mkF m 65 #[.val (.ref kq), .val (.int en), .val (.int ((v2 &&& (65535 : Int64)).toInt32)), .val (.int v4)] [(.long (v16 ||| ((1 : Int64) <<< ((((v2 &&& (65535 : Int64)).toInt32) % (64 : Int32)) &&& 0x3f).toInt64))), (.int (((v2 &&& (65535 : Int64)).toInt32) / (64 : Int32))), (.ref aO)])) rfl rfl (D d14_65)
      have V18 : Arp Z h18 aO kO .long (1024 : Int32) PJ := Arp.set Ar18 q18 S18 Nn18 H18 (own_PJ _) W18
      have N18 := Fr.snoc X18 N9 g_aO
      have Zn18 : n0 ≤ h18.size := Nat.le_trans Zn9 (Keep.of_wr W18).1
      have K18 : Keep h0 h18 [kq, aB, aA, aI, aF, aO, aW] := K9.wr W18 (Or.inl (List.mem_of_getElem? (i := 5) rfl))
      have O18 := O9.wr W18 g_aO
      have f19 := (((F_kq_occupiedWords.other W6 (Or.inl (ne0_5 NDp))).other W9 (Or.inl (ne0_6 NDp))).other W18 (Or.inl (ne0_2 NDp)))
      obtain ⟨T20, X20, e20, st20⟩ := getF X18 hx hZ hown (host := "") (Or.inl (wd 16 rfl)) Via.refl e18 f19 (g := (mkF m 67 #[.val (.ref kq), .val (.int en), .val (.int ((v2 &&& (65535 : Int64)).toInt32)), .val (.int v4)] [(.ref kq)])) rfl rfl (D d14_67)
      have f22 := (((V_aW.other W6 (ne3_5 NDp)).other W9 (ne3_6 NDp)).other W18 (ne3_2 NDp))
      obtain ⟨cl21, Ar21, q21, S21, Nn21, H21, -⟩ := id f22
      have hin21 : ¬ (((((v2 &&& (65535 : Int64)).toInt32) / (64 : Int32)) / (64 : Int32)) < 0 ∨ cl21.slots.size ≤ (((((v2 &&& (65535 : Int64)).toInt32) / (64 : Int32)) / (64 : Int32))).toNatClampNeg) := inb_of S21 (own_bkl (own_div64 (n := 16) (own_div64 (n := 1024) (own_bk v2))) (by decide))
      obtain ⟨_, hat21, v21, rfl⟩ := Arp.get H21 hin21
      have C21 : Elt h18 aW (((((v2 &&& (65535 : Int64)).toInt32) / (64 : Int32)) / (64 : Int32))).toNatClampNeg (.long v21) := ⟨cl21, Ar21.1, hat21⟩
      obtain ⟨cl23, Ar23, q23, S23, Nn23, H23, G23⟩ := id f22
      have hin23 : ¬ (((((v2 &&& (65535 : Int64)).toInt32) / (64 : Int32)) / (64 : Int32)) < 0 ∨ cl23.slots.size ≤ (((((v2 &&& (65535 : Int64)).toInt32) / (64 : Int32)) / (64 : Int32))).toNatClampNeg) := inb_of S23 (own_bkl (own_div64 (n := 16) (own_div64 (n := 1024) (own_bk v2))) (by decide))
      obtain ⟨T23, h23, X23, e23, W23, st23⟩ := stJ X20 hx hZ e20 Ar23 (j := ((((v2 &&& (65535 : Int64)).toInt32) / (64 : Int32)) / (64 : Int32))) hin23 (g := (mkF m 89 #[.val (.ref kq), .val (.int en), .val (.int ((v2 &&& (65535 : Int64)).toInt32)), .val (.int v4)] [(.long (v21 ||| ((1 : Int64) <<< (((((v2 &&& (65535 : Int64)).toInt32) / (64 : Int32)) % (64 : Int32)) &&& 0x3f).toInt64))), (.int ((((v2 &&& (65535 : Int64)).toInt32) / (64 : Int32)) / (64 : Int32))), (.ref aW)])) rfl rfl (D d14_89)
      have V23 : Arp Z h23 aW kW .long (16 : Int32) PJ := Arp.set Ar23 q23 S23 Nn23 H23 (own_PJ _) W23
      have N23 := Fr.snoc X23 N18 g_aW
      have Zn23 : n0 ≤ h23.size := Nat.le_trans Zn18 (Keep.of_wr W23).1
      have K23 : Keep h0 h23 [kq, aB, aA, aI, aF, aO, aW] := K18.wr W23 (Or.inl (List.mem_of_getElem? (i := 6) rfl))
      have O23 := O18.wr W23 g_aW
      have cs24 : Steps p.tables e below (s₁.setTop (mkF m 0 #[.val (.ref kq), .val (.int en), .unset, .unset] [])) (T23.setTop (mkF m 90 #[.val (.ref kq), .val (.int en), .val (.int ((v2 &&& (65535 : Int64)).toInt32)), .val (.int v4)] [])) := cs12.trans (by
        refine s_icmpYes X9 hx 48 (D d14_35) (teq hc13).1 (of_decide_eq_true rfl) rfl ?_
        refine s_aloadN X9 hx (D d14_48) rfl rfl ?_
        refine st15 _ ?_
        refine s_iloadN X15 hx (D d14_52) rfl ?_
        refine s_bipush X15 hx (64 : Int32) (D d14_53) rfl ?_
        refine s_idiv X15 hx (D d14_55) (by decide) rfl ?_
        refine s_dup2 X15 hx (D d14_56) rfl rfl ?_
        refine X15.laload hx (j := (((v2 &&& (65535 : Int64)).toInt32) / (64 : Int32))) (v := (.long v16)) (by rw [e15]; exact (Ar16).1) (State.isArrayOf_alike hZ.alike (Ar16).2.1) (Ar16).2.2 hin16 hat16 (g := (mkF m 57 #[.val (.ref kq), .val (.int en), .val (.int ((v2 &&& (65535 : Int64)).toInt32)), .val (.int v4)] [(.int (((v2 &&& (65535 : Int64)).toInt32) / (64 : Int32))), (.ref aO), (.int (((v2 &&& (65535 : Int64)).toInt32) / (64 : Int32))), (.ref aO)])) rfl rfl (D d14_57) _ ?_
        refine s_lconst X15 hx (1 : Int64) (D d14_58) rfl ?_
        refine s_iloadN X15 hx (D d14_59) rfl ?_
        refine s_bipush X15 hx (64 : Int32) (D d14_60) rfl ?_
        refine s_irem X15 hx (D d14_62) (by decide) rfl ?_
        refine s_lshl X15 hx (D d14_63) rfl ?_
        refine s_lor X15 hx (D d14_64) rfl ?_
        refine st18 _ ?_
        refine s_aloadN X18 hx (D d14_66) rfl rfl ?_
        refine st20 _ ?_
        refine s_iloadN X20 hx (D d14_70) rfl ?_
        refine s_bipush X20 hx (64 : Int32) (D d14_71) rfl ?_
        refine s_idiv X20 hx (D d14_73) (by decide) rfl ?_
        refine s_bipush X20 hx (64 : Int32) (D d14_74) rfl ?_
        refine s_idiv X20 hx (D d14_76) (by decide) rfl ?_
        refine s_dup2 X20 hx (D d14_77) rfl rfl ?_
        refine X20.laload hx (j := ((((v2 &&& (65535 : Int64)).toInt32) / (64 : Int32)) / (64 : Int32))) (v := (.long v21)) (by rw [e20]; exact (Ar21).1) (State.isArrayOf_alike hZ.alike (Ar21).2.1) (Ar21).2.2 hin21 hat21 (g := (mkF m 78 #[.val (.ref kq), .val (.int en), .val (.int ((v2 &&& (65535 : Int64)).toInt32)), .val (.int v4)] [(.int ((((v2 &&& (65535 : Int64)).toInt32) / (64 : Int32)) / (64 : Int32))), (.ref aW), (.int ((((v2 &&& (65535 : Int64)).toInt32) / (64 : Int32)) / (64 : Int32))), (.ref aW)])) rfl rfl (D d14_78) _ ?_
        refine s_lconst X20 hx (1 : Int64) (D d14_79) rfl ?_
        refine s_iloadN X20 hx (D d14_80) rfl ?_
        refine s_bipush X20 hx (64 : Int32) (D d14_81) rfl ?_
        refine s_idiv X20 hx (D d14_83) (by decide) rfl ?_
        refine s_bipush X20 hx (64 : Int32) (D d14_84) rfl ?_
        refine s_irem X20 hx (D d14_86) (by decide) rfl ?_
        refine s_lshl X20 hx (D d14_87) rfl ?_
        refine s_lor X20 hx (D d14_88) rfl ?_
        refine st23 _ ?_
        exact Steps.refl _)
      have f25 := ((((E_kq.wr W6).wr W9).wr W18).wr W23)
      have f26 := ((((F_kq_keys.other W6 (Or.inl (ne0_5 NDp))).other W9 (Or.inl (ne0_6 NDp))).other W18 (Or.inl (ne0_2 NDp))).other W23 (Or.inl (ne0_3 NDp)))
      have f27 := ((((F_kq_before.other W6 (Or.inl (ne0_5 NDp))).other W9 (Or.inl (ne0_6 NDp))).other W18 (Or.inl (ne0_2 NDp))).other W23 (Or.inl (ne0_3 NDp)))
      have f28 := (((f7.other W9 (Or.inl (ne0_6 NDp))).other W18 (Or.inl (ne0_2 NDp))).other W23 (Or.inl (ne0_3 NDp)))
      have f29 := ((((F_kq_inBucket.other W6 (Or.inl (ne0_5 NDp))).other W9 (Or.inl (ne0_6 NDp))).other W18 (Or.inl (ne0_2 NDp))).other W23 (Or.inl (ne0_3 NDp)))
      have f30 := ((((F_kq_firsts.other W6 (Or.inl (ne0_5 NDp))).other W9 (Or.inl (ne0_6 NDp))).other W18 (Or.inl (ne0_2 NDp))).other W23 (Or.inl (ne0_3 NDp)))
      have f31 := ((f14.other W18 (Or.inl (ne0_2 NDp))).other W23 (Or.inl (ne0_3 NDp)))
      have f32 := (f19.other W23 (Or.inl (ne0_3 NDp)))
      have f33 := ((((F_kq_further.other W6 (Or.inl (ne0_5 NDp))).other W9 (Or.inl (ne0_6 NDp))).other W18 (Or.inl (ne0_2 NDp))).other W23 (Or.inl (ne0_3 NDp)))
      have f34 := ((((F_kq_bucketed.other W6 (Or.inl (ne0_5 NDp))).other W9 (Or.inl (ne0_6 NDp))).other W18 (Or.inl (ne0_2 NDp))).other W23 (Or.inl (ne0_3 NDp)))
      have f35 := ((((F_kq_floor.other W6 (Or.inl (ne0_5 NDp))).other W9 (Or.inl (ne0_6 NDp))).other W18 (Or.inl (ne0_2 NDp))).other W23 (Or.inl (ne0_3 NDp)))
      have f36 := ((((V_aI.other W6 (ne7_5 NDp)).other W9 (ne7_6 NDp)).other W18 (ne7_2 NDp)).other W23 (ne7_3 NDp))
      have f37 := ((((V_aK.other W6 (ne4_5 NDp)).other W9 (ne4_6 NDp)).other W18 (ne4_2 NDp)).other W23 (ne4_3 NDp))
      have f38 := (((V6.other W9 (ne5_6 NDp)).other W18 (ne5_2 NDp)).other W23 (ne5_3 NDp))
      have f39 := ((V9.other W18 (ne6_2 NDp)).other W23 (ne6_3 NDp))
      have f40 := ((((V_aF.other W6 (ne1_5 NDp)).other W9 (ne1_6 NDp)).other W18 (ne1_2 NDp)).other W23 (ne1_3 NDp))
      have f41 := (V18.other W23 (ne2_3 NDp))
      exact ⟨T23, _, _, X23, e23, N23, K23, O23, f25, f26, f27, f28, f29, f30, f31, f32, f33, f34, f35, f36, f37, f38, f39, f40, f41, V23, cs24⟩
    · have f42 := ((F_kq_before.other W6 (Or.inl (ne0_5 NDp))).other W9 (Or.inl (ne0_6 NDp)))
      obtain ⟨T43, X43, e43, st43⟩ := getF X9 hx hZ hown (host := "") (Or.inl (wd 20 rfl)) Via.refl e9 f42 (g := (mkF m 39 #[.val (.ref kq), .val (.int en), .val (.int ((v2 &&& (65535 : Int64)).toInt32)), .val (.int v4)] [(.ref kq)])) rfl rfl (D d14_39)
      have f45 := (V6.other W9 (ne5_6 NDp))
      obtain ⟨cl44, Ar44, q44, S44, Nn44, H44, G44⟩ := id f45
      have hin44 : ¬ (v4 < 0 ∨ cl44.slots.size ≤ (v4).toNatClampNeg) := inb_of S44 (own_pi4 pi4 hc13)
      obtain ⟨T44, h44, X44, e44, W44, st44⟩ := stI X43 hx hZ e43 Ar44 (j := v4) hin44 (g := (mkF m 44 #[.val (.ref kq), .val (.int en), .val (.int ((v2 &&& (65535 : Int64)).toInt32)), .val (.int v4)] [(.int en), (.int v4), (.ref aB)])) rfl rfl (D d14_44)
      have V44 : Arp Z h44 aB kB .int (4 : Int32) PI := Arp.set Ar44 q44 S44 Nn44 H44 (own_PI (Or.inr he)) W44
      have N44 := Fr.snoc X44 N9 g_aB
      have Zn44 : n0 ≤ h44.size := Nat.le_trans Zn9 (Keep.of_wr W44).1
      have K44 : Keep h0 h44 [kq, aB, aA, aI, aF, aO, aW] := K9.wr W44 (Or.inl (List.mem_of_getElem? (i := 1) rfl))
      have O44 := O9.wr W44 g_aB
      have cs46 : Steps p.tables e below (s₁.setTop (mkF m 0 #[.val (.ref kq), .val (.int en), .unset, .unset] [])) (T44.setTop (mkF m 90 #[.val (.ref kq), .val (.int en), .val (.int ((v2 &&& (65535 : Int64)).toInt32)), .val (.int v4)] [])) := cs12.trans (by
        refine s_icmpNo X9 hx (D d14_35) (feq hc13).1 ?_
        refine s_aloadN X9 hx (D d14_38) rfl rfl ?_
        refine st43 _ ?_
        refine s_iloadN X43 hx (D d14_42) rfl ?_
        refine s_iloadN X43 hx (D d14_43) rfl ?_
        refine st44 _ ?_
        refine s_goto X44 hx 90 (D d14_45) (of_decide_eq_true rfl) rfl ?_
        exact Steps.refl _)
      have f47 := (((E_kq.wr W6).wr W9).wr W44)
      have f48 := (((F_kq_keys.other W6 (Or.inl (ne0_5 NDp))).other W9 (Or.inl (ne0_6 NDp))).other W44 (Or.inl (ne0_5 NDp)))
      have f49 := (f42.other W44 (Or.inl (ne0_5 NDp)))
      have f50 := ((f7.other W9 (Or.inl (ne0_6 NDp))).other W44 (Or.inl (ne0_5 NDp)))
      have f51 := (((F_kq_inBucket.other W6 (Or.inl (ne0_5 NDp))).other W9 (Or.inl (ne0_6 NDp))).other W44 (Or.inl (ne0_5 NDp)))
      have f52 := (((F_kq_firsts.other W6 (Or.inl (ne0_5 NDp))).other W9 (Or.inl (ne0_6 NDp))).other W44 (Or.inl (ne0_5 NDp)))
      have f53 := (((F_kq_occupied.other W6 (Or.inl (ne0_5 NDp))).other W9 (Or.inl (ne0_6 NDp))).other W44 (Or.inl (ne0_5 NDp)))
      have f54 := (((F_kq_occupiedWords.other W6 (Or.inl (ne0_5 NDp))).other W9 (Or.inl (ne0_6 NDp))).other W44 (Or.inl (ne0_5 NDp)))
      have f55 := (((F_kq_further.other W6 (Or.inl (ne0_5 NDp))).other W9 (Or.inl (ne0_6 NDp))).other W44 (Or.inl (ne0_5 NDp)))
      have f56 := (((F_kq_bucketed.other W6 (Or.inl (ne0_5 NDp))).other W9 (Or.inl (ne0_6 NDp))).other W44 (Or.inl (ne0_5 NDp)))
      have f57 := (((F_kq_floor.other W6 (Or.inl (ne0_5 NDp))).other W9 (Or.inl (ne0_6 NDp))).other W44 (Or.inl (ne0_5 NDp)))
      have f58 := (((V_aI.other W6 (ne7_5 NDp)).other W9 (ne7_6 NDp)).other W44 (ne7_5 NDp))
      have f59 := (((V_aK.other W6 (ne4_5 NDp)).other W9 (ne4_6 NDp)).other W44 (ne4_5 NDp))
      have f60 := (V9.other W44 (ne6_5 NDp))
      have f61 := (((V_aF.other W6 (ne1_5 NDp)).other W9 (ne1_6 NDp)).other W44 (ne1_5 NDp))
      have f62 := (((V_aO.other W6 (ne2_5 NDp)).other W9 (ne2_6 NDp)).other W44 (ne2_5 NDp))
      have f63 := (((V_aW.other W6 (ne3_5 NDp)).other W9 (ne3_6 NDp)).other W44 (ne3_5 NDp))
      exact ⟨T44, _, _, X44, e44, N44, K44, O44, f47, f48, f49, f50, f51, f52, f53, f54, f55, f56, f57, f58, f59, V44, f60, f61, f62, f63, cs46⟩
  obtain ⟨Tj11, Lj11, hj11, Xj11, ej11, Nj11, Kj11, Oj11, J11_0, J11_1, J11_2, J11_3, J11_4, J11_5, J11_6, J11_7, J11_8, J11_9, J11_10, J11_11, J11_12, J11_13, J11_14, J11_15, J11_16, J11_17, cj11⟩ := jn11
  obtain ⟨T64, X64, e64, st64⟩ := getF Xj11 hx hZ hown (host := "") (Or.inl (wd 11 rfl)) Via.refl ej11 J11_5 (g := (mkF m 91 #[.val (.ref kq), .val (.int en), .val (.int ((v2 &&& (65535 : Int64)).toInt32)), .val (.int v4)] [(.ref kq)])) rfl rfl (D d14_91)
  obtain ⟨cl65, Ar65, q65, S65, Nn65, H65, G65⟩ := id J11_15
  have hin65 : ¬ (((v2 &&& (65535 : Int64)).toInt32) < 0 ∨ cl65.slots.size ≤ (((v2 &&& (65535 : Int64)).toInt32)).toNatClampNeg) := inb_of S65 (own_bkl (own_bk v2) (by decide))
  obtain ⟨T65, h65, X65, e65, W65, st65⟩ := stI X64 hx hZ e64 Ar65 (j := ((v2 &&& (65535 : Int64)).toInt32)) hin65 (g := (mkF m 96 #[.val (.ref kq), .val (.int en), .val (.int ((v2 &&& (65535 : Int64)).toInt32)), .val (.int v4)] [(.int en), (.int ((v2 &&& (65535 : Int64)).toInt32)), (.ref aF)])) rfl rfl (D d14_96)
  have V65 : Arp Z h65 aF kF .int (65536 : Int32) PI := Arp.set Ar65 q65 S65 Nn65 H65 (own_PI (Or.inr he)) W65
  have N65 := Fr.snoc X65 Nj11 g_aF
  have Zn65 : n0 ≤ h65.size := Nat.le_trans (own_oldsz Oj11) (Keep.of_wr W65).1
  have K65 : Keep h0 h65 [kq, aB, aA, aI, aF, aO, aW] := Kj11.wr W65 (Or.inl (List.mem_of_getElem? (i := 4) rfl))
  have O65 := Oj11.wr W65 g_aF
  have f66 := (J11_4.other W65 (Or.inl (ne0_1 NDp)))
  obtain ⟨T67, X67, e67, st67⟩ := getF X65 hx hZ hown (host := "") (Or.inl (wd 25 rfl)) Via.refl e65 f66 (g := (mkF m 98 #[.val (.ref kq), .val (.int en), .val (.int ((v2 &&& (65535 : Int64)).toInt32)), .val (.int v4)] [(.ref kq)])) rfl rfl (D d14_98)
  have f69 := (J11_11.other W65 (ne7_1 NDp))
  obtain ⟨cl68, Ar68, q68, S68, Nn68, H68, G68⟩ := id f69
  have hin68 : ¬ (en < 0 ∨ cl68.slots.size ≤ (en).toNatClampNeg) := inb_of S68 (own_in4 he)
  obtain ⟨T68, h68, X68, e68, W68, st68⟩ := stZ X67 hx hZ e67 Ar68 (j := en) hin68 (g := (mkF m 103 #[.val (.ref kq), .val (.int en), .val (.int ((v2 &&& (65535 : Int64)).toInt32)), .val (.int v4)] [(.int (1 : Int32)), (.int en), (.ref aI)])) rfl rfl (D d14_103)
  have V68 : Arv Z h68 aI kI .boolean (4 : Int32) [(.int (s4 en 0 (1 : Int32) ib0)), (.int (s4 en 1 (1 : Int32) ib1)), (.int (s4 en 2 (1 : Int32) ib2)), (.int (s4 en 3 (1 : Int32) ib3))] (.int (0 : Int32)) := own_set4 (w := (1 : Int32)) Ar68 q68 S68 Nn68 H68 G68 rfl W68 he
  have N68 := Fr.snoc X68 N65 g_aI
  have Zn68 : n0 ≤ h68.size := Nat.le_trans Zn65 (Keep.of_wr W68).1
  have K68 : Keep h0 h68 [kq, aB, aA, aI, aF, aO, aW] := K65.wr W68 (Or.inl (List.mem_of_getElem? (i := 3) rfl))
  have O68 := O65.wr W68 g_aI
  have f70 := ((J11_9.other W65 (Or.inl (ne0_1 NDp))).other W68 (Or.inl (ne0_7 NDp)))
  obtain ⟨T71, X71, e71, st71⟩ := getF X68 hx hZ hown (host := "") (Or.inl (wd 108 rfl)) Via.refl e68 f70 (g := (mkF m 106 #[.val (.ref kq), .val (.int en), .val (.int ((v2 &&& (65535 : Int64)).toInt32)), .val (.int v4)] [(.ref kq), (.ref kq)])) rfl rfl (D d14_106)
  have f73 := ((J11_0.wr W65).wr W68)
  obtain ⟨T72, h72, X72, e72, W72, st72⟩ := putF X71 hx hZ hown (host := "") (Or.inl (wd 108 rfl)) Via.refl e71 f70 f73 (Or.inl (wd 109 rfl)) (wd 1 rfl) (ty := .int) (by decide) rfl rfl (g := (mkF m 111 #[.val (.ref kq), .val (.int en), .val (.int ((v2 &&& (65535 : Int64)).toInt32)), .val (.int v4)] [(.int (bk + (1 : Int32))), (.ref kq)])) rfl rfl (D d14_111)
  have Fw72 : Fld Z h72 kq "com/example/leasewise/leasewise/KilometreQueue" "bucketed" "I" (.int (bk + (1 : Int32))) := Fld.same W72 f70
  have N72 := Fr.snoc X72 N68 g_kq
  have Zn72 : n0 ≤ h72.size := Nat.le_trans Zn68 (Keep.of_wr W72).1
  have K72 : Keep h0 h72 [kq, aB, aA, aI, aF, aO, aW] := K68.wr W72 (Or.inl (List.mem_of_getElem? (i := 0) rfl))
  have O72 := O68.wr W72 g_kq
  have f74 := (((J11_1.other W65 (Or.inl (ne0_1 NDp))).other W68 (Or.inl (ne0_7 NDp))).other W72 (Or.inr (slot_ne (Or.inr (wd 19 rfl)) (Or.inl (wd 109 rfl)) (by decide) (t := (.array .long)) (t' := .int) (by decide) (by decide))))
  have f75 := (((J11_2.other W65 (Or.inl (ne0_1 NDp))).other W68 (Or.inl (ne0_7 NDp))).other W72 (Or.inr (slot_ne (Or.inr (wd 21 rfl)) (Or.inl (wd 109 rfl)) (by decide) (t := (.array .int)) (t' := .int) (by decide) (by decide))))
  have f76 := (((J11_3.other W65 (Or.inl (ne0_1 NDp))).other W68 (Or.inl (ne0_7 NDp))).other W72 (Or.inr (slot_ne (Or.inr (wd 23 rfl)) (Or.inl (wd 109 rfl)) (by decide) (t := (.array .int)) (t' := .int) (by decide) (by decide))))
  have f77 := ((f66.other W68 (Or.inl (ne0_7 NDp))).other W72 (Or.inr (slot_ne (Or.inr (wd 26 rfl)) (Or.inl (wd 109 rfl)) (by decide) (t := (.array .boolean)) (t' := .int) (by decide) (by decide))))
  have f78 := (((J11_5.other W65 (Or.inl (ne0_1 NDp))).other W68 (Or.inl (ne0_7 NDp))).other W72 (Or.inr (slot_ne (Or.inr (wd 12 rfl)) (Or.inl (wd 109 rfl)) (by decide) (t := (.array .int)) (t' := .int) (by decide) (by decide))))
  have f79 := (((J11_6.other W65 (Or.inl (ne0_1 NDp))).other W68 (Or.inl (ne0_7 NDp))).other W72 (Or.inr (slot_ne (Or.inr (wd 15 rfl)) (Or.inl (wd 109 rfl)) (by decide) (t := (.array .long)) (t' := .int) (by decide) (by decide))))
  have f80 := (((J11_7.other W65 (Or.inl (ne0_1 NDp))).other W68 (Or.inl (ne0_7 NDp))).other W72 (Or.inr (slot_ne (Or.inr (wd 17 rfl)) (Or.inl (wd 109 rfl)) (by decide) (t := (.array .long)) (t' := .int) (by decide) (by decide))))
  have f81 := (((J11_8.other W65 (Or.inl (ne0_1 NDp))).other W68 (Or.inl (ne0_7 NDp))).other W72 (Or.inr (slot_ne (Or.inr (wd 50 rfl)) (Or.inl (wd 109 rfl)) (by decide) (t := (.object "com/example/leasewise/leasewise/IndexedHeap")) (t' := .int) (by decide) (by decide))))
  have f82 := (((J11_10.other W65 (Or.inl (ne0_1 NDp))).other W68 (Or.inl (ne0_7 NDp))).other W72 (Or.inr (slot_ne (Or.inl (wd 68 rfl)) (Or.inl (wd 109 rfl)) (by decide) (t := .long) (t' := .int) (by decide) (by decide))))
  have f83 := (((J11_13.other W65 (ne5_1 NDp)).other W68 (ne5_7 NDp)).other W72 (ne5_0 NDp))
  have f84 := (((J11_14.other W65 (ne6_1 NDp)).other W68 (ne6_7 NDp)).other W72 (ne6_0 NDp))
  have f85 := (V68.other W72 (ne7_0 NDp))
  have f86 := ((V65.other W68 (ne1_7 NDp)).other W72 (ne1_0 NDp))
  have f87 := (((J11_16.other W65 (ne2_1 NDp)).other W68 (ne2_7 NDp)).other W72 (ne2_0 NDp))
  have f88 := (((J11_17.other W65 (ne3_1 NDp)).other W68 (ne3_7 NDp)).other W72 (ne3_0 NDp))
  obtain ⟨fs, hr, hrun, hended, hW, hsame⟩ := X72.leave (v := none) (fun _ => rfl)
  refine ⟨_, _, pre0 _ ?_, hrun, hended, _, _, rfl, ?_, ⟨_, rfl⟩, hW, hsame.mono (by decide) (by decide)⟩
  · refine cj11.trans ?_
    refine s_aloadN Xj11 hx (D d14_90) rfl rfl ?_
    refine st64 _ ?_
    refine s_iloadN X64 hx (D d14_94) rfl ?_
    refine s_iloadN X64 hx (D d14_95) rfl ?_
    refine st65 _ ?_
    refine s_aloadN X65 hx (D d14_97) rfl rfl ?_
    refine st67 _ ?_
    refine s_iloadN X67 hx (D d14_101) rfl ?_
    refine s_iconst X67 hx (1 : Int32) (D d14_102) rfl ?_
    refine st68 _ ?_
    refine s_aloadN X68 hx (D d14_104) rfl rfl ?_
    refine s_dup X68 hx (D d14_105) rfl ?_
    refine st71 _ ?_
    refine s_iconst X71 hx (1 : Int32) (D d14_109) rfl ?_
    refine s_iadd X71 hx (D d14_110) rfl ?_
    refine st72 _ ?_
    exact X72.returnOut hx Bd.returns (D d14_114) hr
  · show Q_rm_klink Z kq en aF aO aW aK aB aA aI hp lo aE aP kK kB kA kI kF kO kW bk ib0 ib1 ib2 ib3 h0 n0 _ T72.heap _
    rw [e72]
    exact ⟨(bk + (1 : Int32)), rfl, N72, K72, f74, f75, f76, f77, f78, f79, f80, f81, Fw72, f82, f83, f84, f85, f86, f87, f88⟩
theorem d15_0 : decode prog_39_method_14_code 0 = .ok (.aload_n 0, 1) := by decide +kernel
theorem d15_1 : decode prog_39_method_14_code 1 = .ok (.getfield 23, 3) := by decide +kernel
theorem d15_4 : decode prog_39_method_14_code 4 = .ok (.iload_n 1, 1) := by decide +kernel
theorem d15_5 : decode prog_39_method_14_code 5 = .ok (.laload, 1) := by decide +kernel
theorem d15_6 : decode prog_39_method_14_code 6 = .ok (.ldc2_w 117, 3) := by decide +kernel
theorem d15_9 : decode prog_39_method_14_code 9 = .ok (.land, 1) := by decide +kernel
theorem d15_10 : decode prog_39_method_14_code 10 = .ok (.l2i, 1) := by decide +kernel
theorem d15_11 : decode prog_39_method_14_code 11 = .ok (.istore_n 2, 1) := by decide +kernel
theorem d15_12 : decode prog_39_method_14_code 12 = .ok (.aload_n 0, 1) := by decide +kernel
theorem d15_13 : decode prog_39_method_14_code 13 = .ok (.getfield 26, 3) := by decide +kernel
theorem d15_16 : decode prog_39_method_14_code 16 = .ok (.iload_n 1, 1) := by decide +kernel
theorem d15_17 : decode prog_39_method_14_code 17 = .ok (.iaload, 1) := by decide +kernel
theorem d15_18 : decode prog_39_method_14_code 18 = .ok (.iconst (-1), 1) := by decide +kernel
theorem d15_19 : decode prog_39_method_14_code 19 = .ok (.if_icmp .eq 23, 3) := by decide +kernel
theorem d15_22 : decode prog_39_method_14_code 22 = .ok (.aload_n 0, 1) := by decide +kernel
theorem d15_23 : decode prog_39_method_14_code 23 = .ok (.getfield 29, 3) := by decide +kernel
theorem d15_26 : decode prog_39_method_14_code 26 = .ok (.aload_n 0, 1) := by decide +kernel
theorem d15_27 : decode prog_39_method_14_code 27 = .ok (.getfield 26, 3) := by decide +kernel
theorem d15_30 : decode prog_39_method_14_code 30 = .ok (.iload_n 1, 1) := by decide +kernel
theorem d15_31 : decode prog_39_method_14_code 31 = .ok (.iaload, 1) := by decide +kernel
theorem d15_32 : decode prog_39_method_14_code 32 = .ok (.aload_n 0, 1) := by decide +kernel
theorem d15_33 : decode prog_39_method_14_code 33 = .ok (.getfield 29, 3) := by decide +kernel
theorem d15_36 : decode prog_39_method_14_code 36 = .ok (.iload_n 1, 1) := by decide +kernel
theorem d15_37 : decode prog_39_method_14_code 37 = .ok (.iaload, 1) := by decide +kernel
theorem d15_38 : decode prog_39_method_14_code 38 = .ok (.iastore, 1) := by decide +kernel
theorem d15_39 : decode prog_39_method_14_code 39 = .ok (.goto 15, 3) := by decide +kernel
theorem d15_42 : decode prog_39_method_14_code 42 = .ok (.aload_n 0, 1) := by decide +kernel
theorem d15_43 : decode prog_39_method_14_code 43 = .ok (.getfield 10, 3) := by decide +kernel
theorem d15_46 : decode prog_39_method_14_code 46 = .ok (.iload_n 2, 1) := by decide +kernel
theorem d15_47 : decode prog_39_method_14_code 47 = .ok (.aload_n 0, 1) := by decide +kernel
theorem d15_48 : decode prog_39_method_14_code 48 = .ok (.getfield 29, 3) := by decide +kernel
theorem d15_51 : decode prog_39_method_14_code 51 = .ok (.iload_n 1, 1) := by decide +kernel
theorem d15_52 : decode prog_39_method_14_code 52 = .ok (.iaload, 1) := by decide +kernel
theorem d15_53 : decode prog_39_method_14_code 53 = .ok (.iastore, 1) := by decide +kernel
theorem d15_54 : decode prog_39_method_14_code 54 = .ok (.aload_n 0, 1) := by decide +kernel
theorem d15_55 : decode prog_39_method_14_code 55 = .ok (.getfield 29, 3) := by decide +kernel
theorem d15_58 : decode prog_39_method_14_code 58 = .ok (.iload_n 1, 1) := by decide +kernel
theorem d15_59 : decode prog_39_method_14_code 59 = .ok (.iaload, 1) := by decide +kernel
theorem d15_60 : decode prog_39_method_14_code 60 = .ok (.iconst (-1), 1) := by decide +kernel
theorem d15_61 : decode prog_39_method_14_code 61 = .ok (.if_icmp .eq 20, 3) := by decide +kernel
theorem d15_64 : decode prog_39_method_14_code 64 = .ok (.aload_n 0, 1) := by decide +kernel
theorem d15_65 : decode prog_39_method_14_code 65 = .ok (.getfield 26, 3) := by decide +kernel
theorem d15_68 : decode prog_39_method_14_code 68 = .ok (.aload_n 0, 1) := by decide +kernel
theorem d15_69 : decode prog_39_method_14_code 69 = .ok (.getfield 29, 3) := by decide +kernel
theorem d15_72 : decode prog_39_method_14_code 72 = .ok (.iload_n 1, 1) := by decide +kernel
theorem d15_73 : decode prog_39_method_14_code 73 = .ok (.iaload, 1) := by decide +kernel
theorem d15_74 : decode prog_39_method_14_code 74 = .ok (.aload_n 0, 1) := by decide +kernel
theorem d15_75 : decode prog_39_method_14_code 75 = .ok (.getfield 26, 3) := by decide +kernel
theorem d15_78 : decode prog_39_method_14_code 78 = .ok (.iload_n 1, 1) := by decide +kernel
theorem d15_79 : decode prog_39_method_14_code 79 = .ok (.iaload, 1) := by decide +kernel
theorem d15_80 : decode prog_39_method_14_code 80 = .ok (.iastore, 1) := by decide +kernel
theorem d15_81 : decode prog_39_method_14_code 81 = .ok (.aload_n 0, 1) := by decide +kernel
theorem d15_82 : decode prog_39_method_14_code 82 = .ok (.getfield 10, 3) := by decide +kernel
theorem d15_85 : decode prog_39_method_14_code 85 = .ok (.iload_n 2, 1) := by decide +kernel
theorem d15_86 : decode prog_39_method_14_code 86 = .ok (.iaload, 1) := by decide +kernel
theorem d15_87 : decode prog_39_method_14_code 87 = .ok (.iconst (-1), 1) := by decide +kernel
theorem d15_88 : decode prog_39_method_14_code 88 = .ok (.if_icmp .ne 60, 3) := by decide +kernel
theorem d15_91 : decode prog_39_method_14_code 91 = .ok (.iload_n 2, 1) := by decide +kernel
theorem d15_92 : decode prog_39_method_14_code 92 = .ok (.bipush 64, 2) := by decide +kernel
theorem d15_94 : decode prog_39_method_14_code 94 = .ok (.idiv, 1) := by decide +kernel
theorem d15_95 : decode prog_39_method_14_code 95 = .ok (.istore_n 3, 1) := by decide +kernel
theorem d15_96 : decode prog_39_method_14_code 96 = .ok (.aload_n 0, 1) := by decide +kernel
theorem d15_97 : decode prog_39_method_14_code 97 = .ok (.getfield 16, 3) := by decide +kernel
theorem d15_100 : decode prog_39_method_14_code 100 = .ok (.iload_n 3, 1) := by decide +kernel
theorem d15_101 : decode prog_39_method_14_code 101 = .ok (.dup2, 1) := by decide +kernel
theorem d15_102 : decode prog_39_method_14_code 102 = .ok (.laload, 1) := by decide +kernel
theorem d15_103 : decode prog_39_method_14_code 103 = .ok (.lconst 1, 1) := by decide +kernel
theorem d15_104 : decode prog_39_method_14_code 104 = .ok (.iload_n 2, 1) := by decide +kernel
theorem d15_105 : decode prog_39_method_14_code 105 = .ok (.bipush 64, 2) := by decide +kernel
theorem d15_107 : decode prog_39_method_14_code 107 = .ok (.irem, 1) := by decide +kernel
theorem d15_108 : decode prog_39_method_14_code 108 = .ok (.lshl, 1) := by decide +kernel
theorem d15_109 : decode prog_39_method_14_code 109 = .ok (.ldc2_w 123, 3) := by decide +kernel
theorem d15_112 : decode prog_39_method_14_code 112 = .ok (.lxor, 1) := by decide +kernel
theorem d15_113 : decode prog_39_method_14_code 113 = .ok (.land, 1) := by decide +kernel
theorem d15_114 : decode prog_39_method_14_code 114 = .ok (.lastore, 1) := by decide +kernel
theorem d15_115 : decode prog_39_method_14_code 115 = .ok (.aload_n 0, 1) := by decide +kernel
theorem d15_116 : decode prog_39_method_14_code 116 = .ok (.getfield 16, 3) := by decide +kernel
theorem d15_119 : decode prog_39_method_14_code 119 = .ok (.iload_n 3, 1) := by decide +kernel
theorem d15_120 : decode prog_39_method_14_code 120 = .ok (.laload, 1) := by decide +kernel
theorem d15_121 : decode prog_39_method_14_code 121 = .ok (.lconst 0, 1) := by decide +kernel
theorem d15_122 : decode prog_39_method_14_code 122 = .ok (.lcmp, 1) := by decide +kernel
theorem d15_123 : decode prog_39_method_14_code 123 = .ok (.ifCond .ne 25, 3) := by decide +kernel
theorem d15_126 : decode prog_39_method_14_code 126 = .ok (.aload_n 0, 1) := by decide +kernel
theorem d15_127 : decode prog_39_method_14_code 127 = .ok (.getfield 20, 3) := by decide +kernel
theorem d15_130 : decode prog_39_method_14_code 130 = .ok (.iload_n 3, 1) := by decide +kernel
theorem d15_131 : decode prog_39_method_14_code 131 = .ok (.bipush 64, 2) := by decide +kernel
theorem d15_133 : decode prog_39_method_14_code 133 = .ok (.idiv, 1) := by decide +kernel
theorem d15_134 : decode prog_39_method_14_code 134 = .ok (.dup2, 1) := by decide +kernel
theorem d15_135 : decode prog_39_method_14_code 135 = .ok (.laload, 1) := by decide +kernel
theorem d15_136 : decode prog_39_method_14_code 136 = .ok (.lconst 1, 1) := by decide +kernel
theorem d15_137 : decode prog_39_method_14_code 137 = .ok (.iload_n 3, 1) := by decide +kernel
theorem d15_138 : decode prog_39_method_14_code 138 = .ok (.bipush 64, 2) := by decide +kernel
theorem d15_140 : decode prog_39_method_14_code 140 = .ok (.irem, 1) := by decide +kernel
theorem d15_141 : decode prog_39_method_14_code 141 = .ok (.lshl, 1) := by decide +kernel
theorem d15_142 : decode prog_39_method_14_code 142 = .ok (.ldc2_w 123, 3) := by decide +kernel
theorem d15_145 : decode prog_39_method_14_code 145 = .ok (.lxor, 1) := by decide +kernel
theorem d15_146 : decode prog_39_method_14_code 146 = .ok (.land, 1) := by decide +kernel
theorem d15_147 : decode prog_39_method_14_code 147 = .ok (.lastore, 1) := by decide +kernel
theorem d15_148 : decode prog_39_method_14_code 148 = .ok (.aload_n 0, 1) := by decide +kernel
theorem d15_149 : decode prog_39_method_14_code 149 = .ok (.getfield 32, 3) := by decide +kernel
theorem d15_152 : decode prog_39_method_14_code 152 = .ok (.iload_n 1, 1) := by decide +kernel
theorem d15_153 : decode prog_39_method_14_code 153 = .ok (.iconst 0, 1) := by decide +kernel
theorem d15_154 : decode prog_39_method_14_code 154 = .ok (.bastore, 1) := by decide +kernel
theorem d15_155 : decode prog_39_method_14_code 155 = .ok (.aload_n 0, 1) := by decide +kernel
theorem d15_156 : decode prog_39_method_14_code 156 = .ok (.dup, 1) := by decide +kernel
theorem d15_157 : decode prog_39_method_14_code 157 = .ok (.getfield 54, 3) := by decide +kernel
theorem d15_160 : decode prog_39_method_14_code 160 = .ok (.iconst 1, 1) := by decide +kernel
theorem d15_161 : decode prog_39_method_14_code 161 = .ok (.isub, 1) := by decide +kernel
theorem d15_162 : decode prog_39_method_14_code 162 = .ok (.putfield 54, 3) := by decide +kernel
theorem d15_165 : decode prog_39_method_14_code 165 = .ok (.return_, 1) := by decide +kernel
theorem ne4_1 {kq aF aO aW aK aB aA aI hp lo aE aP : Addr} (h : List.Nodup [kq, aF, aO, aW, aK, aB, aA, aI, hp, lo, aE, aP]) : aK ≠ aF := own_nd h 4 1 rfl rfl (by decide)
theorem ef_rm_kunlink (m : MethodId) (x0 : Addr) (x1 : Int32) : entryFrame m #[(.ref x0), (.int x1)] 4 = mkF m 0 #[.val (.ref x0), .val (.int x1), .unset, .unset] [] := by first | (simp [entryFrame, mkF, argsToLocals, Value.category]; done) | rfl
def Q_rm_kunlink (Z : State) (kq : Addr) (en : Int32) (aF aO aW aK aB aA aI hp lo aE aP : Addr) (kK kB kA kI kF kO kW : ClassId) (bk ib0 ib1 ib2 ib3 : Int32) (h0 : Heap) (n0 : Nat) (v : Option Value) (h : Heap) (L : List Loc) : Prop := ∃ (vb_ : Int32), v = none ∧ Fr n0 L ∧ Keep h0 h [kq, aB, aA, aI, aF, aO, aW] ∧ Fld Z h kq "com/example/leasewise/leasewise/KilometreQueue" "keys" "[J" (.ref aK) ∧ Fld Z h kq "com/example/leasewise/leasewise/KilometreQueue" "before" "[I" (.ref aB) ∧ Fld Z h kq "com/example/leasewise/leasewise/KilometreQueue" "after" "[I" (.ref aA) ∧ Fld Z h kq "com/example/leasewise/leasewise/KilometreQueue" "inBucket" "[Z" (.ref aI) ∧ Fld Z h kq "com/example/leasewise/leasewise/KilometreQueue" "firsts" "[I" (.ref aF) ∧ Fld Z h kq "com/example/leasewise/leasewise/KilometreQueue" "occupied" "[J" (.ref aO) ∧ Fld Z h kq "com/example/leasewise/leasewise/KilometreQueue" "occupiedWords" "[J" (.ref aW) ∧ Fld Z h kq "com/example/leasewise/leasewise/KilometreQueue" "further" "Lcom/example/leasewise/leasewise/IndexedHeap;" (.ref hp) ∧ Fld Z h kq "com/example/leasewise/leasewise/KilometreQueue" "bucketed" "I" (.int vb_) ∧ Fld Z h kq "com/example/leasewise/leasewise/KilometreQueue" "floor" "J" (.long (0 : Int64)) ∧ Arp Z h aB kB .int (4 : Int32) PI ∧ Arp Z h aA kA .int (4 : Int32) PI ∧ Arv Z h aI kI .boolean (4 : Int32) [(.int (s4 en 0 (0 : Int32) ib0)), (.int (s4 en 1 (0 : Int32) ib1)), (.int (s4 en 2 (0 : Int32) ib2)), (.int (s4 en 3 (0 : Int32) ib3))] (.int (0 : Int32)) ∧ Arp Z h aF kF .int (65536 : Int32) PI ∧ Arp Z h aO kO .long (1024 : Int32) PJ ∧ Arp Z h aW kW .long (16 : Int32) PJ
set_option maxRecDepth 65536 in
set_option maxHeartbeats 40000000 in
theorem rm_kunlink (l : Launch) (Z : State) (a0 : Array Value) (hw : ∀ d ∈ tables_1, d.before a0 Z = true) (ws : List Jvm.Cond) (kq : Addr) (en : Int32) (aF aO aW aK aB aA aI hp lo aE aP : Addr) (kK kB kA kI kF kO kW : ClassId) (bk ib0 ib1 ib2 ib3 : Int32) (h0 : Heap) (n0 : Nat) (O0 : Old Z n0 h0) (E_kq : Exa Z h0 kq "com/example/leasewise/leasewise/KilometreQueue") (F_kq_keys : Fld Z h0 kq "com/example/leasewise/leasewise/KilometreQueue" "keys" "[J" (.ref aK)) (F_kq_before : Fld Z h0 kq "com/example/leasewise/leasewise/KilometreQueue" "before" "[I" (.ref aB)) (F_kq_after : Fld Z h0 kq "com/example/leasewise/leasewise/KilometreQueue" "after" "[I" (.ref aA)) (F_kq_inBucket : Fld Z h0 kq "com/example/leasewise/leasewise/KilometreQueue" "inBucket" "[Z" (.ref aI)) (F_kq_firsts : Fld Z h0 kq "com/example/leasewise/leasewise/KilometreQueue" "firsts" "[I" (.ref aF)) (F_kq_occupied : Fld Z h0 kq "com/example/leasewise/leasewise/KilometreQueue" "occupied" "[J" (.ref aO)) (F_kq_occupiedWords : Fld Z h0 kq "com/example/leasewise/leasewise/KilometreQueue" "occupiedWords" "[J" (.ref aW)) (F_kq_further : Fld Z h0 kq "com/example/leasewise/leasewise/KilometreQueue" "further" "Lcom/example/leasewise/leasewise/IndexedHeap;" (.ref hp)) (F_kq_bucketed : Fld Z h0 kq "com/example/leasewise/leasewise/KilometreQueue" "bucketed" "I" (.int bk)) (F_kq_floor : Fld Z h0 kq "com/example/leasewise/leasewise/KilometreQueue" "floor" "J" (.long (0 : Int64))) (V_aI : Arv Z h0 aI kI .boolean (4 : Int32) [(.int ib0), (.int ib1), (.int ib2), (.int ib3)] (.int (0 : Int32))) (NDp : List.Nodup [kq, aF, aO, aW, aK, aB, aA, aI, hp, lo, aE, aP]) (he : I4 en) (g_kq : n0 ≤ kq) (g_aB : n0 ≤ aB) (g_aA : n0 ≤ aA) (g_aI : n0 ≤ aI) (g_aF : n0 ≤ aF) (g_aO : n0 ≤ aO) (g_aW : n0 ≤ aW) (V_aK : Arp Z h0 aK kK .long (4 : Int32) PJ) (V_aB : Arp Z h0 aB kB .int (4 : Int32) PI) (V_aA : Arp Z h0 aA kA .int (4 : Int32) PI) (V_aF : Arp Z h0 aF kF .int (65536 : Int32) PI) (V_aO : Arp Z h0 aO kO .long (1024 : Int32) PJ) (V_aW : Arp Z h0 aW kW .long (16 : Int32) PJ) :
    MetFree l (⟨"com/example/leasewise/leasewise/KilometreQueue", "unlink", "(I)V"⟩ : MethodName) (head1 (Jvm.Cond.code (⟨"com/example/leasewise/leasewise/KilometreQueue", "unlink", "(I)V"⟩ : MethodName) prog_39_method_14_code 4 none :: ws) ({ frames := 0, cells := 0, slots := 0, locals := 0 } : Room)) (fun a U => a = #[(.ref kq), (.int en)] ∧ Z.WarmedH U.vm ∧ U.heap = h0) (fun _ _ _ _ _ => True) (fun _ U o U' => ∃ v L, o = .returned v ∧ Q_rm_kunlink Z kq en aF aO aW aK aB aA aI hp lo aE aP kK kB kA kI kF kO kW bk ib0 ib1 ib2 ib3 h0 n0 v U'.heap L ∧ FrameEnd U o U' L ({ frames := 0, cells := 0, slots := 0, locals := 0 } : Room).cells ({ frames := 0, cells := 0, slots := 0, locals := 0 } : Room).slots) := by
  refine MetFree.of_bodySF (plainFor_of_name pn_2) hisR ?_
  intro p e s m args below meth c s₁ Bd hml0 hP hK
  obtain ⟨rfl, hZH, hh⟩ := hP
  have hZ := hZH.wide
  have hx := Bd.exec
  have hby := Bd.bytes
  have D := fun {pc : Nat} {r : Except ClassFile.DecodeError (ClassFile.Instr × Nat)} (q : decode prog_39_method_14_code pc = r) => hb (pc := pc) hby q
  have hml : c.maxLocals = 4 := hml0
  have hown : s.vm.findClass "com/example/leasewise/leasewise/KilometreQueue" = some m.cls := findClass_of_methodNamed Bd.named
  have hnm := (name_of_methodNamed Bd.named Bd.method).1
  have X0 : Stand p l e ({ frames := 0, cells := 0, slots := 0, locals := 0 } : Room) s m #[(.ref kq), (.int en)] below meth c s₁ [] 0 0 := Stand.of_body Bd
  have e0 : s₁.heap = h0 := by rw [← hh, Bd.state]; rfl
  have N0 := Fr.nil n0
  have pre0 : ∀ t, Steps p.tables e below (s₁.setTop (mkF m 0 #[.val (.ref kq), .val (.int en), .unset, .unset] [])) t → Steps p.tables e below (s₁.setTop (entryFrame m #[(.ref kq), (.int en)] 4)) t := fun t k => castTop (ef_rm_kunlink m (kq) (en)) k
  have wd := fun {d : Jvm.Cond} (i : Nat) (h : tables_1[i]? = some d) => hw d (List.mem_of_getElem? h)
  obtain ⟨T1, X1, e1, st1⟩ := getF X0 hx hZ hown (host := "") (Or.inl (wd 18 rfl)) Via.refl e0 F_kq_keys (g := (mkF m 1 #[.val (.ref kq), .val (.int en), .unset, .unset] [(.ref kq)])) rfl rfl (D d15_1)
  obtain ⟨cl2, Ar2, q2, S2, Nn2, H2, -⟩ := id V_aK
  have hin2 : ¬ (en < 0 ∨ cl2.slots.size ≤ (en).toNatClampNeg) := inb_of S2 (own_in4 he)
  obtain ⟨_, hat2, v2, rfl⟩ := Arp.get H2 hin2
  have C2 : Elt h0 aK (en).toNatClampNeg (.long v2) := ⟨cl2, Ar2.1, hat2⟩
  obtain ⟨T3, X3, e3, st3⟩ := getF X1 hx hZ hown (host := "") (Or.inl (wd 20 rfl)) Via.refl e1 F_kq_before (g := (mkF m 13 #[.val (.ref kq), .val (.int en), .val (.int ((v2 &&& (65535 : Int64)).toInt32)), .unset] [(.ref kq)])) rfl rfl (D d15_13)
  obtain ⟨cl4, Ar4, q4, S4, Nn4, H4, -⟩ := id V_aB
  have hin4 : ¬ (en < 0 ∨ cl4.slots.size ≤ (en).toNatClampNeg) := inb_of S4 (own_in4 he)
  obtain ⟨_, hat4, v4, rfl, pi4⟩ := Arp.get H4 hin4
  have C4 : Elt h0 aB (en).toNatClampNeg (.int v4) := ⟨cl4, Ar4.1, hat4⟩
  have cs6 : Steps p.tables e below (s₁.setTop (mkF m 0 #[.val (.ref kq), .val (.int en), .unset, .unset] [])) (T3.setTop (mkF m 19 #[.val (.ref kq), .val (.int en), .val (.int ((v2 &&& (65535 : Int64)).toInt32)), .unset] [(.int (-1 : Int32)), (.int v4)])) := (by
    refine s_aloadN X0 hx (D d15_0) rfl rfl ?_
    refine st1 _ ?_
    refine s_iloadN X1 hx (D d15_4) rfl ?_
    refine X1.laload hx (j := en) (v := (.long v2)) (by rw [e1]; exact (Ar2).1) (State.isArrayOf_alike hZ.alike (Ar2).2.1) (Ar2).2.2 hin2 hat2 (g := (mkF m 5 #[.val (.ref kq), .val (.int en), .unset, .unset] [(.int en), (.ref aK)])) rfl rfl (D d15_5) _ ?_
    refine X1.ldc2Long hx hown (mvT hZ (wd 107 rfl)) (g := (mkF m 6 #[.val (.ref kq), .val (.int en), .unset, .unset] [(.long v2)])) rfl (D d15_6) _ ?_
    refine s_land X1 hx (D d15_9) rfl ?_
    refine s_l2i X1 hx (D d15_10) rfl ?_
    refine s_istoreN X1 hx (D d15_11) (l' := #[.val (.ref kq), .val (.int en), .val (.int ((v2 &&& (65535 : Int64)).toInt32)), .unset]) rfl ?_
    refine s_aloadN X1 hx (D d15_12) rfl rfl ?_
    refine st3 _ ?_
    refine s_iloadN X3 hx (D d15_16) rfl ?_
    refine X3.iaload hx (j := en) (v := (.int v4)) (by rw [e3]; exact (Ar4).1) (State.isArrayOf_alike hZ.alike (Ar4).2.1) (Ar4).2.2 hin4 hat4 (g := (mkF m 17 #[.val (.ref kq), .val (.int en), .val (.int ((v2 &&& (65535 : Int64)).toInt32)), .unset] [(.int en), (.ref aB)])) rfl rfl (D d15_17) _ ?_
    refine s_iconst X3 hx (-1 : Int32) (D d15_18) rfl ?_
    exact Steps.refl _)
  have jn5 : ∃ (T : State) (L : List Loc) (h : Heap), Stand p l e ({ frames := 0, cells := 0, slots := 0, locals := 0 } : Room) s m #[(.ref kq), (.int en)] below meth c T L 0 0 ∧ T.heap = h ∧ Fr n0 L ∧ Keep h0 h [kq, aB, aA, aI, aF, aO, aW] ∧ Old Z n0 h ∧ Exa Z h kq "com/example/leasewise/leasewise/KilometreQueue" ∧ Fld Z h kq "com/example/leasewise/leasewise/KilometreQueue" "keys" "[J" (.ref aK) ∧ Fld Z h kq "com/example/leasewise/leasewise/KilometreQueue" "before" "[I" (.ref aB) ∧ Fld Z h kq "com/example/leasewise/leasewise/KilometreQueue" "after" "[I" (.ref aA) ∧ Fld Z h kq "com/example/leasewise/leasewise/KilometreQueue" "inBucket" "[Z" (.ref aI) ∧ Fld Z h kq "com/example/leasewise/leasewise/KilometreQueue" "firsts" "[I" (.ref aF) ∧ Fld Z h kq "com/example/leasewise/leasewise/KilometreQueue" "occupied" "[J" (.ref aO) ∧ Fld Z h kq "com/example/leasewise/leasewise/KilometreQueue" "occupiedWords" "[J" (.ref aW) ∧ Fld Z h kq "com/example/leasewise/leasewise/KilometreQueue" "further" "Lcom/example/leasewise/leasewise/IndexedHeap;" (.ref hp) ∧ Fld Z h kq "com/example/leasewise/leasewise/KilometreQueue" "bucketed" "I" (.int bk) ∧ Fld Z h kq "com/example/leasewise/leasewise/KilometreQueue" "floor" "J" (.long (0 : Int64)) ∧ Arv Z h aI kI .boolean (4 : Int32) [(.int ib0), (.int ib1), (.int ib2), (.int ib3)] (.int (0 : Int32)) ∧ Arp Z h aK kK .long (4 : Int32) PJ ∧ Arp Z h aB kB .int (4 : Int32) PI ∧ Arp Z h aA kA .int (4 : Int32) PI ∧ Arp Z h aF kF .int (65536 : Int32) PI ∧ Arp Z h aO kO .long (1024 : Int32) PJ ∧ Arp Z h aW kW .long (16 : Int32) PJ ∧ Steps p.tables e below (s₁.setTop (mkF m 0 #[.val (.ref kq), .val (.int en), .unset, .unset] [])) (T.setTop (mkF m 54 #[.val (.ref kq), .val (.int en), .val (.int ((v2 &&& (65535 : Int64)).toInt32)), .unset] [])) := by
    by_cases hc7 : v4 = (-1 : Int32)
    · obtain ⟨T8, X8, e8, st8⟩ := getF X3 hx hZ hown (host := "") (Or.inl (wd 11 rfl)) Via.refl e3 F_kq_firsts (g := (mkF m 43 #[.val (.ref kq), .val (.int en), .val (.int ((v2 &&& (65535 : Int64)).toInt32)), .unset] [(.ref kq)])) rfl rfl (D d15_43)
      obtain ⟨T9, X9, e9, st9⟩ := getF X8 hx hZ hown (host := "") (Or.inl (wd 22 rfl)) Via.refl e8 F_kq_after (g := (mkF m 48 #[.val (.ref kq), .val (.int en), .val (.int ((v2 &&& (65535 : Int64)).toInt32)), .unset] [(.ref kq), (.int ((v2 &&& (65535 : Int64)).toInt32)), (.ref aF)])) rfl rfl (D d15_48)
      obtain ⟨cl10, Ar10, q10, S10, Nn10, H10, -⟩ := id V_aA
      have hin10 : ¬ (en < 0 ∨ cl10.slots.size ≤ (en).toNatClampNeg) := inb_of S10 (own_in4 he)
      obtain ⟨_, hat10, v10, rfl, pi10⟩ := Arp.get H10 hin10
      have C10 : Elt h0 aA (en).toNatClampNeg (.int v10) := ⟨cl10, Ar10.1, hat10⟩
      obtain ⟨cl11, Ar11, q11, S11, Nn11, H11, G11⟩ := id V_aF
      have hin11 : ¬ (((v2 &&& (65535 : Int64)).toInt32) < 0 ∨ cl11.slots.size ≤ (((v2 &&& (65535 : Int64)).toInt32)).toNatClampNeg) := inb_of S11 (own_bkl (own_bk v2) (by decide))
      obtain ⟨T11, h11, X11, e11, W11, st11⟩ := stI X9 hx hZ e9 Ar11 (j := ((v2 &&& (65535 : Int64)).toInt32)) hin11 (g := (mkF m 53 #[.val (.ref kq), .val (.int en), .val (.int ((v2 &&& (65535 : Int64)).toInt32)), .unset] [(.int v10), (.int ((v2 &&& (65535 : Int64)).toInt32)), (.ref aF)])) rfl rfl (D d15_53)
      have V11 : Arp Z h11 aF kF .int (65536 : Int32) PI := Arp.set Ar11 q11 S11 Nn11 H11 (own_PI pi10) W11
      have N11 := Fr.snoc X11 N0 g_aF
      have Zn11 : n0 ≤ h11.size := Nat.le_trans (own_oldsz O0) (Keep.of_wr W11).1
      have K11 : Keep h0 h11 [kq, aB, aA, aI, aF, aO, aW] := (Keep.refl h0 [kq, aB, aA, aI, aF, aO, aW]).wr W11 (Or.inl (List.mem_of_getElem? (i := 4) rfl))
      have O11 := O0.wr W11 g_aF
      have cs12 : Steps p.tables e below (s₁.setTop (mkF m 0 #[.val (.ref kq), .val (.int en), .unset, .unset] [])) (T11.setTop (mkF m 54 #[.val (.ref kq), .val (.int en), .val (.int ((v2 &&& (65535 : Int64)).toInt32)), .unset] [])) := cs6.trans (by
        refine s_icmpYes X3 hx 42 (D d15_19) (teq hc7).1 (of_decide_eq_true rfl) rfl ?_
        refine s_aloadN X3 hx (D d15_42) rfl rfl ?_
        refine st8 _ ?_
        refine s_iloadN X8 hx (D d15_46) rfl ?_
        refine s_aloadN X8 hx (D d15_47) rfl rfl ?_
        refine st9 _ ?_
        refine s_iloadN X9 hx (D d15_51) rfl ?_
        refine X9.iaload hx (j := en) (v := (.int v10)) (by rw [e9]; exact (Ar10).1) (State.isArrayOf_alike hZ.alike (Ar10).2.1) (Ar10).2.2 hin10 hat10 (g := (mkF m 52 #[.val (.ref kq), .val (.int en), .val (.int ((v2 &&& (65535 : Int64)).toInt32)), .unset] [(.int en), (.ref aA), (.int ((v2 &&& (65535 : Int64)).toInt32)), (.ref aF)])) rfl rfl (D d15_52) _ ?_
        refine st11 _ ?_
        exact Steps.refl _)
      have f13 := (E_kq.wr W11)
      have f14 := (F_kq_keys.other W11 (Or.inl (ne0_1 NDp)))
      have f15 := (F_kq_before.other W11 (Or.inl (ne0_1 NDp)))
      have f16 := (F_kq_after.other W11 (Or.inl (ne0_1 NDp)))
      have f17 := (F_kq_inBucket.other W11 (Or.inl (ne0_1 NDp)))
      have f18 := (F_kq_firsts.other W11 (Or.inl (ne0_1 NDp)))
      have f19 := (F_kq_occupied.other W11 (Or.inl (ne0_1 NDp)))
      have f20 := (F_kq_occupiedWords.other W11 (Or.inl (ne0_1 NDp)))
      have f21 := (F_kq_further.other W11 (Or.inl (ne0_1 NDp)))
      have f22 := (F_kq_bucketed.other W11 (Or.inl (ne0_1 NDp)))
      have f23 := (F_kq_floor.other W11 (Or.inl (ne0_1 NDp)))
      have f24 := (V_aI.other W11 (ne7_1 NDp))
      have f25 := (V_aK.other W11 (ne4_1 NDp))
      have f26 := (V_aB.other W11 (ne5_1 NDp))
      have f27 := (V_aA.other W11 (ne6_1 NDp))
      have f28 := (V_aO.other W11 (ne2_1 NDp))
      have f29 := (V_aW.other W11 (ne3_1 NDp))
      exact ⟨T11, _, _, X11, e11, N11, K11, O11, f13, f14, f15, f16, f17, f18, f19, f20, f21, f22, f23, f24, f25, f26, f27, V11, f28, f29, cs12⟩
    · obtain ⟨T30, X30, e30, st30⟩ := getF X3 hx hZ hown (host := "") (Or.inl (wd 22 rfl)) Via.refl e3 F_kq_after (g := (mkF m 23 #[.val (.ref kq), .val (.int en), .val (.int ((v2 &&& (65535 : Int64)).toInt32)), .unset] [(.ref kq)])) rfl rfl (D d15_23)
      obtain ⟨T31, X31, e31, st31⟩ := getF X30 hx hZ hown (host := "") (Or.inl (wd 20 rfl)) Via.refl e30 F_kq_before (g := (mkF m 27 #[.val (.ref kq), .val (.int en), .val (.int ((v2 &&& (65535 : Int64)).toInt32)), .unset] [(.ref kq), (.ref aA)])) rfl rfl (D d15_27)
      obtain ⟨cl32, Ar32, q32, S32, Nn32, H32, -⟩ := id V_aB
      have hin32 : ¬ (en < 0 ∨ cl32.slots.size ≤ (en).toNatClampNeg) := inb_of S32 (own_in4 he)
      have hat32 : cl32.slots[(en).toNatClampNeg]? = some (.int v4) := Elt.at C4 Ar32.1
      obtain ⟨T33, X33, e33, st33⟩ := getF X31 hx hZ hown (host := "") (Or.inl (wd 22 rfl)) Via.refl e31 F_kq_after (g := (mkF m 33 #[.val (.ref kq), .val (.int en), .val (.int ((v2 &&& (65535 : Int64)).toInt32)), .unset] [(.ref kq), (.int v4), (.ref aA)])) rfl rfl (D d15_33)
      obtain ⟨cl34, Ar34, q34, S34, Nn34, H34, -⟩ := id V_aA
      have hin34 : ¬ (en < 0 ∨ cl34.slots.size ≤ (en).toNatClampNeg) := inb_of S34 (own_in4 he)
      obtain ⟨_, hat34, v34, rfl, pi34⟩ := Arp.get H34 hin34
      have C34 : Elt h0 aA (en).toNatClampNeg (.int v34) := ⟨cl34, Ar34.1, hat34⟩
      obtain ⟨cl35, Ar35, q35, S35, Nn35, H35, G35⟩ := id V_aA
      have hin35 : ¬ (v4 < 0 ∨ cl35.slots.size ≤ (v4).toNatClampNeg) := inb_of S35 (own_pi4 pi4 hc7)
      obtain ⟨T35, h35, X35, e35, W35, st35⟩ := stI X33 hx hZ e33 Ar35 (j := v4) hin35 (g := (mkF m 38 #[.val (.ref kq), .val (.int en), .val (.int ((v2 &&& (65535 : Int64)).toInt32)), .unset] [(.int v34), (.int v4), (.ref aA)])) rfl rfl (D d15_38)
      have V35 : Arp Z h35 aA kA .int (4 : Int32) PI := Arp.set Ar35 q35 S35 Nn35 H35 (own_PI pi34) W35
      have N35 := Fr.snoc X35 N0 g_aA
      have Zn35 : n0 ≤ h35.size := Nat.le_trans (own_oldsz O0) (Keep.of_wr W35).1
      have K35 : Keep h0 h35 [kq, aB, aA, aI, aF, aO, aW] := (Keep.refl h0 [kq, aB, aA, aI, aF, aO, aW]).wr W35 (Or.inl (List.mem_of_getElem? (i := 2) rfl))
      have O35 := O0.wr W35 g_aA
      have cs36 : Steps p.tables e below (s₁.setTop (mkF m 0 #[.val (.ref kq), .val (.int en), .unset, .unset] [])) (T35.setTop (mkF m 54 #[.val (.ref kq), .val (.int en), .val (.int ((v2 &&& (65535 : Int64)).toInt32)), .unset] [])) := cs6.trans (by
        refine s_icmpNo X3 hx (D d15_19) (feq hc7).1 ?_
        refine s_aloadN X3 hx (D d15_22) rfl rfl ?_
        refine st30 _ ?_
        refine s_aloadN X30 hx (D d15_26) rfl rfl ?_
        refine st31 _ ?_
        refine s_iloadN X31 hx (D d15_30) rfl ?_
        refine X31.iaload hx (j := en) (v := (.int v4)) (by rw [e31]; exact (Ar32).1) (State.isArrayOf_alike hZ.alike (Ar32).2.1) (Ar32).2.2 hin32 hat32 (g := (mkF m 31 #[.val (.ref kq), .val (.int en), .val (.int ((v2 &&& (65535 : Int64)).toInt32)), .unset] [(.int en), (.ref aB), (.ref aA)])) rfl rfl (D d15_31) _ ?_
        refine s_aloadN X31 hx (D d15_32) rfl rfl ?_
        refine st33 _ ?_
        refine s_iloadN X33 hx (D d15_36) rfl ?_
        refine X33.iaload hx (j := en) (v := (.int v34)) (by rw [e33]; exact (Ar34).1) (State.isArrayOf_alike hZ.alike (Ar34).2.1) (Ar34).2.2 hin34 hat34 (g := (mkF m 37 #[.val (.ref kq), .val (.int en), .val (.int ((v2 &&& (65535 : Int64)).toInt32)), .unset] [(.int en), (.ref aA), (.int v4), (.ref aA)])) rfl rfl (D d15_37) _ ?_
        refine st35 _ ?_
        refine s_goto X35 hx 54 (D d15_39) (of_decide_eq_true rfl) rfl ?_
        exact Steps.refl _)
      have f37 := (E_kq.wr W35)
      have f38 := (F_kq_keys.other W35 (Or.inl (ne0_6 NDp)))
      have f39 := (F_kq_before.other W35 (Or.inl (ne0_6 NDp)))
      have f40 := (F_kq_after.other W35 (Or.inl (ne0_6 NDp)))
      have f41 := (F_kq_inBucket.other W35 (Or.inl (ne0_6 NDp)))
      have f42 := (F_kq_firsts.other W35 (Or.inl (ne0_6 NDp)))
      have f43 := (F_kq_occupied.other W35 (Or.inl (ne0_6 NDp)))
      have f44 := (F_kq_occupiedWords.other W35 (Or.inl (ne0_6 NDp)))
      have f45 := (F_kq_further.other W35 (Or.inl (ne0_6 NDp)))
      have f46 := (F_kq_bucketed.other W35 (Or.inl (ne0_6 NDp)))
      have f47 := (F_kq_floor.other W35 (Or.inl (ne0_6 NDp)))
      have f48 := (V_aI.other W35 (ne7_6 NDp))
      have f49 := (V_aK.other W35 (ne4_6 NDp))
      have f50 := (V_aB.other W35 (ne5_6 NDp))
      have f51 := (V_aF.other W35 (ne1_6 NDp))
      have f52 := (V_aO.other W35 (ne2_6 NDp))
      have f53 := (V_aW.other W35 (ne3_6 NDp))
      exact ⟨T35, _, _, X35, e35, N35, K35, O35, f37, f38, f39, f40, f41, f42, f43, f44, f45, f46, f47, f48, f49, f50, V35, f51, f52, f53, cs36⟩
  obtain ⟨Tj5, Lj5, hj5, Xj5, ej5, Nj5, Kj5, Oj5, J5_0, J5_1, J5_2, J5_3, J5_4, J5_5, J5_6, J5_7, J5_8, J5_9, J5_10, J5_11, J5_12, J5_13, J5_14, J5_15, J5_16, J5_17, cj5⟩ := jn5
  obtain ⟨T54, X54, e54, st54⟩ := getF Xj5 hx hZ hown (host := "") (Or.inl (wd 22 rfl)) Via.refl ej5 J5_3 (g := (mkF m 55 #[.val (.ref kq), .val (.int en), .val (.int ((v2 &&& (65535 : Int64)).toInt32)), .unset] [(.ref kq)])) rfl rfl (D d15_55)
  obtain ⟨cl55, Ar55, q55, S55, Nn55, H55, -⟩ := id J5_14
  have hin55 : ¬ (en < 0 ∨ cl55.slots.size ≤ (en).toNatClampNeg) := inb_of S55 (own_in4 he)
  obtain ⟨_, hat55, v55, rfl, pi55⟩ := Arp.get H55 hin55
  have C55 : Elt hj5 aA (en).toNatClampNeg (.int v55) := ⟨cl55, Ar55.1, hat55⟩
  have cs57 : Steps p.tables e below (s₁.setTop (mkF m 0 #[.val (.ref kq), .val (.int en), .unset, .unset] [])) (T54.setTop (mkF m 61 #[.val (.ref kq), .val (.int en), .val (.int ((v2 &&& (65535 : Int64)).toInt32)), .unset] [(.int (-1 : Int32)), (.int v55)])) := cj5.trans (by
    refine s_aloadN Xj5 hx (D d15_54) rfl rfl ?_
    refine st54 _ ?_
    refine s_iloadN X54 hx (D d15_58) rfl ?_
    refine X54.iaload hx (j := en) (v := (.int v55)) (by rw [e54]; exact (Ar55).1) (State.isArrayOf_alike hZ.alike (Ar55).2.1) (Ar55).2.2 hin55 hat55 (g := (mkF m 59 #[.val (.ref kq), .val (.int en), .val (.int ((v2 &&& (65535 : Int64)).toInt32)), .unset] [(.int en), (.ref aA)])) rfl rfl (D d15_59) _ ?_
    refine s_iconst X54 hx (-1 : Int32) (D d15_60) rfl ?_
    exact Steps.refl _)
  have jn56 : ∃ (T : State) (L : List Loc) (h : Heap), Stand p l e ({ frames := 0, cells := 0, slots := 0, locals := 0 } : Room) s m #[(.ref kq), (.int en)] below meth c T L 0 0 ∧ T.heap = h ∧ Fr n0 L ∧ Keep h0 h [kq, aB, aA, aI, aF, aO, aW] ∧ Old Z n0 h ∧ Exa Z h kq "com/example/leasewise/leasewise/KilometreQueue" ∧ Fld Z h kq "com/example/leasewise/leasewise/KilometreQueue" "keys" "[J" (.ref aK) ∧ Fld Z h kq "com/example/leasewise/leasewise/KilometreQueue" "before" "[I" (.ref aB) ∧ Fld Z h kq "com/example/leasewise/leasewise/KilometreQueue" "after" "[I" (.ref aA) ∧ Fld Z h kq "com/example/leasewise/leasewise/KilometreQueue" "inBucket" "[Z" (.ref aI) ∧ Fld Z h kq "com/example/leasewise/leasewise/KilometreQueue" "firsts" "[I" (.ref aF) ∧ Fld Z h kq "com/example/leasewise/leasewise/KilometreQueue" "occupied" "[J" (.ref aO) ∧ Fld Z h kq "com/example/leasewise/leasewise/KilometreQueue" "occupiedWords" "[J" (.ref aW) ∧ Fld Z h kq "com/example/leasewise/leasewise/KilometreQueue" "further" "Lcom/example/leasewise/leasewise/IndexedHeap;" (.ref hp) ∧ Fld Z h kq "com/example/leasewise/leasewise/KilometreQueue" "bucketed" "I" (.int bk) ∧ Fld Z h kq "com/example/leasewise/leasewise/KilometreQueue" "floor" "J" (.long (0 : Int64)) ∧ Arv Z h aI kI .boolean (4 : Int32) [(.int ib0), (.int ib1), (.int ib2), (.int ib3)] (.int (0 : Int32)) ∧ Arp Z h aK kK .long (4 : Int32) PJ ∧ Arp Z h aB kB .int (4 : Int32) PI ∧ Arp Z h aA kA .int (4 : Int32) PI ∧ Arp Z h aF kF .int (65536 : Int32) PI ∧ Arp Z h aO kO .long (1024 : Int32) PJ ∧ Arp Z h aW kW .long (16 : Int32) PJ ∧ Steps p.tables e below (s₁.setTop (mkF m 0 #[.val (.ref kq), .val (.int en), .unset, .unset] [])) (T.setTop (mkF m 81 #[.val (.ref kq), .val (.int en), .val (.int ((v2 &&& (65535 : Int64)).toInt32)), .unset] [])) := by
    by_cases hc58 : v55 = (-1 : Int32)
    · have cs59 : Steps p.tables e below (s₁.setTop (mkF m 0 #[.val (.ref kq), .val (.int en), .unset, .unset] [])) (T54.setTop (mkF m 81 #[.val (.ref kq), .val (.int en), .val (.int ((v2 &&& (65535 : Int64)).toInt32)), .unset] [])) := cs57.trans (by
        refine s_icmpYes X54 hx 81 (D d15_61) (teq hc58).1 (of_decide_eq_true rfl) rfl ?_
        exact Steps.refl _)
      exact ⟨T54, _, _, X54, e54, Nj5, Kj5, Oj5, J5_0, J5_1, J5_2, J5_3, J5_4, J5_5, J5_6, J5_7, J5_8, J5_9, J5_10, J5_11, J5_12, J5_13, J5_14, J5_15, J5_16, J5_17, cs59⟩
    · obtain ⟨T60, X60, e60, st60⟩ := getF X54 hx hZ hown (host := "") (Or.inl (wd 20 rfl)) Via.refl e54 J5_2 (g := (mkF m 65 #[.val (.ref kq), .val (.int en), .val (.int ((v2 &&& (65535 : Int64)).toInt32)), .unset] [(.ref kq)])) rfl rfl (D d15_65)
      obtain ⟨T61, X61, e61, st61⟩ := getF X60 hx hZ hown (host := "") (Or.inl (wd 22 rfl)) Via.refl e60 J5_3 (g := (mkF m 69 #[.val (.ref kq), .val (.int en), .val (.int ((v2 &&& (65535 : Int64)).toInt32)), .unset] [(.ref kq), (.ref aB)])) rfl rfl (D d15_69)
      obtain ⟨cl62, Ar62, q62, S62, Nn62, H62, -⟩ := id J5_14
      have hin62 : ¬ (en < 0 ∨ cl62.slots.size ≤ (en).toNatClampNeg) := inb_of S62 (own_in4 he)
      have hat62 : cl62.slots[(en).toNatClampNeg]? = some (.int v55) := Elt.at C55 Ar62.1
      obtain ⟨T63, X63, e63, st63⟩ := getF X61 hx hZ hown (host := "") (Or.inl (wd 20 rfl)) Via.refl e61 J5_2 (g := (mkF m 75 #[.val (.ref kq), .val (.int en), .val (.int ((v2 &&& (65535 : Int64)).toInt32)), .unset] [(.ref kq), (.int v55), (.ref aB)])) rfl rfl (D d15_75)
      obtain ⟨cl64, Ar64, q64, S64, Nn64, H64, -⟩ := id J5_13
      have hin64 : ¬ (en < 0 ∨ cl64.slots.size ≤ (en).toNatClampNeg) := inb_of S64 (own_in4 he)
      obtain ⟨_, hat64, v64, rfl, pi64⟩ := Arp.get H64 hin64
      have C64 : Elt hj5 aB (en).toNatClampNeg (.int v64) := ⟨cl64, Ar64.1, hat64⟩
      obtain ⟨cl65, Ar65, q65, S65, Nn65, H65, G65⟩ := id J5_13
      have hin65 : ¬ (v55 < 0 ∨ cl65.slots.size ≤ (v55).toNatClampNeg) := inb_of S65 (own_pi4 pi55 hc58)
      obtain ⟨T65, h65, X65, e65, W65, st65⟩ := stI X63 hx hZ e63 Ar65 (j := v55) hin65 (g := (mkF m 80 #[.val (.ref kq), .val (.int en), .val (.int ((v2 &&& (65535 : Int64)).toInt32)), .unset] [(.int v64), (.int v55), (.ref aB)])) rfl rfl (D d15_80)
      have V65 : Arp Z h65 aB kB .int (4 : Int32) PI := Arp.set Ar65 q65 S65 Nn65 H65 (own_PI pi64) W65
      have N65 := Fr.snoc X65 Nj5 g_aB
      have Zn65 : n0 ≤ h65.size := Nat.le_trans (own_oldsz Oj5) (Keep.of_wr W65).1
      have K65 : Keep h0 h65 [kq, aB, aA, aI, aF, aO, aW] := Kj5.wr W65 (Or.inl (List.mem_of_getElem? (i := 1) rfl))
      have O65 := Oj5.wr W65 g_aB
      have cs66 : Steps p.tables e below (s₁.setTop (mkF m 0 #[.val (.ref kq), .val (.int en), .unset, .unset] [])) (T65.setTop (mkF m 81 #[.val (.ref kq), .val (.int en), .val (.int ((v2 &&& (65535 : Int64)).toInt32)), .unset] [])) := cs57.trans (by
        refine s_icmpNo X54 hx (D d15_61) (feq hc58).1 ?_
        refine s_aloadN X54 hx (D d15_64) rfl rfl ?_
        refine st60 _ ?_
        refine s_aloadN X60 hx (D d15_68) rfl rfl ?_
        refine st61 _ ?_
        refine s_iloadN X61 hx (D d15_72) rfl ?_
        refine X61.iaload hx (j := en) (v := (.int v55)) (by rw [e61]; exact (Ar62).1) (State.isArrayOf_alike hZ.alike (Ar62).2.1) (Ar62).2.2 hin62 hat62 (g := (mkF m 73 #[.val (.ref kq), .val (.int en), .val (.int ((v2 &&& (65535 : Int64)).toInt32)), .unset] [(.int en), (.ref aA), (.ref aB)])) rfl rfl (D d15_73) _ ?_
        refine s_aloadN X61 hx (D d15_74) rfl rfl ?_
        refine st63 _ ?_
        refine s_iloadN X63 hx (D d15_78) rfl ?_
        refine X63.iaload hx (j := en) (v := (.int v64)) (by rw [e63]; exact (Ar64).1) (State.isArrayOf_alike hZ.alike (Ar64).2.1) (Ar64).2.2 hin64 hat64 (g := (mkF m 79 #[.val (.ref kq), .val (.int en), .val (.int ((v2 &&& (65535 : Int64)).toInt32)), .unset] [(.int en), (.ref aB), (.int v55), (.ref aB)])) rfl rfl (D d15_79) _ ?_
        refine st65 _ ?_
        exact Steps.refl _)
      have f67 := (J5_0.wr W65)
      have f68 := (J5_1.other W65 (Or.inl (ne0_5 NDp)))
      have f69 := (J5_2.other W65 (Or.inl (ne0_5 NDp)))
      have f70 := (J5_3.other W65 (Or.inl (ne0_5 NDp)))
      have f71 := (J5_4.other W65 (Or.inl (ne0_5 NDp)))
      have f72 := (J5_5.other W65 (Or.inl (ne0_5 NDp)))
      have f73 := (J5_6.other W65 (Or.inl (ne0_5 NDp)))
      have f74 := (J5_7.other W65 (Or.inl (ne0_5 NDp)))
      have f75 := (J5_8.other W65 (Or.inl (ne0_5 NDp)))
      have f76 := (J5_9.other W65 (Or.inl (ne0_5 NDp)))
      have f77 := (J5_10.other W65 (Or.inl (ne0_5 NDp)))
      have f78 := (J5_11.other W65 (ne7_5 NDp))
      have f79 := (J5_12.other W65 (ne4_5 NDp))
      have f80 := (J5_14.other W65 (ne6_5 NDp))
      have f81 := (J5_15.other W65 (ne1_5 NDp))
      have f82 := (J5_16.other W65 (ne2_5 NDp))
      have f83 := (J5_17.other W65 (ne3_5 NDp))
      exact ⟨T65, _, _, X65, e65, N65, K65, O65, f67, f68, f69, f70, f71, f72, f73, f74, f75, f76, f77, f78, f79, V65, f80, f81, f82, f83, cs66⟩
  obtain ⟨Tj56, Lj56, hj56, Xj56, ej56, Nj56, Kj56, Oj56, J56_0, J56_1, J56_2, J56_3, J56_4, J56_5, J56_6, J56_7, J56_8, J56_9, J56_10, J56_11, J56_12, J56_13, J56_14, J56_15, J56_16, J56_17, cj56⟩ := jn56
  obtain ⟨T84, X84, e84, st84⟩ := getF Xj56 hx hZ hown (host := "") (Or.inl (wd 11 rfl)) Via.refl ej56 J56_5 (g := (mkF m 82 #[.val (.ref kq), .val (.int en), .val (.int ((v2 &&& (65535 : Int64)).toInt32)), .unset] [(.ref kq)])) rfl rfl (D d15_82)
  obtain ⟨cl85, Ar85, q85, S85, Nn85, H85, -⟩ := id J56_15
  have hin85 : ¬ (((v2 &&& (65535 : Int64)).toInt32) < 0 ∨ cl85.slots.size ≤ (((v2 &&& (65535 : Int64)).toInt32)).toNatClampNeg) := inb_of S85 (own_bkl (own_bk v2) (by decide))
  obtain ⟨_, hat85, v85, rfl, pi85⟩ := Arp.get H85 hin85
  have C85 : Elt hj56 aF (((v2 &&& (65535 : Int64)).toInt32)).toNatClampNeg (.int v85) := ⟨cl85, Ar85.1, hat85⟩
  have cs87 : Steps p.tables e below (s₁.setTop (mkF m 0 #[.val (.ref kq), .val (.int en), .unset, .unset] [])) (T84.setTop (mkF m 88 #[.val (.ref kq), .val (.int en), .val (.int ((v2 &&& (65535 : Int64)).toInt32)), .unset] [(.int (-1 : Int32)), (.int v85)])) := cj56.trans (by
    refine s_aloadN Xj56 hx (D d15_81) rfl rfl ?_
    refine st84 _ ?_
    refine s_iloadN X84 hx (D d15_85) rfl ?_
    refine X84.iaload hx (j := ((v2 &&& (65535 : Int64)).toInt32)) (v := (.int v85)) (by rw [e84]; exact (Ar85).1) (State.isArrayOf_alike hZ.alike (Ar85).2.1) (Ar85).2.2 hin85 hat85 (g := (mkF m 86 #[.val (.ref kq), .val (.int en), .val (.int ((v2 &&& (65535 : Int64)).toInt32)), .unset] [(.int ((v2 &&& (65535 : Int64)).toInt32)), (.ref aF)])) rfl rfl (D d15_86) _ ?_
    refine s_iconst X84 hx (-1 : Int32) (D d15_87) rfl ?_
    exact Steps.refl _)
  have jn86 : ∃ (zs3_86 : Slot) (T : State) (L : List Loc) (h : Heap), Stand p l e ({ frames := 0, cells := 0, slots := 0, locals := 0 } : Room) s m #[(.ref kq), (.int en)] below meth c T L 0 0 ∧ T.heap = h ∧ Fr n0 L ∧ Keep h0 h [kq, aB, aA, aI, aF, aO, aW] ∧ Old Z n0 h ∧ Exa Z h kq "com/example/leasewise/leasewise/KilometreQueue" ∧ Fld Z h kq "com/example/leasewise/leasewise/KilometreQueue" "keys" "[J" (.ref aK) ∧ Fld Z h kq "com/example/leasewise/leasewise/KilometreQueue" "before" "[I" (.ref aB) ∧ Fld Z h kq "com/example/leasewise/leasewise/KilometreQueue" "after" "[I" (.ref aA) ∧ Fld Z h kq "com/example/leasewise/leasewise/KilometreQueue" "inBucket" "[Z" (.ref aI) ∧ Fld Z h kq "com/example/leasewise/leasewise/KilometreQueue" "firsts" "[I" (.ref aF) ∧ Fld Z h kq "com/example/leasewise/leasewise/KilometreQueue" "occupied" "[J" (.ref aO) ∧ Fld Z h kq "com/example/leasewise/leasewise/KilometreQueue" "occupiedWords" "[J" (.ref aW) ∧ Fld Z h kq "com/example/leasewise/leasewise/KilometreQueue" "further" "Lcom/example/leasewise/leasewise/IndexedHeap;" (.ref hp) ∧ Fld Z h kq "com/example/leasewise/leasewise/KilometreQueue" "bucketed" "I" (.int bk) ∧ Fld Z h kq "com/example/leasewise/leasewise/KilometreQueue" "floor" "J" (.long (0 : Int64)) ∧ Arv Z h aI kI .boolean (4 : Int32) [(.int ib0), (.int ib1), (.int ib2), (.int ib3)] (.int (0 : Int32)) ∧ Arp Z h aK kK .long (4 : Int32) PJ ∧ Arp Z h aB kB .int (4 : Int32) PI ∧ Arp Z h aA kA .int (4 : Int32) PI ∧ Arp Z h aF kF .int (65536 : Int32) PI ∧ Arp Z h aO kO .long (1024 : Int32) PJ ∧ Arp Z h aW kW .long (16 : Int32) PJ ∧ Steps p.tables e below (s₁.setTop (mkF m 0 #[.val (.ref kq), .val (.int en), .unset, .unset] [])) (T.setTop (mkF m 148 #[.val (.ref kq), .val (.int en), .val (.int ((v2 &&& (65535 : Int64)).toInt32)), zs3_86] [])) := by
    by_cases hc88 : v85 = (-1 : Int32)
    · obtain ⟨T89, X89, e89, st89⟩ := getF X84 hx hZ hown (host := "") (Or.inl (wd 14 rfl)) Via.refl e84 J56_6 (g := (mkF m 97 #[.val (.ref kq), .val (.int en), .val (.int ((v2 &&& (65535 : Int64)).toInt32)), .val (.int (((v2 &&& (65535 : Int64)).toInt32) / (64 : Int32)))] [(.ref kq)])) rfl rfl (D d15_97)
      obtain ⟨cl90, Ar90, q90, S90, Nn90, H90, -⟩ := id J56_16
      have hin90 : ¬ ((((v2 &&& (65535 : Int64)).toInt32) / (64 : Int32)) < 0 ∨ cl90.slots.size ≤ ((((v2 &&& (65535 : Int64)).toInt32) / (64 : Int32))).toNatClampNeg) := inb_of S90 (own_bkl (own_div64 (n := 1024) (own_bk v2)) (by decide))
      obtain ⟨_, hat90, v90, rfl⟩ := Arp.get H90 hin90
      have C90 : Elt hj56 aO ((((v2 &&& (65535 : Int64)).toInt32) / (64 : Int32))).toNatClampNeg (.long v90) := ⟨cl90, Ar90.1, hat90⟩
      obtain ⟨cl91, Ar91, q91, S91, Nn91, H91, G91⟩ := id J56_16
      have hin91 : ¬ ((((v2 &&& (65535 : Int64)).toInt32) / (64 : Int32)) < 0 ∨ cl91.slots.size ≤ ((((v2 &&& (65535 : Int64)).toInt32) / (64 : Int32))).toNatClampNeg) := inb_of S91 (own_bkl (own_div64 (n := 1024) (own_bk v2)) (by decide))
      obtain ⟨T91, h91, X91, e91, W91, st91⟩ := stJ X89 hx hZ e89 Ar91 (j := (((v2 &&& (65535 : Int64)).toInt32) / (64 : Int32))) hin91 (g := (mkF m 114 #[.val (.ref kq), .val (.int en), .val (.int ((v2 &&& (65535 : Int64)).toInt32)), .val (.int (((v2 &&& (65535 : Int64)).toInt32) / (64 : Int32)))] [(.long (v90 &&& (((1 : Int64) <<< ((((v2 &&& (65535 : Int64)).toInt32) % (64 : Int32)) &&& 0x3f).toInt64) ^^^ (-1 : Int64)))), (.int (((v2 &&& (65535 : Int64)).toInt32) / (64 : Int32))), (.ref aO)])) rfl rfl (D d15_114)
      have V91 : Arp Z h91 aO kO .long (1024 : Int32) PJ := Arp.set Ar91 q91 S91 Nn91 H91 (own_PJ _) W91
      have N91 := Fr.snoc X91 Nj56 g_aO
      have Zn91 : n0 ≤ h91.size := Nat.le_trans (own_oldsz Oj56) (Keep.of_wr W91).1
      have K91 : Keep h0 h91 [kq, aB, aA, aI, aF, aO, aW] := Kj56.wr W91 (Or.inl (List.mem_of_getElem? (i := 5) rfl))
      have O91 := Oj56.wr W91 g_aO
      have f92 := (J56_6.other W91 (Or.inl (ne0_2 NDp)))
      obtain ⟨T93, X93, e93, st93⟩ := getF X91 hx hZ hown (host := "") (Or.inl (wd 14 rfl)) Via.refl e91 f92 (g := (mkF m 116 #[.val (.ref kq), .val (.int en), .val (.int ((v2 &&& (65535 : Int64)).toInt32)), .val (.int (((v2 &&& (65535 : Int64)).toInt32) / (64 : Int32)))] [(.ref kq)])) rfl rfl (D d15_116)
      obtain ⟨cl94, Ar94, q94, S94, Nn94, H94, -⟩ := id V91
      have hin94 : ¬ ((((v2 &&& (65535 : Int64)).toInt32) / (64 : Int32)) < 0 ∨ cl94.slots.size ≤ ((((v2 &&& (65535 : Int64)).toInt32) / (64 : Int32))).toNatClampNeg) := inb_of S94 (own_bkl (own_div64 (n := 1024) (own_bk v2)) (by decide))
      obtain ⟨_, hat94, v94, rfl⟩ := Arp.get H94 hin94
      have C94 : Elt h91 aO ((((v2 &&& (65535 : Int64)).toInt32) / (64 : Int32))).toNatClampNeg (.long v94) := ⟨cl94, Ar94.1, hat94⟩
      have cs95 : Steps p.tables e below (s₁.setTop (mkF m 0 #[.val (.ref kq), .val (.int en), .unset, .unset] [])) (T93.setTop (mkF m 123 #[.val (.ref kq), .val (.int en), .val (.int ((v2 &&& (65535 : Int64)).toInt32)), .val (.int (((v2 &&& (65535 : Int64)).toInt32) / (64 : Int32)))] [(.int (lcmpW v94 (0 : Int64)))])) := cs87.trans (by
        refine s_icmpNo X84 hx (D d15_88) (teq hc88).2 ?_
        refine s_iloadN X84 hx (D d15_91) rfl ?_
        refine s_bipush X84 hx (64 : Int32) (D d15_92) rfl ?_
        refine s_idiv X84 hx (D d15_94) (by decide) rfl ?_
        refine s_istoreN X84 hx (D d15_95) (l' := #[.val (.ref kq), .val (.int en), .val (.int ((v2 &&& (65535 : Int64)).toInt32)), .val (.int (((v2 &&& (65535 : Int64)).toInt32) / (64 : Int32)))]) rfl ?_
        refine s_aloadN X84 hx (D d15_96) rfl rfl ?_
        refine st89 _ ?_
        refine s_iloadN X89 hx (D d15_100) rfl ?_
        refine s_dup2 X89 hx (D d15_101) rfl rfl ?_
        refine X89.laload hx (j := (((v2 &&& (65535 : Int64)).toInt32) / (64 : Int32))) (v := (.long v90)) (by rw [e89]; exact (Ar90).1) (State.isArrayOf_alike hZ.alike (Ar90).2.1) (Ar90).2.2 hin90 hat90 (g := (mkF m 102 #[.val (.ref kq), .val (.int en), .val (.int ((v2 &&& (65535 : Int64)).toInt32)), .val (.int (((v2 &&& (65535 : Int64)).toInt32) / (64 : Int32)))] [(.int (((v2 &&& (65535 : Int64)).toInt32) / (64 : Int32))), (.ref aO), (.int (((v2 &&& (65535 : Int64)).toInt32) / (64 : Int32))), (.ref aO)])) rfl rfl (D d15_102) _ ?_
        refine s_lconst X89 hx (1 : Int64) (D d15_103) rfl ?_
        refine s_iloadN X89 hx (D d15_104) rfl ?_
        refine s_bipush X89 hx (64 : Int32) (D d15_105) rfl ?_
        refine s_irem X89 hx (D d15_107) (by decide) rfl ?_
        refine s_lshl X89 hx (D d15_108) rfl ?_
        refine X89.ldc2Long hx hown (mvT hZ (wd 114 rfl)) (g := (mkF m 109 #[.val (.ref kq), .val (.int en), .val (.int ((v2 &&& (65535 : Int64)).toInt32)), .val (.int (((v2 &&& (65535 : Int64)).toInt32) / (64 : Int32)))] [(.long ((1 : Int64) <<< ((((v2 &&& (65535 : Int64)).toInt32) % (64 : Int32)) &&& 0x3f).toInt64)), (.long v90), (.int (((v2 &&& (65535 : Int64)).toInt32) / (64 : Int32))), (.ref aO)])) rfl (D d15_109) _ ?_
        refine s_lxor X89 hx (D d15_112) rfl ?_
        refine s_land X89 hx (D d15_113) rfl ?_
        refine st91 _ ?_
        refine s_aloadN X91 hx (D d15_115) rfl rfl ?_
        refine st93 _ ?_
        refine s_iloadN X93 hx (D d15_119) rfl ?_
        refine X93.laload hx (j := (((v2 &&& (65535 : Int64)).toInt32) / (64 : Int32))) (v := (.long v94)) (by rw [e93]; exact (Ar94).1) (State.isArrayOf_alike hZ.alike (Ar94).2.1) (Ar94).2.2 hin94 hat94 (g := (mkF m 120 #[.val (.ref kq), .val (.int en), .val (.int ((v2 &&& (65535 : Int64)).toInt32)), .val (.int (((v2 &&& (65535 : Int64)).toInt32) / (64 : Int32)))] [(.int (((v2 &&& (65535 : Int64)).toInt32) / (64 : Int32))), (.ref aO)])) rfl rfl (D d15_120) _ ?_
        refine s_lconst X93 hx (0 : Int64) (D d15_121) rfl ?_
        refine s_lcmp X93 hx (D d15_122) rfl ?_
        exact Steps.refl _)
      by_cases hc96 : (lcmpW v94 (0 : Int64)) = (0 : Int32)
      · have f97 := (J56_7.other W91 (Or.inl (ne0_2 NDp)))
        obtain ⟨T98, X98, e98, st98⟩ := getF X93 hx hZ hown (host := "") (Or.inl (wd 16 rfl)) Via.refl e93 f97 (g := (mkF m 127 #[.val (.ref kq), .val (.int en), .val (.int ((v2 &&& (65535 : Int64)).toInt32)), .val (.int (((v2 &&& (65535 : Int64)).toInt32) / (64 : Int32)))] [(.ref kq)])) rfl rfl (D d15_127)
        have f100 := (J56_17.other W91 (ne3_2 NDp))
        obtain ⟨cl99, Ar99, q99, S99, Nn99, H99, -⟩ := id f100
        have hin99 : ¬ (((((v2 &&& (65535 : Int64)).toInt32) / (64 : Int32)) / (64 : Int32)) < 0 ∨ cl99.slots.size ≤ (((((v2 &&& (65535 : Int64)).toInt32) / (64 : Int32)) / (64 : Int32))).toNatClampNeg) := inb_of S99 (own_bkl (own_div64 (n := 16) (own_div64 (n := 1024) (own_bk v2))) (by decide))
        obtain ⟨_, hat99, v99, rfl⟩ := Arp.get H99 hin99
        have C99 : Elt h91 aW (((((v2 &&& (65535 : Int64)).toInt32) / (64 : Int32)) / (64 : Int32))).toNatClampNeg (.long v99) := ⟨cl99, Ar99.1, hat99⟩
        obtain ⟨cl101, Ar101, q101, S101, Nn101, H101, G101⟩ := id f100
        have hin101 : ¬ (((((v2 &&& (65535 : Int64)).toInt32) / (64 : Int32)) / (64 : Int32)) < 0 ∨ cl101.slots.size ≤ (((((v2 &&& (65535 : Int64)).toInt32) / (64 : Int32)) / (64 : Int32))).toNatClampNeg) := inb_of S101 (own_bkl (own_div64 (n := 16) (own_div64 (n := 1024) (own_bk v2))) (by decide))
        obtain ⟨T101, h101, X101, e101, W101, st101⟩ := stJ X98 hx hZ e98 Ar101 (j := ((((v2 &&& (65535 : Int64)).toInt32) / (64 : Int32)) / (64 : Int32))) hin101 (g := (mkF m 147 #[.val (.ref kq), .val (.int en), .val (.int ((v2 &&& (65535 : Int64)).toInt32)), .val (.int (((v2 &&& (65535 : Int64)).toInt32) / (64 : Int32)))] [(.long (v99 &&& (((1 : Int64) <<< (((((v2 &&& (65535 : Int64)).toInt32) / (64 : Int32)) % (64 : Int32)) &&& 0x3f).toInt64) ^^^ (-1 : Int64)))), (.int ((((v2 &&& (65535 : Int64)).toInt32) / (64 : Int32)) / (64 : Int32))), (.ref aW)])) rfl rfl (D d15_147)
        have V101 : Arp Z h101 aW kW .long (16 : Int32) PJ := Arp.set Ar101 q101 S101 Nn101 H101 (own_PJ _) W101
        have N101 := Fr.snoc X101 N91 g_aW
        have Zn101 : n0 ≤ h101.size := Nat.le_trans Zn91 (Keep.of_wr W101).1
        have K101 : Keep h0 h101 [kq, aB, aA, aI, aF, aO, aW] := K91.wr W101 (Or.inl (List.mem_of_getElem? (i := 6) rfl))
        have O101 := O91.wr W101 g_aW
        have cs102 : Steps p.tables e below (s₁.setTop (mkF m 0 #[.val (.ref kq), .val (.int en), .unset, .unset] [])) (T101.setTop (mkF m 148 #[.val (.ref kq), .val (.int en), .val (.int ((v2 &&& (65535 : Int64)).toInt32)), .val (.int (((v2 &&& (65535 : Int64)).toInt32) / (64 : Int32)))] [])) := cs95.trans (by
          refine s_ifNo X93 hx (D d15_123) ((if0 _ _).trans (teq hc96).2) ?_
          refine s_aloadN X93 hx (D d15_126) rfl rfl ?_
          refine st98 _ ?_
          refine s_iloadN X98 hx (D d15_130) rfl ?_
          refine s_bipush X98 hx (64 : Int32) (D d15_131) rfl ?_
          refine s_idiv X98 hx (D d15_133) (by decide) rfl ?_
          refine s_dup2 X98 hx (D d15_134) rfl rfl ?_
          refine X98.laload hx (j := ((((v2 &&& (65535 : Int64)).toInt32) / (64 : Int32)) / (64 : Int32))) (v := (.long v99)) (by rw [e98]; exact (Ar99).1) (State.isArrayOf_alike hZ.alike (Ar99).2.1) (Ar99).2.2 hin99 hat99 (g := (mkF m 135 #[.val (.ref kq), .val (.int en), .val (.int ((v2 &&& (65535 : Int64)).toInt32)), .val (.int (((v2 &&& (65535 : Int64)).toInt32) / (64 : Int32)))] [(.int ((((v2 &&& (65535 : Int64)).toInt32) / (64 : Int32)) / (64 : Int32))), (.ref aW), (.int ((((v2 &&& (65535 : Int64)).toInt32) / (64 : Int32)) / (64 : Int32))), (.ref aW)])) rfl rfl (D d15_135) _ ?_
          refine s_lconst X98 hx (1 : Int64) (D d15_136) rfl ?_
          refine s_iloadN X98 hx (D d15_137) rfl ?_
          refine s_bipush X98 hx (64 : Int32) (D d15_138) rfl ?_
          refine s_irem X98 hx (D d15_140) (by decide) rfl ?_
          refine s_lshl X98 hx (D d15_141) rfl ?_
          refine X98.ldc2Long hx hown (mvT hZ (wd 114 rfl)) (g := (mkF m 142 #[.val (.ref kq), .val (.int en), .val (.int ((v2 &&& (65535 : Int64)).toInt32)), .val (.int (((v2 &&& (65535 : Int64)).toInt32) / (64 : Int32)))] [(.long ((1 : Int64) <<< (((((v2 &&& (65535 : Int64)).toInt32) / (64 : Int32)) % (64 : Int32)) &&& 0x3f).toInt64)), (.long v99), (.int ((((v2 &&& (65535 : Int64)).toInt32) / (64 : Int32)) / (64 : Int32))), (.ref aW)])) rfl (D d15_142) _ ?_
          refine s_lxor X98 hx (D d15_145) rfl ?_
          refine s_land X98 hx (D d15_146) rfl ?_
          refine st101 _ ?_
          exact Steps.refl _)
        have f103 := ((J56_0.wr W91).wr W101)
        have f104 := ((J56_1.other W91 (Or.inl (ne0_2 NDp))).other W101 (Or.inl (ne0_3 NDp)))
        have f105 := ((J56_2.other W91 (Or.inl (ne0_2 NDp))).other W101 (Or.inl (ne0_3 NDp)))
        have f106 := ((J56_3.other W91 (Or.inl (ne0_2 NDp))).other W101 (Or.inl (ne0_3 NDp)))
        have f107 := ((J56_4.other W91 (Or.inl (ne0_2 NDp))).other W101 (Or.inl (ne0_3 NDp)))
        have f108 := ((J56_5.other W91 (Or.inl (ne0_2 NDp))).other W101 (Or.inl (ne0_3 NDp)))
        have f109 := (f92.other W101 (Or.inl (ne0_3 NDp)))
        have f110 := (f97.other W101 (Or.inl (ne0_3 NDp)))
        have f111 := ((J56_8.other W91 (Or.inl (ne0_2 NDp))).other W101 (Or.inl (ne0_3 NDp)))
        have f112 := ((J56_9.other W91 (Or.inl (ne0_2 NDp))).other W101 (Or.inl (ne0_3 NDp)))
        have f113 := ((J56_10.other W91 (Or.inl (ne0_2 NDp))).other W101 (Or.inl (ne0_3 NDp)))
        have f114 := ((J56_11.other W91 (ne7_2 NDp)).other W101 (ne7_3 NDp))
        have f115 := ((J56_12.other W91 (ne4_2 NDp)).other W101 (ne4_3 NDp))
        have f116 := ((J56_13.other W91 (ne5_2 NDp)).other W101 (ne5_3 NDp))
        have f117 := ((J56_14.other W91 (ne6_2 NDp)).other W101 (ne6_3 NDp))
        have f118 := ((J56_15.other W91 (ne1_2 NDp)).other W101 (ne1_3 NDp))
        have f119 := (V91.other W101 (ne2_3 NDp))
        exact ⟨_, T101, _, _, X101, e101, N101, K101, O101, f103, f104, f105, f106, f107, f108, f109, f110, f111, f112, f113, f114, f115, f116, f117, f118, f119, V101, cs102⟩
      · have cs120 : Steps p.tables e below (s₁.setTop (mkF m 0 #[.val (.ref kq), .val (.int en), .unset, .unset] [])) (T93.setTop (mkF m 148 #[.val (.ref kq), .val (.int en), .val (.int ((v2 &&& (65535 : Int64)).toInt32)), .val (.int (((v2 &&& (65535 : Int64)).toInt32) / (64 : Int32)))] [])) := cs95.trans (by
          refine s_ifYes X93 hx 148 (D d15_123) ((if0 _ _).trans (feq hc96).2) (of_decide_eq_true rfl) rfl ?_
          exact Steps.refl _)
        have f121 := (J56_0.wr W91)
        have f122 := (J56_1.other W91 (Or.inl (ne0_2 NDp)))
        have f123 := (J56_2.other W91 (Or.inl (ne0_2 NDp)))
        have f124 := (J56_3.other W91 (Or.inl (ne0_2 NDp)))
        have f125 := (J56_4.other W91 (Or.inl (ne0_2 NDp)))
        have f126 := (J56_5.other W91 (Or.inl (ne0_2 NDp)))
        have f127 := (J56_7.other W91 (Or.inl (ne0_2 NDp)))
        have f128 := (J56_8.other W91 (Or.inl (ne0_2 NDp)))
        have f129 := (J56_9.other W91 (Or.inl (ne0_2 NDp)))
        have f130 := (J56_10.other W91 (Or.inl (ne0_2 NDp)))
        have f131 := (J56_11.other W91 (ne7_2 NDp))
        have f132 := (J56_12.other W91 (ne4_2 NDp))
        have f133 := (J56_13.other W91 (ne5_2 NDp))
        have f134 := (J56_14.other W91 (ne6_2 NDp))
        have f135 := (J56_15.other W91 (ne1_2 NDp))
        have f136 := (J56_17.other W91 (ne3_2 NDp))
        exact ⟨_, T93, _, _, X93, e93, N91, K91, O91, f121, f122, f123, f124, f125, f126, f92, f127, f128, f129, f130, f131, f132, f133, f134, f135, V91, f136, cs120⟩
    · have cs137 : Steps p.tables e below (s₁.setTop (mkF m 0 #[.val (.ref kq), .val (.int en), .unset, .unset] [])) (T84.setTop (mkF m 148 #[.val (.ref kq), .val (.int en), .val (.int ((v2 &&& (65535 : Int64)).toInt32)), .unset] [])) := cs87.trans (by
        refine s_icmpYes X84 hx 148 (D d15_88) (feq hc88).2 (of_decide_eq_true rfl) rfl ?_
        exact Steps.refl _)
      exact ⟨_, T84, _, _, X84, e84, Nj56, Kj56, Oj56, J56_0, J56_1, J56_2, J56_3, J56_4, J56_5, J56_6, J56_7, J56_8, J56_9, J56_10, J56_11, J56_12, J56_13, J56_14, J56_15, J56_16, J56_17, cs137⟩
  obtain ⟨zs3_86, Tj86, Lj86, hj86, Xj86, ej86, Nj86, Kj86, Oj86, J86_0, J86_1, J86_2, J86_3, J86_4, J86_5, J86_6, J86_7, J86_8, J86_9, J86_10, J86_11, J86_12, J86_13, J86_14, J86_15, J86_16, J86_17, cj86⟩ := jn86
  obtain ⟨T138, X138, e138, st138⟩ := getF Xj86 hx hZ hown (host := "") (Or.inl (wd 25 rfl)) Via.refl ej86 J86_4 (g := (mkF m 149 #[.val (.ref kq), .val (.int en), .val (.int ((v2 &&& (65535 : Int64)).toInt32)), zs3_86] [(.ref kq)])) rfl rfl (D d15_149)
  obtain ⟨cl139, Ar139, q139, S139, Nn139, H139, G139⟩ := id J86_11
  have hin139 : ¬ (en < 0 ∨ cl139.slots.size ≤ (en).toNatClampNeg) := inb_of S139 (own_in4 he)
  obtain ⟨T139, h139, X139, e139, W139, st139⟩ := stZ X138 hx hZ e138 Ar139 (j := en) hin139 (g := (mkF m 154 #[.val (.ref kq), .val (.int en), .val (.int ((v2 &&& (65535 : Int64)).toInt32)), zs3_86] [(.int (0 : Int32)), (.int en), (.ref aI)])) rfl rfl (D d15_154)
  have V139 : Arv Z h139 aI kI .boolean (4 : Int32) [(.int (s4 en 0 (0 : Int32) ib0)), (.int (s4 en 1 (0 : Int32) ib1)), (.int (s4 en 2 (0 : Int32) ib2)), (.int (s4 en 3 (0 : Int32) ib3))] (.int (0 : Int32)) := own_set4 (w := (0 : Int32)) Ar139 q139 S139 Nn139 H139 G139 rfl W139 he
  have N139 := Fr.snoc X139 Nj86 g_aI
  have Zn139 : n0 ≤ h139.size := Nat.le_trans (own_oldsz Oj86) (Keep.of_wr W139).1
  have K139 : Keep h0 h139 [kq, aB, aA, aI, aF, aO, aW] := Kj86.wr W139 (Or.inl (List.mem_of_getElem? (i := 3) rfl))
  have O139 := Oj86.wr W139 g_aI
  have f140 := (J86_9.other W139 (Or.inl (ne0_7 NDp)))
  obtain ⟨T141, X141, e141, st141⟩ := getF X139 hx hZ hown (host := "") (Or.inl (wd 108 rfl)) Via.refl e139 f140 (g := (mkF m 157 #[.val (.ref kq), .val (.int en), .val (.int ((v2 &&& (65535 : Int64)).toInt32)), zs3_86] [(.ref kq), (.ref kq)])) rfl rfl (D d15_157)
  have f143 := (J86_0.wr W139)
  obtain ⟨T142, h142, X142, e142, W142, st142⟩ := putF X141 hx hZ hown (host := "") (Or.inl (wd 108 rfl)) Via.refl e141 f140 f143 (Or.inl (wd 109 rfl)) (wd 1 rfl) (ty := .int) (by decide) rfl rfl (g := (mkF m 162 #[.val (.ref kq), .val (.int en), .val (.int ((v2 &&& (65535 : Int64)).toInt32)), zs3_86] [(.int (bk - (1 : Int32))), (.ref kq)])) rfl rfl (D d15_162)
  have Fw142 : Fld Z h142 kq "com/example/leasewise/leasewise/KilometreQueue" "bucketed" "I" (.int (bk - (1 : Int32))) := Fld.same W142 f140
  have N142 := Fr.snoc X142 N139 g_kq
  have Zn142 : n0 ≤ h142.size := Nat.le_trans Zn139 (Keep.of_wr W142).1
  have K142 : Keep h0 h142 [kq, aB, aA, aI, aF, aO, aW] := K139.wr W142 (Or.inl (List.mem_of_getElem? (i := 0) rfl))
  have O142 := O139.wr W142 g_kq
  have f144 := ((J86_1.other W139 (Or.inl (ne0_7 NDp))).other W142 (Or.inr (slot_ne (Or.inr (wd 19 rfl)) (Or.inl (wd 109 rfl)) (by decide) (t := (.array .long)) (t' := .int) (by decide) (by decide))))
  have f145 := ((J86_2.other W139 (Or.inl (ne0_7 NDp))).other W142 (Or.inr (slot_ne (Or.inr (wd 21 rfl)) (Or.inl (wd 109 rfl)) (by decide) (t := (.array .int)) (t' := .int) (by decide) (by decide))))
  have f146 := ((J86_3.other W139 (Or.inl (ne0_7 NDp))).other W142 (Or.inr (slot_ne (Or.inr (wd 23 rfl)) (Or.inl (wd 109 rfl)) (by decide) (t := (.array .int)) (t' := .int) (by decide) (by decide))))
  have f147 := ((J86_4.other W139 (Or.inl (ne0_7 NDp))).other W142 (Or.inr (slot_ne (Or.inr (wd 26 rfl)) (Or.inl (wd 109 rfl)) (by decide) (t := (.array .boolean)) (t' := .int) (by decide) (by decide))))
  have f148 := ((J86_5.other W139 (Or.inl (ne0_7 NDp))).other W142 (Or.inr (slot_ne (Or.inr (wd 12 rfl)) (Or.inl (wd 109 rfl)) (by decide) (t := (.array .int)) (t' := .int) (by decide) (by decide))))
  have f149 := ((J86_6.other W139 (Or.inl (ne0_7 NDp))).other W142 (Or.inr (slot_ne (Or.inr (wd 15 rfl)) (Or.inl (wd 109 rfl)) (by decide) (t := (.array .long)) (t' := .int) (by decide) (by decide))))
  have f150 := ((J86_7.other W139 (Or.inl (ne0_7 NDp))).other W142 (Or.inr (slot_ne (Or.inr (wd 17 rfl)) (Or.inl (wd 109 rfl)) (by decide) (t := (.array .long)) (t' := .int) (by decide) (by decide))))
  have f151 := ((J86_8.other W139 (Or.inl (ne0_7 NDp))).other W142 (Or.inr (slot_ne (Or.inr (wd 50 rfl)) (Or.inl (wd 109 rfl)) (by decide) (t := (.object "com/example/leasewise/leasewise/IndexedHeap")) (t' := .int) (by decide) (by decide))))
  have f152 := ((J86_10.other W139 (Or.inl (ne0_7 NDp))).other W142 (Or.inr (slot_ne (Or.inl (wd 68 rfl)) (Or.inl (wd 109 rfl)) (by decide) (t := .long) (t' := .int) (by decide) (by decide))))
  have f153 := ((J86_13.other W139 (ne5_7 NDp)).other W142 (ne5_0 NDp))
  have f154 := ((J86_14.other W139 (ne6_7 NDp)).other W142 (ne6_0 NDp))
  have f155 := (V139.other W142 (ne7_0 NDp))
  have f156 := ((J86_15.other W139 (ne1_7 NDp)).other W142 (ne1_0 NDp))
  have f157 := ((J86_16.other W139 (ne2_7 NDp)).other W142 (ne2_0 NDp))
  have f158 := ((J86_17.other W139 (ne3_7 NDp)).other W142 (ne3_0 NDp))
  obtain ⟨fs, hr, hrun, hended, hW, hsame⟩ := X142.leave (v := none) (fun _ => rfl)
  refine ⟨_, _, pre0 _ ?_, hrun, hended, _, _, rfl, ?_, ⟨_, rfl⟩, hW, hsame.mono (by decide) (by decide)⟩
  · refine cj86.trans ?_
    refine s_aloadN Xj86 hx (D d15_148) rfl rfl ?_
    refine st138 _ ?_
    refine s_iloadN X138 hx (D d15_152) rfl ?_
    refine s_iconst X138 hx (0 : Int32) (D d15_153) rfl ?_
    refine st139 _ ?_
    refine s_aloadN X139 hx (D d15_155) rfl rfl ?_
    refine s_dup X139 hx (D d15_156) rfl ?_
    refine st141 _ ?_
    refine s_iconst X141 hx (1 : Int32) (D d15_160) rfl ?_
    refine s_isub X141 hx (D d15_161) rfl ?_
    refine st142 _ ?_
    exact X142.returnOut hx Bd.returns (D d15_165) hr
  · show Q_rm_kunlink Z kq en aF aO aW aK aB aA aI hp lo aE aP kK kB kA kI kF kO kW bk ib0 ib1 ib2 ib3 h0 n0 _ T142.heap _
    rw [e142]
    exact ⟨(bk - (1 : Int32)), rfl, N142, K142, f144, f145, f146, f147, f148, f149, f150, f151, Fw142, f152, f153, f154, f155, f156, f157, f158⟩
theorem d8_0 : decode prog_39_method_6_code 0 = .ok (.aload_n 0, 1) := by decide +kernel
theorem d8_1 : decode prog_39_method_6_code 1 = .ok (.getfield 32, 3) := by decide +kernel
theorem d8_4 : decode prog_39_method_6_code 4 = .ok (.iload_n 1, 1) := by decide +kernel
theorem d8_5 : decode prog_39_method_6_code 5 = .ok (.baload, 1) := by decide +kernel
theorem d8_6 : decode prog_39_method_6_code 6 = .ok (.ifCond .eq 11, 3) := by decide +kernel
theorem d8_9 : decode prog_39_method_6_code 9 = .ok (.aload_n 0, 1) := by decide +kernel
theorem d8_10 : decode prog_39_method_6_code 10 = .ok (.iload_n 1, 1) := by decide +kernel
theorem d8_11 : decode prog_39_method_6_code 11 = .ok (.invokevirtual 91, 3) := by decide +kernel
theorem d8_14 : decode prog_39_method_6_code 14 = .ok (.goto 11, 3) := by decide +kernel
theorem d8_17 : decode prog_39_method_6_code 17 = .ok (.aload_n 0, 1) := by decide +kernel
theorem d8_18 : decode prog_39_method_6_code 18 = .ok (.getfield 50, 3) := by decide +kernel
theorem d8_21 : decode prog_39_method_6_code 21 = .ok (.iload_n 1, 1) := by decide +kernel
theorem d8_22 : decode prog_39_method_6_code 22 = .ok (.invokevirtual 94, 3) := by decide +kernel
theorem d8_25 : decode prog_39_method_6_code 25 = .ok (.return_, 1) := by decide +kernel
theorem nn66 {kq aF aO aW aK aB aA aI hp lo aE aP : Addr} (h : List.Nodup [kq, aF, aO, aW, aK, aB, aA, aI, hp, lo, aE, aP]) : kq ∉ [hp, aE, aP] := own_nin h 0 [8, 10, 11] rfl rfl (by decide)
theorem nn67 {kq aF aO aW aK aB aA aI hp lo aE aP : Addr} (h : List.Nodup [kq, aF, aO, aW, aK, aB, aA, aI, hp, lo, aE, aP]) : aB ∉ [hp, aE, aP] := own_nin h 5 [8, 10, 11] rfl rfl (by decide)
theorem nn68 {kq aF aO aW aK aB aA aI hp lo aE aP : Addr} (h : List.Nodup [kq, aF, aO, aW, aK, aB, aA, aI, hp, lo, aE, aP]) : aA ∉ [hp, aE, aP] := own_nin h 6 [8, 10, 11] rfl rfl (by decide)
theorem nn69 {kq aF aO aW aK aB aA aI hp lo aE aP : Addr} (h : List.Nodup [kq, aF, aO, aW, aK, aB, aA, aI, hp, lo, aE, aP]) : aI ∉ [hp, aE, aP] := own_nin h 7 [8, 10, 11] rfl rfl (by decide)
theorem nn70 {kq aF aO aW aK aB aA aI hp lo aE aP : Addr} (h : List.Nodup [kq, aF, aO, aW, aK, aB, aA, aI, hp, lo, aE, aP]) : aF ∉ [hp, aE, aP] := own_nin h 1 [8, 10, 11] rfl rfl (by decide)
theorem nn71 {kq aF aO aW aK aB aA aI hp lo aE aP : Addr} (h : List.Nodup [kq, aF, aO, aW, aK, aB, aA, aI, hp, lo, aE, aP]) : aO ∉ [hp, aE, aP] := own_nin h 2 [8, 10, 11] rfl rfl (by decide)
theorem nn72 {kq aF aO aW aK aB aA aI hp lo aE aP : Addr} (h : List.Nodup [kq, aF, aO, aW, aK, aB, aA, aI, hp, lo, aE, aP]) : aW ∉ [hp, aE, aP] := own_nin h 3 [8, 10, 11] rfl rfl (by decide)
theorem nn73 {kq aF aO aW aK aB aA aI hp lo aE aP : Addr} (h : List.Nodup [kq, aF, aO, aW, aK, aB, aA, aI, hp, lo, aE, aP]) : hp ∉ [kq, aB, aA, aI, aF, aO, aW] := own_nin h 8 [0, 5, 6, 7, 1, 2, 3] rfl rfl (by decide)
theorem nn74 {kq aF aO aW aK aB aA aI hp lo aE aP : Addr} (h : List.Nodup [kq, aF, aO, aW, aK, aB, aA, aI, hp, lo, aE, aP]) : aE ∉ [kq, aB, aA, aI, aF, aO, aW] := own_nin h 10 [0, 5, 6, 7, 1, 2, 3] rfl rfl (by decide)
theorem nn75 {kq aF aO aW aK aB aA aI hp lo aE aP : Addr} (h : List.Nodup [kq, aF, aO, aW, aK, aB, aA, aI, hp, lo, aE, aP]) : aP ∉ [kq, aB, aA, aI, aF, aO, aW] := own_nin h 11 [0, 5, 6, 7, 1, 2, 3] rfl rfl (by decide)
theorem ef_rm_kremove (m : MethodId) (x0 : Addr) (x1 : Int32) : entryFrame m #[(.ref x0), (.int x1)] 2 = mkF m 0 #[.val (.ref x0), .val (.int x1)] [] := by first | (simp [entryFrame, mkF, argsToLocals, Value.category]; done) | rfl
def Q_rm_kremove (Z : State) (kq : Addr) (en : Int32) (aF aO aW aK aB aA aI hp lo aE aP : Addr) (cK kK kB kA kI kF kO kW kE kP : ClassId) (bk ib0 ib1 ib2 ib3 sz en0 en1 en2 en3 po0 po1 po2 po3 mm0 mm1 mm2 mm3 : Int32) (h0 : Heap) (n0 : Nat) (v : Option Value) (h : Heap) (L : List Loc) : Prop := ∃ (ve0 : Int32) (ve1 : Int32) (ve2 : Int32) (ve3 : Int32) (vp0 : Int32) (vp1 : Int32) (vp2 : Int32) (vp3 : Int32) (vz_ : Int32) (vb_ : Int32) (vi0 : Int32) (vi1 : Int32) (vi2 : Int32) (vi3 : Int32), v = none ∧ Fr n0 L ∧ Keep h0 h [kq, aB, aA, aI, aF, aO, aW, hp, aE, aP] ∧ Fld Z h kq "com/example/leasewise/leasewise/KilometreQueue" "keys" "[J" (.ref aK) ∧ Fld Z h kq "com/example/leasewise/leasewise/KilometreQueue" "before" "[I" (.ref aB) ∧ Fld Z h kq "com/example/leasewise/leasewise/KilometreQueue" "after" "[I" (.ref aA) ∧ Fld Z h kq "com/example/leasewise/leasewise/KilometreQueue" "inBucket" "[Z" (.ref aI) ∧ Fld Z h kq "com/example/leasewise/leasewise/KilometreQueue" "firsts" "[I" (.ref aF) ∧ Fld Z h kq "com/example/leasewise/leasewise/KilometreQueue" "occupied" "[J" (.ref aO) ∧ Fld Z h kq "com/example/leasewise/leasewise/KilometreQueue" "occupiedWords" "[J" (.ref aW) ∧ Fld Z h kq "com/example/leasewise/leasewise/KilometreQueue" "further" "Lcom/example/leasewise/leasewise/IndexedHeap;" (.ref hp) ∧ Fld Z h kq "com/example/leasewise/leasewise/KilometreQueue" "bucketed" "I" (.int vb_) ∧ Fld Z h kq "com/example/leasewise/leasewise/KilometreQueue" "floor" "J" (.long (0 : Int64)) ∧ Arp Z h aB kB .int (4 : Int32) PI ∧ Arp Z h aA kA .int (4 : Int32) PI ∧ Arv Z h aI kI .boolean (4 : Int32) [(.int vi0), (.int vi1), (.int vi2), (.int vi3)] (.int (0 : Int32)) ∧ Arp Z h aF kF .int (65536 : Int32) PI ∧ Arp Z h aO kO .long (1024 : Int32) PJ ∧ Arp Z h aW kW .long (16 : Int32) PJ ∧ Fld Z h hp "com/example/leasewise/leasewise/IndexedHeap" "order" "Lcom/example/leasewise/leasewise/IndexedHeap$Order;" (.ref lo) ∧ Fld Z h hp "com/example/leasewise/leasewise/IndexedHeap" "entries" "[I" (.ref aE) ∧ Fld Z h hp "com/example/leasewise/leasewise/IndexedHeap" "positions" "[I" (.ref aP) ∧ Fld Z h hp "com/example/leasewise/leasewise/IndexedHeap" "size" "I" (.int vz_) ∧ Arv Z h aE kE .int (4 : Int32) [(.int ve0), (.int ve1), (.int ve2), (.int ve3)] (.int (0 : Int32)) ∧ Arv Z h aP kP .int (4 : Int32) [(.int vp0), (.int vp1), (.int vp2), (.int vp3)] (.int (-1 : Int32)) ∧ (KI vz_ ve0 ve1 ve2 ve3 vp0 vp1 vp2 vp3 vi0 vi1 vi2 vi3 (s4 en 0 (0 : Int32) mm0) (s4 en 1 (0 : Int32) mm1) (s4 en 2 (0 : Int32) mm2) (s4 en 3 (0 : Int32) mm3))
set_option maxRecDepth 65536 in
set_option maxHeartbeats 40000000 in
theorem rm_kremove (l : Launch) (Z : State) (a0 : Array Value) (hw : ∀ d ∈ tables_1, d.before a0 Z = true) (ws : List Jvm.Cond) (kq : Addr) (en : Int32) (aF aO aW aK aB aA aI hp lo aE aP : Addr) (cK kK kB kA kI kF kO kW kE kP : ClassId) (bk ib0 ib1 ib2 ib3 sz en0 en1 en2 en3 po0 po1 po2 po3 mm0 mm1 mm2 mm3 : Int32) (h0 : Heap) (n0 : Nat) (O0 : Old Z n0 h0) (E_kq : Exa Z h0 kq "com/example/leasewise/leasewise/KilometreQueue") (F_kq_keys : Fld Z h0 kq "com/example/leasewise/leasewise/KilometreQueue" "keys" "[J" (.ref aK)) (F_kq_before : Fld Z h0 kq "com/example/leasewise/leasewise/KilometreQueue" "before" "[I" (.ref aB)) (F_kq_after : Fld Z h0 kq "com/example/leasewise/leasewise/KilometreQueue" "after" "[I" (.ref aA)) (F_kq_inBucket : Fld Z h0 kq "com/example/leasewise/leasewise/KilometreQueue" "inBucket" "[Z" (.ref aI)) (F_kq_firsts : Fld Z h0 kq "com/example/leasewise/leasewise/KilometreQueue" "firsts" "[I" (.ref aF)) (F_kq_occupied : Fld Z h0 kq "com/example/leasewise/leasewise/KilometreQueue" "occupied" "[J" (.ref aO)) (F_kq_occupiedWords : Fld Z h0 kq "com/example/leasewise/leasewise/KilometreQueue" "occupiedWords" "[J" (.ref aW)) (F_kq_further : Fld Z h0 kq "com/example/leasewise/leasewise/KilometreQueue" "further" "Lcom/example/leasewise/leasewise/IndexedHeap;" (.ref hp)) (F_kq_bucketed : Fld Z h0 kq "com/example/leasewise/leasewise/KilometreQueue" "bucketed" "I" (.int bk)) (F_kq_floor : Fld Z h0 kq "com/example/leasewise/leasewise/KilometreQueue" "floor" "J" (.long (0 : Int64))) (V_aI : Arv Z h0 aI kI .boolean (4 : Int32) [(.int ib0), (.int ib1), (.int ib2), (.int ib3)] (.int (0 : Int32))) (E_hp : Exa Z h0 hp "com/example/leasewise/leasewise/IndexedHeap") (F_hp_order : Fld Z h0 hp "com/example/leasewise/leasewise/IndexedHeap" "order" "Lcom/example/leasewise/leasewise/IndexedHeap$Order;" (.ref lo)) (F_hp_entries : Fld Z h0 hp "com/example/leasewise/leasewise/IndexedHeap" "entries" "[I" (.ref aE)) (F_hp_positions : Fld Z h0 hp "com/example/leasewise/leasewise/IndexedHeap" "positions" "[I" (.ref aP)) (F_hp_size : Fld Z h0 hp "com/example/leasewise/leasewise/IndexedHeap" "size" "I" (.int sz)) (V_aE : Arv Z h0 aE kE .int (4 : Int32) [(.int en0), (.int en1), (.int en2), (.int en3)] (.int (0 : Int32))) (V_aP : Arv Z h0 aP kP .int (4 : Int32) [(.int po0), (.int po1), (.int po2), (.int po3)] (.int (-1 : Int32))) (MDc : Jvm.LamKit.Made Z "com/example/leasewise/leasewise/KilometreQueue" sgm cK) (NDp : List.Nodup [kq, aF, aO, aW, aK, aB, aA, aI, hp, lo, aE, aP]) (g_kq : n0 ≤ kq) (g_aB : n0 ≤ aB) (g_aA : n0 ≤ aA) (g_aI : n0 ≤ aI) (g_aF : n0 ≤ aF) (g_aO : n0 ≤ aO) (g_aW : n0 ≤ aW) (g_hp : n0 ≤ hp) (g_aE : n0 ≤ aE) (g_aP : n0 ≤ aP) (KI0 : KI sz en0 en1 en2 en3 po0 po1 po2 po3 ib0 ib1 ib2 ib3 mm0 mm1 mm2 mm3) (he : I4 en) (V_aK : Arp Z h0 aK kK .long (4 : Int32) PJ) (V_aB : Arp Z h0 aB kB .int (4 : Int32) PI) (V_aA : Arp Z h0 aA kA .int (4 : Int32) PI) (V_aF : Arp Z h0 aF kF .int (65536 : Int32) PI) (V_aO : Arp Z h0 aO kO .long (1024 : Int32) PJ) (V_aW : Arp Z h0 aW kW .long (16 : Int32) PJ) (Y_lo : LamO h0 lo cK kq) :
    MetFree l (⟨"com/example/leasewise/leasewise/KilometreQueue", "remove", "(I)V"⟩ : MethodName) (head1 (Jvm.Cond.code (⟨"com/example/leasewise/leasewise/KilometreQueue", "remove", "(I)V"⟩ : MethodName) prog_39_method_6_code 2 none :: ws) ({ frames := 4, cells := 0, slots := 0, locals := 60 } : Room)) (fun a U => a = #[(.ref kq), (.int en)] ∧ Z.WarmedH U.vm ∧ U.heap = h0) (fun _ _ _ _ _ => True) (fun _ U o U' => ∃ v L, o = .returned v ∧ Q_rm_kremove Z kq en aF aO aW aK aB aA aI hp lo aE aP cK kK kB kA kI kF kO kW kE kP bk ib0 ib1 ib2 ib3 sz en0 en1 en2 en3 po0 po1 po2 po3 mm0 mm1 mm2 mm3 h0 n0 v U'.heap L ∧ FrameEnd U o U' L ({ frames := 4, cells := 0, slots := 0, locals := 60 } : Room).cells ({ frames := 4, cells := 0, slots := 0, locals := 60 } : Room).slots) := by
  refine MetFree.of_bodySF (plainFor_of_name pn_2) hisR ?_
  intro p e s m args below meth c s₁ Bd hml0 hP hK
  obtain ⟨rfl, hZH, hh⟩ := hP
  have hZ := hZH.wide
  have hx := Bd.exec
  have hby := Bd.bytes
  have D := fun {pc : Nat} {r : Except ClassFile.DecodeError (ClassFile.Instr × Nat)} (q : decode prog_39_method_6_code pc = r) => hb (pc := pc) hby q
  have hml : c.maxLocals = 2 := hml0
  have hown : s.vm.findClass "com/example/leasewise/leasewise/KilometreQueue" = some m.cls := findClass_of_methodNamed Bd.named
  have hnm := (name_of_methodNamed Bd.named Bd.method).1
  have X0 : Stand p l e ({ frames := 4, cells := 0, slots := 0, locals := 60 } : Room) s m #[(.ref kq), (.int en)] below meth c s₁ [] 0 0 := Stand.of_body Bd
  have e0 : s₁.heap = h0 := by rw [← hh, Bd.state]; rfl
  have N0 := Fr.nil n0
  have pre0 : ∀ t, Steps p.tables e below (s₁.setTop (mkF m 0 #[.val (.ref kq), .val (.int en)] [])) t → Steps p.tables e below (s₁.setTop (entryFrame m #[(.ref kq), (.int en)] 2)) t := fun t k => castTop (ef_rm_kremove m (kq) (en)) k
  have wd := fun {d : Jvm.Cond} (i : Nat) (h : tables_1[i]? = some d) => hw d (List.mem_of_getElem? h)
  obtain ⟨T1, X1, e1, st1⟩ := getF X0 hx hZ hown (host := "") (Or.inl (wd 25 rfl)) Via.refl e0 F_kq_inBucket (g := (mkF m 1 #[.val (.ref kq), .val (.int en)] [(.ref kq)])) rfl rfl (D d8_1)
  obtain ⟨cl2, Ar2, q2, S2, Nn2, H2, G2⟩ := id V_aI
  have hin2 : ¬ (en < 0 ∨ cl2.slots.size ≤ (en).toNatClampNeg) := inb_of S2 (own_in4 he)
  obtain ⟨y2, hy2⟩ : ∃ y, y = g4 en ib0 ib1 ib2 ib3 := ⟨_, rfl⟩
  have hat2 := own_get4 H2 hin2 he hy2
  have cs3 : Steps p.tables e below (s₁.setTop (mkF m 0 #[.val (.ref kq), .val (.int en)] [])) (T1.setTop (mkF m 6 #[.val (.ref kq), .val (.int en)] [(.int y2)])) := (by
    refine s_aloadN X0 hx (D d8_0) rfl rfl ?_
    refine st1 _ ?_
    refine s_iloadN X1 hx (D d8_4) rfl ?_
    refine X1.baloadBooleans hx (j := en) (v := (.int y2)) (by rw [e1]; exact (Ar2).1) (State.isArrayOf_alike hZ.alike (Ar2).2.1) (Ar2).2.2 hin2 hat2 (g := (mkF m 5 #[.val (.ref kq), .val (.int en)] [(.int en), (.ref aI)])) rfl rfl (D d8_5) _ ?_
    exact Steps.refl _)
  by_cases hc4 : y2 = (0 : Int32)
  · obtain ⟨T5, X5, e5, st5⟩ := getF X1 hx hZ hown (host := "") (Or.inl (wd 49 rfl)) Via.refl e1 F_kq_further (g := (mkF m 18 #[.val (.ref kq), .val (.int en)] [(.ref kq)])) rfl rfl (D d8_18)
    obtain ⟨cq6, kq6, q6a, q6b, q6c⟩ := isOf hZ e5 E_hp
    obtain ⟨_, _, ⟨T6, L6, k6, n6⟩, -, X6, ⟨Lc6, hQ6, l6, y6, z6⟩, st6⟩ := X5.virtualBack hx (y := (⟨"com/example/leasewise/leasewise/IndexedHeap", "remove", "(I)V"⟩ : MethodName)) (z := (⟨"com/example/leasewise/leasewise/IndexedHeap", "remove", "(I)V"⟩ : MethodName)) hown (mvT hZ (wd 74 rfl)) (mvT hZ (wd 75 rfl)) (notFace_of_selects (args := #[]) (mvT hZ (wd 77 rfl))) (mvT hZ (wd 77 rfl)) (mvT hZ (wd 76 rfl)) (by decide) (own_backH (W := 0) (rm_hremove l Z a0 hw [] hp en kq aF aO aW aK aB aA aI lo aE aP cK kK kE kP sz en0 en1 en2 en3 po0 po1 po2 po3 h0 n0 O0 E_hp F_hp_order F_hp_entries F_hp_positions F_hp_size E_kq F_kq_keys MDc V_aE V_aP g_hp g_aE g_aP NDp KI0.1 he V_aK Y_lo) hZH (wd 78 rfl) (wd 33 rfl) (by decide) (by decide)) q6a q6c (g := (mkF m 22 #[.val (.ref kq), .val (.int en)] [(.int en), (.ref hp)])) rfl (by rw [hml]; rfl) (Steps.refl _) (argsL := [(.int en)]) (rest := []) (lenOf pd_4 rfl) rfl (by show 2 * 0 + _ ≤ _; exact Nat.le_of_eq rfl) (D d8_22) (fun _ _ => ⟨rfl, e5, (by decide : 0 + 0 ≤ _), (by decide : 0 + 0 ≤ _)⟩)
    dsimp only [Pt.U, Pt.locs, Pt.cells, Pt.slots] at X6 l6 y6 z6 st6 hQ6
    subst l6 y6 z6
    obtain ⟨ve0_6, ve1_6, ve2_6, ve3_6, vp0_6, vp1_6, vp2_6, vp3_6, vz__6, rfl, N6q, K6, Q6_0, Q6_1, Q6_2, Q6_3, Q6_4, Q6_5, Q6_6⟩ := hQ6
    have O6 := O0.keep K6 (allS g_hp (allS g_aE (allS g_aP all0)))
    have KK6 : Keep h0 T6.heap [kq, aB, aA, aI, aF, aO, aW, hp, aE, aP] := (Keep.refl h0 [kq, aB, aA, aI, aF, aO, aW, hp, aE, aP]).trans K6 (allS (own_mem 7 rfl) (allS (own_mem 8 rfl) (allS (own_mem 9 rfl) all0)))
    have N6 := Fr.app N0 N6q
    have f7 := (F_kq_keys.keep K6 (nn66 NDp))
    have f8 := (F_kq_before.keep K6 (nn66 NDp))
    have f9 := (F_kq_after.keep K6 (nn66 NDp))
    have f10 := (F_kq_inBucket.keep K6 (nn66 NDp))
    have f11 := (F_kq_firsts.keep K6 (nn66 NDp))
    have f12 := (F_kq_occupied.keep K6 (nn66 NDp))
    have f13 := (F_kq_occupiedWords.keep K6 (nn66 NDp))
    have f14 := (F_kq_further.keep K6 (nn66 NDp))
    have f15 := (F_kq_bucketed.keep K6 (nn66 NDp))
    have f16 := (F_kq_floor.keep K6 (nn66 NDp))
    have f17 := (V_aB.keep K6 (nn67 NDp))
    have f18 := (V_aA.keep K6 (nn68 NDp))
    have f19 := (V_aI.keep K6 (nn69 NDp))
    have f20 := (V_aF.keep K6 (nn70 NDp))
    have f21 := (V_aO.keep K6 (nn71 NDp))
    have f22 := (V_aW.keep K6 (nn72 NDp))
    obtain ⟨fs, hr, hrun, hended, hW, hsame⟩ := X6.leave (v := none) (fun _ => rfl)
    refine ⟨_, _, pre0 _ ?_, hrun, hended, _, _, rfl, ?_, ⟨_, rfl⟩, hW, hsame.mono (by decide) (by decide)⟩
    · refine cs3.trans ?_
      refine s_ifYes X1 hx 17 (D d8_6) ((if0 _ _).trans (teq hc4).1) (of_decide_eq_true rfl) rfl ?_
      refine s_aloadN X1 hx (D d8_17) rfl rfl ?_
      refine st5 _ ?_
      refine s_iloadN X5 hx (D d8_21) rfl ?_
      refine st6.trans ?_
      exact X6.returnOut hx Bd.returns (D d8_25) hr
    · show Q_rm_kremove Z kq en aF aO aW aK aB aA aI hp lo aE aP cK kK kB kA kI kF kO kW kE kP bk ib0 ib1 ib2 ib3 sz en0 en1 en2 en3 po0 po1 po2 po3 mm0 mm1 mm2 mm3 h0 n0 _ T6.heap _
      exact ⟨ve0_6, ve1_6, ve2_6, ve3_6, vp0_6, vp1_6, vp2_6, vp3_6, vz__6, bk, ib0, ib1, ib2, ib3, rfl, N6, KK6, f7, f8, f9, f10, f11, f12, f13, f14, f15, f16, f17, f18, f19, f20, f21, f22, Q6_0, Q6_1, Q6_2, Q6_3, Q6_4, Q6_5, (own_kh KI0 hy2 hc4 Q6_6)⟩
  · obtain ⟨cq23, q23, q23'⟩ := E_kq.cell
    obtain ⟨_, _, ⟨T23, L23, k23, n23⟩, -, X23, ⟨Lc23, hQ23, l23, y23, z23⟩, st23⟩ := X1.privateBack hx (y := (⟨"com/example/leasewise/leasewise/KilometreQueue", "unlink", "(I)V"⟩ : MethodName)) hown (mvT hZ (wd 110 rfl)) (mvT hZ (wd 111 rfl)) (own_selpriv (y := (⟨"com/example/leasewise/leasewise/KilometreQueue", "unlink", "(I)V"⟩ : MethodName)) (mvT hZ (wd 54 rfl)) rfl (Cond.privateMethod_at (mvP hZ (wd 112 rfl) (args := #[]))) (mvT hZ (wd 111 rfl)) (by decide)) (Cond.privateMethod_at (mvP hZ (wd 112 rfl) (args := #[]))) (mvT hZ (wd 113 rfl)) (by decide) (own_backH (W := 0) (rm_kunlink l Z a0 hw [] kq en aF aO aW aK aB aA aI hp lo aE aP kK kB kA kI kF kO kW bk ib0 ib1 ib2 ib3 h0 n0 O0 E_kq F_kq_keys F_kq_before F_kq_after F_kq_inBucket F_kq_firsts F_kq_occupied F_kq_occupiedWords F_kq_further F_kq_bucketed F_kq_floor V_aI NDp he g_kq g_aB g_aA g_aI g_aF g_aO g_aW V_aK V_aB V_aA V_aF V_aO V_aW) hZH (wd 113 rfl) (wd 2 rfl) (by decide) (by decide)) (g := (mkF m 11 #[.val (.ref kq), .val (.int en)] [(.int en), (.ref kq)])) rfl (by rw [hml]; rfl) (Steps.refl _) (a := kq) (by rw [e1]; exact q23) q23' (argsL := [(.int en)]) (rest := []) (lenOf pd_4 rfl) rfl (by show 2 * 0 + _ ≤ _; exact Nat.le_of_eq rfl) (D d8_11) (fun _ _ => ⟨rfl, e1, (by decide : 0 + 0 ≤ _), (by decide : 0 + 0 ≤ _)⟩)
    dsimp only [Pt.U, Pt.locs, Pt.cells, Pt.slots] at X23 l23 y23 z23 st23 hQ23
    subst l23 y23 z23
    obtain ⟨vb__23, rfl, N23q, K23, Q23_0, Q23_1, Q23_2, Q23_3, Q23_4, Q23_5, Q23_6, Q23_7, Q23_8, Q23_9, Q23_10, Q23_11, Q23_12, Q23_13, Q23_14, Q23_15⟩ := hQ23
    have O23 := O0.keep K23 (allS g_kq (allS g_aB (allS g_aA (allS g_aI (allS g_aF (allS g_aO (allS g_aW all0)))))))
    have KK23 : Keep h0 T23.heap [kq, aB, aA, aI, aF, aO, aW, hp, aE, aP] := (Keep.refl h0 [kq, aB, aA, aI, aF, aO, aW, hp, aE, aP]).trans K23 (allS (own_mem 0 rfl) (allS (own_mem 1 rfl) (allS (own_mem 2 rfl) (allS (own_mem 3 rfl) (allS (own_mem 4 rfl) (allS (own_mem 5 rfl) (allS (own_mem 6 rfl) all0)))))))
    have N23 := Fr.app N0 N23q
    have f24 := (F_hp_order.keep K23 (nn73 NDp))
    have f25 := (F_hp_entries.keep K23 (nn73 NDp))
    have f26 := (F_hp_positions.keep K23 (nn73 NDp))
    have f27 := (F_hp_size.keep K23 (nn73 NDp))
    have f28 := (V_aE.keep K23 (nn74 NDp))
    have f29 := (V_aP.keep K23 (nn75 NDp))
    obtain ⟨fs, hr, hrun, hended, hW, hsame⟩ := X23.leave (v := none) (fun _ => rfl)
    refine ⟨_, _, pre0 _ ?_, hrun, hended, _, _, rfl, ?_, ⟨_, rfl⟩, hW, hsame.mono (by decide) (by decide)⟩
    · refine cs3.trans ?_
      refine s_ifNo X1 hx (D d8_6) ((if0 _ _).trans (feq hc4).1) ?_
      refine s_aloadN X1 hx (D d8_9) rfl rfl ?_
      refine s_iloadN X1 hx (D d8_10) rfl ?_
      refine st23.trans ?_
      refine s_goto X23 hx 25 (D d8_14) (of_decide_eq_true rfl) rfl ?_
      exact X23.returnOut hx Bd.returns (D d8_25) hr
    · show Q_rm_kremove Z kq en aF aO aW aK aB aA aI hp lo aE aP cK kK kB kA kI kF kO kW kE kP bk ib0 ib1 ib2 ib3 sz en0 en1 en2 en3 po0 po1 po2 po3 mm0 mm1 mm2 mm3 h0 n0 _ T23.heap _
      exact ⟨en0, en1, en2, en3, po0, po1, po2, po3, sz, vb__23, (s4 en 0 (0 : Int32) ib0), (s4 en 1 (0 : Int32) ib1), (s4 en 2 (0 : Int32) ib2), (s4 en 3 (0 : Int32) ib3), rfl, N23, KK23, Q23_0, Q23_1, Q23_2, Q23_3, Q23_4, Q23_5, Q23_6, Q23_7, Q23_8, Q23_9, Q23_10, Q23_11, Q23_12, Q23_13, Q23_14, Q23_15, f24, f25, f26, f27, f28, f29, (own_ku KI0 hy2 hc4)⟩
theorem d7_0 : decode prog_39_method_5_code 0 = .ok (.lload_n 2, 1) := by decide +kernel
theorem d7_1 : decode prog_39_method_5_code 1 = .ok (.aload_n 0, 1) := by decide +kernel
theorem d7_2 : decode prog_39_method_5_code 2 = .ok (.getfield 66, 3) := by decide +kernel
theorem d7_5 : decode prog_39_method_5_code 5 = .ok (.lcmp, 1) := by decide +kernel
theorem d7_6 : decode prog_39_method_5_code 6 = .ok (.ifCond .ge 21, 3) := by decide +kernel
theorem d7_27 : decode prog_39_method_5_code 27 = .ok (.aload_n 0, 1) := by decide +kernel
theorem d7_28 : decode prog_39_method_5_code 28 = .ok (.iload_n 1, 1) := by decide +kernel
theorem d7_29 : decode prog_39_method_5_code 29 = .ok (.invokevirtual 79, 3) := by decide +kernel
theorem d7_32 : decode prog_39_method_5_code 32 = .ok (.aload_n 0, 1) := by decide +kernel
theorem d7_33 : decode prog_39_method_5_code 33 = .ok (.getfield 23, 3) := by decide +kernel
theorem d7_36 : decode prog_39_method_5_code 36 = .ok (.iload_n 1, 1) := by decide +kernel
theorem d7_37 : decode prog_39_method_5_code 37 = .ok (.lload_n 2, 1) := by decide +kernel
theorem d7_38 : decode prog_39_method_5_code 38 = .ok (.lastore, 1) := by decide +kernel
theorem d7_39 : decode prog_39_method_5_code 39 = .ok (.lload_n 2, 1) := by decide +kernel
theorem d7_40 : decode prog_39_method_5_code 40 = .ok (.aload_n 0, 1) := by decide +kernel
theorem d7_41 : decode prog_39_method_5_code 41 = .ok (.getfield 66, 3) := by decide +kernel
theorem d7_44 : decode prog_39_method_5_code 44 = .ok (.lsub, 1) := by decide +kernel
theorem d7_45 : decode prog_39_method_5_code 45 = .ok (.ldc2_w 83, 3) := by decide +kernel
theorem d7_48 : decode prog_39_method_5_code 48 = .ok (.lcmp, 1) := by decide +kernel
theorem d7_49 : decode prog_39_method_5_code 49 = .ok (.ifCond .ge 11, 3) := by decide +kernel
theorem d7_52 : decode prog_39_method_5_code 52 = .ok (.aload_n 0, 1) := by decide +kernel
theorem d7_53 : decode prog_39_method_5_code 53 = .ok (.iload_n 1, 1) := by decide +kernel
theorem d7_54 : decode prog_39_method_5_code 54 = .ok (.invokevirtual 85, 3) := by decide +kernel
theorem d7_57 : decode prog_39_method_5_code 57 = .ok (.goto 11, 3) := by decide +kernel
theorem d7_60 : decode prog_39_method_5_code 60 = .ok (.aload_n 0, 1) := by decide +kernel
theorem d7_61 : decode prog_39_method_5_code 61 = .ok (.getfield 50, 3) := by decide +kernel
theorem d7_64 : decode prog_39_method_5_code 64 = .ok (.iload_n 1, 1) := by decide +kernel
theorem d7_65 : decode prog_39_method_5_code 65 = .ok (.invokevirtual 88, 3) := by decide +kernel
theorem d7_68 : decode prog_39_method_5_code 68 = .ok (.return_, 1) := by decide +kernel
theorem nn76 {kq aF aO aW aK aB aA aI hp lo aE aP : Addr} (h : List.Nodup [kq, aF, aO, aW, aK, aB, aA, aI, hp, lo, aE, aP]) : aK ∉ [kq, aB, aA, aI, aF, aO, aW, hp, aE, aP] := own_nin h 4 [0, 5, 6, 7, 1, 2, 3, 8, 10, 11] rfl rfl (by decide)
theorem ne0_4 {kq aF aO aW aK aB aA aI hp lo aE aP : Addr} (h : List.Nodup [kq, aF, aO, aW, aK, aB, aA, aI, hp, lo, aE, aP]) : kq ≠ aK := own_nd h 0 4 rfl rfl (by decide)
theorem ne5_4 {kq aF aO aW aK aB aA aI hp lo aE aP : Addr} (h : List.Nodup [kq, aF, aO, aW, aK, aB, aA, aI, hp, lo, aE, aP]) : aB ≠ aK := own_nd h 5 4 rfl rfl (by decide)
theorem ne6_4 {kq aF aO aW aK aB aA aI hp lo aE aP : Addr} (h : List.Nodup [kq, aF, aO, aW, aK, aB, aA, aI, hp, lo, aE, aP]) : aA ≠ aK := own_nd h 6 4 rfl rfl (by decide)
theorem ne1_4 {kq aF aO aW aK aB aA aI hp lo aE aP : Addr} (h : List.Nodup [kq, aF, aO, aW, aK, aB, aA, aI, hp, lo, aE, aP]) : aF ≠ aK := own_nd h 1 4 rfl rfl (by decide)
theorem ne2_4 {kq aF aO aW aK aB aA aI hp lo aE aP : Addr} (h : List.Nodup [kq, aF, aO, aW, aK, aB, aA, aI, hp, lo, aE, aP]) : aO ≠ aK := own_nd h 2 4 rfl rfl (by decide)
theorem ne3_4 {kq aF aO aW aK aB aA aI hp lo aE aP : Addr} (h : List.Nodup [kq, aF, aO, aW, aK, aB, aA, aI, hp, lo, aE, aP]) : aW ≠ aK := own_nd h 3 4 rfl rfl (by decide)
theorem ne7_4 {kq aF aO aW aK aB aA aI hp lo aE aP : Addr} (h : List.Nodup [kq, aF, aO, aW, aK, aB, aA, aI, hp, lo, aE, aP]) : aI ≠ aK := own_nd h 7 4 rfl rfl (by decide)
theorem nn84 {kq aF aO aW aK aB aA aI hp lo aE aP : Addr} (h : List.Nodup [kq, aF, aO, aW, aK, aB, aA, aI, hp, lo, aE, aP]) : aK ∉ [kq, aB, aA, aI, aF, aO, aW] := own_nin h 4 [0, 5, 6, 7, 1, 2, 3] rfl rfl (by decide)
theorem ne8_4 {kq aF aO aW aK aB aA aI hp lo aE aP : Addr} (h : List.Nodup [kq, aF, aO, aW, aK, aB, aA, aI, hp, lo, aE, aP]) : hp ≠ aK := own_nd h 8 4 rfl rfl (by decide)
theorem ne10_4 {kq aF aO aW aK aB aA aI hp lo aE aP : Addr} (h : List.Nodup [kq, aF, aO, aW, aK, aB, aA, aI, hp, lo, aE, aP]) : aE ≠ aK := own_nd h 10 4 rfl rfl (by decide)
theorem ne11_4 {kq aF aO aW aK aB aA aI hp lo aE aP : Addr} (h : List.Nodup [kq, aF, aO, aW, aK, aB, aA, aI, hp, lo, aE, aP]) : aP ≠ aK := own_nd h 11 4 rfl rfl (by decide)
theorem nn88 {kq aF aO aW aK aB aA aI hp lo aE aP : Addr} (h : List.Nodup [kq, aF, aO, aW, aK, aB, aA, aI, hp, lo, aE, aP]) : lo ∉ [kq, aB, aA, aI, aF, aO, aW, hp, aE, aP] := own_nin h 9 [0, 5, 6, 7, 1, 2, 3, 8, 10, 11] rfl rfl (by decide)
theorem ne9_4 {kq aF aO aW aK aB aA aI hp lo aE aP : Addr} (h : List.Nodup [kq, aF, aO, aW, aK, aB, aA, aI, hp, lo, aE, aP]) : lo ≠ aK := own_nd h 9 4 rfl rfl (by decide)
theorem nn90 {kq aF aO aW aK aB aA aI hp lo aE aP : Addr} (h : List.Nodup [kq, aF, aO, aW, aK, aB, aA, aI, hp, lo, aE, aP]) : aK ∉ [hp, aE, aP] := own_nin h 4 [8, 10, 11] rfl rfl (by decide)
theorem ef_rm_kput (m : MethodId) (x0 : Addr) (x1 : Int32) (x2 : Int64) : entryFrame m #[(.ref x0), (.int x1), (.long x2)] 4 = mkF m 0 #[.val (.ref x0), .val (.int x1), .val (.long x2), .second] [] := by first | (simp [entryFrame, mkF, argsToLocals, Value.category]; done) | rfl
def Q_rm_kput (Z : State) (kq : Addr) (en : Int32) (y : Int64) (aF aO aW aK aB aA aI hp lo aE aP : Addr) (cK kK kB kA kI kF kO kW kE kP : ClassId) (bk ib0 ib1 ib2 ib3 sz en0 en1 en2 en3 po0 po1 po2 po3 mm0 mm1 mm2 mm3 : Int32) (h0 : Heap) (n0 : Nat) (v : Option Value) (h : Heap) (L : List Loc) : Prop := ∃ (ve0 : Int32) (ve1 : Int32) (ve2 : Int32) (ve3 : Int32) (vp0 : Int32) (vp1 : Int32) (vp2 : Int32) (vp3 : Int32) (vz_ : Int32) (vb_ : Int32) (vi0 : Int32) (vi1 : Int32) (vi2 : Int32) (vi3 : Int32), v = none ∧ Fr n0 L ∧ Keep h0 h [kq, aB, aA, aI, aF, aO, aW, hp, aE, aP, aK] ∧ Fld Z h kq "com/example/leasewise/leasewise/KilometreQueue" "keys" "[J" (.ref aK) ∧ Fld Z h kq "com/example/leasewise/leasewise/KilometreQueue" "before" "[I" (.ref aB) ∧ Fld Z h kq "com/example/leasewise/leasewise/KilometreQueue" "after" "[I" (.ref aA) ∧ Fld Z h kq "com/example/leasewise/leasewise/KilometreQueue" "inBucket" "[Z" (.ref aI) ∧ Fld Z h kq "com/example/leasewise/leasewise/KilometreQueue" "firsts" "[I" (.ref aF) ∧ Fld Z h kq "com/example/leasewise/leasewise/KilometreQueue" "occupied" "[J" (.ref aO) ∧ Fld Z h kq "com/example/leasewise/leasewise/KilometreQueue" "occupiedWords" "[J" (.ref aW) ∧ Fld Z h kq "com/example/leasewise/leasewise/KilometreQueue" "further" "Lcom/example/leasewise/leasewise/IndexedHeap;" (.ref hp) ∧ Fld Z h kq "com/example/leasewise/leasewise/KilometreQueue" "bucketed" "I" (.int vb_) ∧ Fld Z h kq "com/example/leasewise/leasewise/KilometreQueue" "floor" "J" (.long (0 : Int64)) ∧ Arp Z h aK kK .long (4 : Int32) PJ ∧ Arp Z h aB kB .int (4 : Int32) PI ∧ Arp Z h aA kA .int (4 : Int32) PI ∧ Arv Z h aI kI .boolean (4 : Int32) [(.int vi0), (.int vi1), (.int vi2), (.int vi3)] (.int (0 : Int32)) ∧ Arp Z h aF kF .int (65536 : Int32) PI ∧ Arp Z h aO kO .long (1024 : Int32) PJ ∧ Arp Z h aW kW .long (16 : Int32) PJ ∧ Fld Z h hp "com/example/leasewise/leasewise/IndexedHeap" "order" "Lcom/example/leasewise/leasewise/IndexedHeap$Order;" (.ref lo) ∧ Fld Z h hp "com/example/leasewise/leasewise/IndexedHeap" "entries" "[I" (.ref aE) ∧ Fld Z h hp "com/example/leasewise/leasewise/IndexedHeap" "positions" "[I" (.ref aP) ∧ Fld Z h hp "com/example/leasewise/leasewise/IndexedHeap" "size" "I" (.int vz_) ∧ Arv Z h aE kE .int (4 : Int32) [(.int ve0), (.int ve1), (.int ve2), (.int ve3)] (.int (0 : Int32)) ∧ Arv Z h aP kP .int (4 : Int32) [(.int vp0), (.int vp1), (.int vp2), (.int vp3)] (.int (-1 : Int32)) ∧ (KI vz_ ve0 ve1 ve2 ve3 vp0 vp1 vp2 vp3 vi0 vi1 vi2 vi3 (s4 en 0 (1 : Int32) mm0) (s4 en 1 (1 : Int32) mm1) (s4 en 2 (1 : Int32) mm2) (s4 en 3 (1 : Int32) mm3))
set_option maxRecDepth 65536 in
set_option maxHeartbeats 40000000 in
theorem rm_kput (l : Launch) (Z : State) (a0 : Array Value) (hw : ∀ d ∈ tables_1, d.before a0 Z = true) (ws : List Jvm.Cond) (kq : Addr) (en : Int32) (y : Int64) (aF aO aW aK aB aA aI hp lo aE aP : Addr) (cK kK kB kA kI kF kO kW kE kP : ClassId) (bk ib0 ib1 ib2 ib3 sz en0 en1 en2 en3 po0 po1 po2 po3 mm0 mm1 mm2 mm3 : Int32) (h0 : Heap) (n0 : Nat) (O0 : Old Z n0 h0) (E_kq : Exa Z h0 kq "com/example/leasewise/leasewise/KilometreQueue") (F_kq_keys : Fld Z h0 kq "com/example/leasewise/leasewise/KilometreQueue" "keys" "[J" (.ref aK)) (F_kq_before : Fld Z h0 kq "com/example/leasewise/leasewise/KilometreQueue" "before" "[I" (.ref aB)) (F_kq_after : Fld Z h0 kq "com/example/leasewise/leasewise/KilometreQueue" "after" "[I" (.ref aA)) (F_kq_inBucket : Fld Z h0 kq "com/example/leasewise/leasewise/KilometreQueue" "inBucket" "[Z" (.ref aI)) (F_kq_firsts : Fld Z h0 kq "com/example/leasewise/leasewise/KilometreQueue" "firsts" "[I" (.ref aF)) (F_kq_occupied : Fld Z h0 kq "com/example/leasewise/leasewise/KilometreQueue" "occupied" "[J" (.ref aO)) (F_kq_occupiedWords : Fld Z h0 kq "com/example/leasewise/leasewise/KilometreQueue" "occupiedWords" "[J" (.ref aW)) (F_kq_further : Fld Z h0 kq "com/example/leasewise/leasewise/KilometreQueue" "further" "Lcom/example/leasewise/leasewise/IndexedHeap;" (.ref hp)) (F_kq_bucketed : Fld Z h0 kq "com/example/leasewise/leasewise/KilometreQueue" "bucketed" "I" (.int bk)) (F_kq_floor : Fld Z h0 kq "com/example/leasewise/leasewise/KilometreQueue" "floor" "J" (.long (0 : Int64))) (V_aI : Arv Z h0 aI kI .boolean (4 : Int32) [(.int ib0), (.int ib1), (.int ib2), (.int ib3)] (.int (0 : Int32))) (E_hp : Exa Z h0 hp "com/example/leasewise/leasewise/IndexedHeap") (F_hp_order : Fld Z h0 hp "com/example/leasewise/leasewise/IndexedHeap" "order" "Lcom/example/leasewise/leasewise/IndexedHeap$Order;" (.ref lo)) (F_hp_entries : Fld Z h0 hp "com/example/leasewise/leasewise/IndexedHeap" "entries" "[I" (.ref aE)) (F_hp_positions : Fld Z h0 hp "com/example/leasewise/leasewise/IndexedHeap" "positions" "[I" (.ref aP)) (F_hp_size : Fld Z h0 hp "com/example/leasewise/leasewise/IndexedHeap" "size" "I" (.int sz)) (V_aE : Arv Z h0 aE kE .int (4 : Int32) [(.int en0), (.int en1), (.int en2), (.int en3)] (.int (0 : Int32))) (V_aP : Arv Z h0 aP kP .int (4 : Int32) [(.int po0), (.int po1), (.int po2), (.int po3)] (.int (-1 : Int32))) (MDc : Jvm.LamKit.Made Z "com/example/leasewise/leasewise/KilometreQueue" sgm cK) (NDp : List.Nodup [kq, aF, aO, aW, aK, aB, aA, aI, hp, lo, aE, aP]) (g_kq : n0 ≤ kq) (g_aB : n0 ≤ aB) (g_aA : n0 ≤ aA) (g_aI : n0 ≤ aI) (g_aF : n0 ≤ aF) (g_aO : n0 ≤ aO) (g_aW : n0 ≤ aW) (g_hp : n0 ≤ hp) (g_aE : n0 ≤ aE) (g_aP : n0 ≤ aP) (g_aK : n0 ≤ aK) (KI0 : KI sz en0 en1 en2 en3 po0 po1 po2 po3 ib0 ib1 ib2 ib3 mm0 mm1 mm2 mm3) (he : I4 en) (hy : ¬ (y < (0 : Int64))) (V_aK : Arp Z h0 aK kK .long (4 : Int32) PJ) (V_aB : Arp Z h0 aB kB .int (4 : Int32) PI) (V_aA : Arp Z h0 aA kA .int (4 : Int32) PI) (V_aF : Arp Z h0 aF kF .int (65536 : Int32) PI) (V_aO : Arp Z h0 aO kO .long (1024 : Int32) PJ) (V_aW : Arp Z h0 aW kW .long (16 : Int32) PJ) (Y_lo : LamO h0 lo cK kq) :
    MetFree l (⟨"com/example/leasewise/leasewise/KilometreQueue", "put", "(IJ)V"⟩ : MethodName) (head1 (Jvm.Cond.code (⟨"com/example/leasewise/leasewise/KilometreQueue", "put", "(IJ)V"⟩ : MethodName) prog_39_method_5_code 4 none :: ws) ({ frames := 5, cells := 0, slots := 0, locals := 73 } : Room)) (fun a U => a = #[(.ref kq), (.int en), (.long y)] ∧ Z.WarmedH U.vm ∧ U.heap = h0) (fun _ _ _ _ _ => True) (fun _ U o U' => ∃ v L, o = .returned v ∧ Q_rm_kput Z kq en y aF aO aW aK aB aA aI hp lo aE aP cK kK kB kA kI kF kO kW kE kP bk ib0 ib1 ib2 ib3 sz en0 en1 en2 en3 po0 po1 po2 po3 mm0 mm1 mm2 mm3 h0 n0 v U'.heap L ∧ FrameEnd U o U' L ({ frames := 5, cells := 0, slots := 0, locals := 73 } : Room).cells ({ frames := 5, cells := 0, slots := 0, locals := 73 } : Room).slots) := by
  refine MetFree.of_bodySF (plainFor_of_name pn_2) hisR ?_
  intro p e s m args below meth c s₁ Bd hml0 hP hK
  obtain ⟨rfl, hZH, hh⟩ := hP
  have hZ := hZH.wide
  have hx := Bd.exec
  have hby := Bd.bytes
  have D := fun {pc : Nat} {r : Except ClassFile.DecodeError (ClassFile.Instr × Nat)} (q : decode prog_39_method_5_code pc = r) => hb (pc := pc) hby q
  have hml : c.maxLocals = 4 := hml0
  have hown : s.vm.findClass "com/example/leasewise/leasewise/KilometreQueue" = some m.cls := findClass_of_methodNamed Bd.named
  have hnm := (name_of_methodNamed Bd.named Bd.method).1
  have X0 : Stand p l e ({ frames := 5, cells := 0, slots := 0, locals := 73 } : Room) s m #[(.ref kq), (.int en), (.long y)] below meth c s₁ [] 0 0 := Stand.of_body Bd
  have e0 : s₁.heap = h0 := by rw [← hh, Bd.state]; rfl
  have N0 := Fr.nil n0
  have pre0 : ∀ t, Steps p.tables e below (s₁.setTop (mkF m 0 #[.val (.ref kq), .val (.int en), .val (.long y), .second] [])) t → Steps p.tables e below (s₁.setTop (entryFrame m #[(.ref kq), (.int en), (.long y)] 4)) t := fun t k => castTop (ef_rm_kput m (kq) (en) (y)) k
  have wd := fun {d : Jvm.Cond} (i : Nat) (h : tables_1[i]? = some d) => hw d (List.mem_of_getElem? h)
  obtain ⟨T1, X1, e1, st1⟩ := getF X0 hx hZ hown (host := "") (Or.inl (wd 67 rfl)) Via.refl e0 F_kq_floor (g := (mkF m 2 #[.val (.ref kq), .val (.int en), .val (.long y), .second] [(.ref kq), (.long y)])) rfl rfl (D d7_2)
  obtain ⟨cq2, kq2, q2a, q2b, q2c⟩ := isOf hZ e1 E_kq
  obtain ⟨_, _, ⟨T2, L2, k2, n2⟩, -, X2, ⟨Lc2, hQ2, l2, y2, z2⟩, st2⟩ := X1.virtualBack hx (y := (⟨"com/example/leasewise/leasewise/KilometreQueue", "remove", "(I)V"⟩ : MethodName)) (z := (⟨"com/example/leasewise/leasewise/KilometreQueue", "remove", "(I)V"⟩ : MethodName)) hown (mvT hZ (wd 69 rfl)) (mvT hZ (wd 70 rfl)) (notFace_of_selects (args := #[]) (mvT hZ (wd 72 rfl))) (mvT hZ (wd 72 rfl)) (mvT hZ (wd 71 rfl)) (by decide) (own_backH (W := 0) (rm_kremove l Z a0 hw [] kq en aF aO aW aK aB aA aI hp lo aE aP cK kK kB kA kI kF kO kW kE kP bk ib0 ib1 ib2 ib3 sz en0 en1 en2 en3 po0 po1 po2 po3 mm0 mm1 mm2 mm3 h0 n0 O0 E_kq F_kq_keys F_kq_before F_kq_after F_kq_inBucket F_kq_firsts F_kq_occupied F_kq_occupiedWords F_kq_further F_kq_bucketed F_kq_floor V_aI E_hp F_hp_order F_hp_entries F_hp_positions F_hp_size V_aE V_aP MDc NDp g_kq g_aB g_aA g_aI g_aF g_aO g_aW g_hp g_aE g_aP KI0 he V_aK V_aB V_aA V_aF V_aO V_aW Y_lo) hZH (wd 73 rfl) (wd 2 rfl) (by decide) (by decide)) q2a q2c (g := (mkF m 29 #[.val (.ref kq), .val (.int en), .val (.long y), .second] [(.int en), (.ref kq)])) rfl (by rw [hml]; rfl) (Steps.refl _) (argsL := [(.int en)]) (rest := []) (lenOf pd_4 rfl) rfl (by show 2 * 0 + _ ≤ _; exact Nat.le_of_eq rfl) (D d7_29) (fun _ _ => ⟨rfl, e1, (by decide : 0 + 0 ≤ _), (by decide : 0 + 0 ≤ _)⟩)
  dsimp only [Pt.U, Pt.locs, Pt.cells, Pt.slots] at X2 l2 y2 z2 st2 hQ2
  subst l2 y2 z2
  obtain ⟨ve0_2, ve1_2, ve2_2, ve3_2, vp0_2, vp1_2, vp2_2, vp3_2, vz__2, vb__2, vi0_2, vi1_2, vi2_2, vi3_2, rfl, N2q, K2, Q2_0, Q2_1, Q2_2, Q2_3, Q2_4, Q2_5, Q2_6, Q2_7, Q2_8, Q2_9, Q2_10, Q2_11, Q2_12, Q2_13, Q2_14, Q2_15, Q2_16, Q2_17, Q2_18, Q2_19, Q2_20, Q2_21, Q2_22⟩ := hQ2
  have O2 := O0.keep K2 (allS g_kq (allS g_aB (allS g_aA (allS g_aI (allS g_aF (allS g_aO (allS g_aW (allS g_hp (allS g_aE (allS g_aP all0))))))))))
  have KK2 : Keep h0 T2.heap [kq, aB, aA, aI, aF, aO, aW, hp, aE, aP, aK] := (Keep.refl h0 [kq, aB, aA, aI, aF, aO, aW, hp, aE, aP, aK]).trans K2 (allS (own_mem 0 rfl) (allS (own_mem 1 rfl) (allS (own_mem 2 rfl) (allS (own_mem 3 rfl) (allS (own_mem 4 rfl) (allS (own_mem 5 rfl) (allS (own_mem 6 rfl) (allS (own_mem 7 rfl) (allS (own_mem 8 rfl) (allS (own_mem 9 rfl) all0))))))))))
  have N2 := Fr.app N0 N2q
  obtain ⟨T3, X3, e3, st3⟩ := getF X2 hx hZ hown (host := "") (Or.inl (wd 18 rfl)) Via.refl rfl Q2_0 (g := (mkF m 33 #[.val (.ref kq), .val (.int en), .val (.long y), .second] [(.ref kq)])) rfl rfl (D d7_33)
  have f5 := (V_aK.keep K2 (nn76 NDp))
  obtain ⟨cl4, Ar4, q4, S4, Nn4, H4, G4⟩ := id f5
  have hin4 : ¬ (en < 0 ∨ cl4.slots.size ≤ (en).toNatClampNeg) := inb_of S4 (own_in4 he)
  obtain ⟨T4, h4, X4, e4, W4, st4⟩ := stJ X3 hx hZ e3 Ar4 (j := en) hin4 (g := (mkF m 38 #[.val (.ref kq), .val (.int en), .val (.long y), .second] [(.long y), (.int en), (.ref aK)])) rfl rfl (D d7_38)
  have V4 : Arp Z h4 aK kK .long (4 : Int32) PJ := Arp.set Ar4 q4 S4 Nn4 H4 (own_PJ _) W4
  have N4 := Fr.snoc X4 N2 g_aK
  have Zn4 : n0 ≤ h4.size := Nat.le_trans (own_oldsz O2) (Keep.of_wr W4).1
  have K4 : Keep h0 h4 [kq, aB, aA, aI, aF, aO, aW, hp, aE, aP, aK] := KK2.wr W4 (Or.inl (List.mem_of_getElem? (i := 10) rfl))
  have O4 := O2.wr W4 g_aK
  have f6 := (Q2_9.other W4 (Or.inl (ne0_4 NDp)))
  obtain ⟨T7, X7, e7, st7⟩ := getF X4 hx hZ hown (host := "") (Or.inl (wd 67 rfl)) Via.refl e4 f6 (g := (mkF m 41 #[.val (.ref kq), .val (.int en), .val (.long y), .second] [(.ref kq), (.long y)])) rfl rfl (D d7_41)
  have cs8 : Steps p.tables e below (s₁.setTop (mkF m 0 #[.val (.ref kq), .val (.int en), .val (.long y), .second] [])) (T7.setTop (mkF m 49 #[.val (.ref kq), .val (.int en), .val (.long y), .second] [(.int (lcmpW (y - (0 : Int64)) (65536 : Int64)))])) := (by
    refine s_lloadN X0 hx (D d7_0) rfl ?_
    refine s_aloadN X0 hx (D d7_1) rfl rfl ?_
    refine st1 _ ?_
    refine s_lcmp X1 hx (D d7_5) rfl ?_
    refine s_ifYes X1 hx 27 (D d7_6) ((if0 _ _).trans (flt (fun hh => hy ((lw_lt _ _).mp hh) : ¬ ((lcmpW y (0 : Int64)) < (0 : Int32)))).2.1) (of_decide_eq_true rfl) rfl ?_
    refine s_aloadN X1 hx (D d7_27) rfl rfl ?_
    refine s_iloadN X1 hx (D d7_28) rfl ?_
    refine st2.trans ?_
    refine s_aloadN X2 hx (D d7_32) rfl rfl ?_
    refine st3 _ ?_
    refine s_iloadN X3 hx (D d7_36) rfl ?_
    refine s_lloadN X3 hx (D d7_37) rfl ?_
    refine st4 _ ?_
    refine s_lloadN X4 hx (D d7_39) rfl ?_
    refine s_aloadN X4 hx (D d7_40) rfl rfl ?_
    refine st7 _ ?_
    refine s_lsub X7 hx (D d7_44) rfl ?_
    refine X7.ldc2Long hx hown (mvT hZ (wd 79 rfl)) (g := (mkF m 45 #[.val (.ref kq), .val (.int en), .val (.long y), .second] [(.long (y - (0 : Int64)))])) rfl (D d7_45) _ ?_
    refine s_lcmp X7 hx (D d7_48) rfl ?_
    exact Steps.refl _)
  by_cases hc9 : (lcmpW (y - (0 : Int64)) (65536 : Int64)) < (0 : Int32)
  · have f10 := (Q2_10.other W4 (ne5_4 NDp))
    have f11 := (Q2_11.other W4 (ne6_4 NDp))
    have f12 := (Q2_13.other W4 (ne1_4 NDp))
    have f13 := (Q2_14.other W4 (ne2_4 NDp))
    have f14 := (Q2_15.other W4 (ne3_4 NDp))
    have f15 := ((E_kq.keep K2).wr W4)
    have f16 := (Q2_0.other W4 (Or.inl (ne0_4 NDp)))
    have f17 := (Q2_1.other W4 (Or.inl (ne0_4 NDp)))
    have f18 := (Q2_2.other W4 (Or.inl (ne0_4 NDp)))
    have f19 := (Q2_3.other W4 (Or.inl (ne0_4 NDp)))
    have f20 := (Q2_4.other W4 (Or.inl (ne0_4 NDp)))
    have f21 := (Q2_5.other W4 (Or.inl (ne0_4 NDp)))
    have f22 := (Q2_6.other W4 (Or.inl (ne0_4 NDp)))
    have f23 := (Q2_7.other W4 (Or.inl (ne0_4 NDp)))
    have f24 := (Q2_8.other W4 (Or.inl (ne0_4 NDp)))
    have f25 := (Q2_12.other W4 (ne7_4 NDp))
    obtain ⟨cq26, q26, q26'⟩ := f15.cell
    obtain ⟨_, _, ⟨T26, L26, k26, n26⟩, -, X26, ⟨Lc26, hQ26, l26, y26, z26⟩, st26⟩ := X7.privateBack hx (y := (⟨"com/example/leasewise/leasewise/KilometreQueue", "link", "(I)V"⟩ : MethodName)) hown (mvT hZ (wd 103 rfl)) (mvT hZ (wd 104 rfl)) (own_selpriv (y := (⟨"com/example/leasewise/leasewise/KilometreQueue", "link", "(I)V"⟩ : MethodName)) (mvT hZ (wd 54 rfl)) rfl (Cond.privateMethod_at (mvP hZ (wd 105 rfl) (args := #[]))) (mvT hZ (wd 104 rfl)) (by decide)) (Cond.privateMethod_at (mvP hZ (wd 105 rfl) (args := #[]))) (mvT hZ (wd 106 rfl)) (by decide) (own_backH (W := 0) (rm_klink l Z a0 hw [] kq en aF aO aW aK aB aA aI hp lo aE aP kK kB kA kI kF kO kW vb__2 vi0_2 vi1_2 vi2_2 vi3_2 h4 n0 O4 f15 f16 f17 f18 f19 f20 f21 f22 f23 f24 f6 f25 NDp he g_kq g_aB g_aA g_aI g_aF g_aO g_aW V4 f10 f11 f12 f13 f14) hZH (wd 106 rfl) (wd 2 rfl) (by decide) (by decide)) (g := (mkF m 54 #[.val (.ref kq), .val (.int en), .val (.long y), .second] [(.int en), (.ref kq)])) rfl (by rw [hml]; rfl) (Steps.refl _) (a := kq) (by rw [e7]; exact q26) q26' (argsL := [(.int en)]) (rest := []) (lenOf pd_4 rfl) rfl (by show 2 * 0 + _ ≤ _; exact Nat.le_of_eq rfl) (D d7_54) (fun _ _ => ⟨rfl, e7, (by decide : 0 + 0 ≤ _), (by decide : 0 + 0 ≤ _)⟩)
    dsimp only [Pt.U, Pt.locs, Pt.cells, Pt.slots] at X26 l26 y26 z26 st26 hQ26
    subst l26 y26 z26
    obtain ⟨vb__26, rfl, N26q, K26, Q26_0, Q26_1, Q26_2, Q26_3, Q26_4, Q26_5, Q26_6, Q26_7, Q26_8, Q26_9, Q26_10, Q26_11, Q26_12, Q26_13, Q26_14, Q26_15⟩ := hQ26
    have O26 := O4.keep K26 (allS g_kq (allS g_aB (allS g_aA (allS g_aI (allS g_aF (allS g_aO (allS g_aW all0)))))))
    have KK26 : Keep h0 T26.heap [kq, aB, aA, aI, aF, aO, aW, hp, aE, aP, aK] := K4.trans K26 (allS (own_mem 0 rfl) (allS (own_mem 1 rfl) (allS (own_mem 2 rfl) (allS (own_mem 3 rfl) (allS (own_mem 4 rfl) (allS (own_mem 5 rfl) (allS (own_mem 6 rfl) all0)))))))
    have N26 := Fr.app N4 N26q
    have f27 := (V4.keep K26 (nn84 NDp))
    have f28 := ((Q2_16.other W4 (Or.inl (ne8_4 NDp))).keep K26 (nn73 NDp))
    have f29 := ((Q2_17.other W4 (Or.inl (ne8_4 NDp))).keep K26 (nn73 NDp))
    have f30 := ((Q2_18.other W4 (Or.inl (ne8_4 NDp))).keep K26 (nn73 NDp))
    have f31 := ((Q2_19.other W4 (Or.inl (ne8_4 NDp))).keep K26 (nn73 NDp))
    have f32 := ((Q2_20.other W4 (ne10_4 NDp)).keep K26 (nn74 NDp))
    have f33 := ((Q2_21.other W4 (ne11_4 NDp)).keep K26 (nn75 NDp))
    obtain ⟨fs, hr, hrun, hended, hW, hsame⟩ := X26.leave (v := none) (fun _ => rfl)
    refine ⟨_, _, pre0 _ ?_, hrun, hended, _, _, rfl, ?_, ⟨_, rfl⟩, hW, hsame.mono (by decide) (by decide)⟩
    · refine cs8.trans ?_
      refine s_ifNo X7 hx (D d7_49) ((if0 _ _).trans (tlt hc9).2.1) ?_
      refine s_aloadN X7 hx (D d7_52) rfl rfl ?_
      refine s_iloadN X7 hx (D d7_53) rfl ?_
      refine st26.trans ?_
      refine s_goto X26 hx 68 (D d7_57) (of_decide_eq_true rfl) rfl ?_
      exact X26.returnOut hx Bd.returns (D d7_68) hr
    · show Q_rm_kput Z kq en y aF aO aW aK aB aA aI hp lo aE aP cK kK kB kA kI kF kO kW kE kP bk ib0 ib1 ib2 ib3 sz en0 en1 en2 en3 po0 po1 po2 po3 mm0 mm1 mm2 mm3 h0 n0 _ T26.heap _
      exact ⟨ve0_2, ve1_2, ve2_2, ve3_2, vp0_2, vp1_2, vp2_2, vp3_2, vz__2, vb__26, (s4 en 0 (1 : Int32) vi0_2), (s4 en 1 (1 : Int32) vi1_2), (s4 en 2 (1 : Int32) vi2_2), (s4 en 3 (1 : Int32) vi3_2), rfl, N26, KK26, Q26_0, Q26_1, Q26_2, Q26_3, Q26_4, Q26_5, Q26_6, Q26_7, Q26_8, Q26_9, f27, Q26_10, Q26_11, Q26_12, Q26_13, Q26_14, Q26_15, f28, f29, f30, f31, f32, f33, (own_kl Q2_22)⟩
  · have f34 := (Q2_7.other W4 (Or.inl (ne0_4 NDp)))
    obtain ⟨T35, X35, e35, st35⟩ := getF X7 hx hZ hown (host := "") (Or.inl (wd 49 rfl)) Via.refl e7 f34 (g := (mkF m 61 #[.val (.ref kq), .val (.int en), .val (.long y), .second] [(.ref kq)])) rfl rfl (D d7_61)
    have f36 := ((Y_lo.keep K2 (nn88 NDp)).other W4 (ne9_4 NDp))
    have f37 := ((E_hp.keep K2).wr W4)
    have f38 := (Q2_16.other W4 (Or.inl (ne8_4 NDp)))
    have f39 := (Q2_17.other W4 (Or.inl (ne8_4 NDp)))
    have f40 := (Q2_18.other W4 (Or.inl (ne8_4 NDp)))
    have f41 := (Q2_19.other W4 (Or.inl (ne8_4 NDp)))
    have f42 := ((E_kq.keep K2).wr W4)
    have f43 := (Q2_0.other W4 (Or.inl (ne0_4 NDp)))
    have f44 := (Q2_20.other W4 (ne10_4 NDp))
    have f45 := (Q2_21.other W4 (ne11_4 NDp))
    obtain ⟨cq46, kq46, q46a, q46b, q46c⟩ := isOf hZ e35 f37
    obtain ⟨_, _, ⟨T46, L46, k46, n46⟩, -, X46, ⟨Lc46, hQ46, l46, y46, z46⟩, st46⟩ := X35.virtualBack hx (y := (⟨"com/example/leasewise/leasewise/IndexedHeap", "put", "(I)V"⟩ : MethodName)) (z := (⟨"com/example/leasewise/leasewise/IndexedHeap", "put", "(I)V"⟩ : MethodName)) hown (mvT hZ (wd 80 rfl)) (mvT hZ (wd 81 rfl)) (notFace_of_selects (args := #[]) (mvT hZ (wd 83 rfl))) (mvT hZ (wd 83 rfl)) (mvT hZ (wd 82 rfl)) (by decide) (own_backH (W := 0) (rm_hput l Z a0 hw [] hp en kq aF aO aW aK aB aA aI lo aE aP cK kK kE kP vz__2 ve0_2 ve1_2 ve2_2 ve3_2 vp0_2 vp1_2 vp2_2 vp3_2 h4 n0 O4 f37 f38 f39 f40 f41 f42 f43 MDc f44 f45 g_hp g_aE g_aP NDp Q2_22.1 he (own_kz Q2_22 he) V4 f36) hZH (wd 84 rfl) (wd 33 rfl) (by decide) (by decide)) q46a q46c (g := (mkF m 65 #[.val (.ref kq), .val (.int en), .val (.long y), .second] [(.int en), (.ref hp)])) rfl (by rw [hml]; rfl) (Steps.refl _) (argsL := [(.int en)]) (rest := []) (lenOf pd_4 rfl) rfl (by show 2 * 0 + _ ≤ _; exact Nat.le_of_eq rfl) (D d7_65) (fun _ _ => ⟨rfl, e35, (by decide : 0 + 0 ≤ _), (by decide : 0 + 0 ≤ _)⟩)
    dsimp only [Pt.U, Pt.locs, Pt.cells, Pt.slots] at X46 l46 y46 z46 st46 hQ46
    subst l46 y46 z46
    obtain ⟨ve0_46, ve1_46, ve2_46, ve3_46, vp0_46, vp1_46, vp2_46, vp3_46, vz__46, rfl, N46q, K46, Q46_0, Q46_1, Q46_2, Q46_3, Q46_4, Q46_5, Q46_6⟩ := hQ46
    have O46 := O4.keep K46 (allS g_hp (allS g_aE (allS g_aP all0)))
    have KK46 : Keep h0 T46.heap [kq, aB, aA, aI, aF, aO, aW, hp, aE, aP, aK] := K4.trans K46 (allS (own_mem 7 rfl) (allS (own_mem 8 rfl) (allS (own_mem 9 rfl) all0)))
    have N46 := Fr.app N4 N46q
    have f47 := (f43.keep K46 (nn66 NDp))
    have f48 := ((Q2_1.other W4 (Or.inl (ne0_4 NDp))).keep K46 (nn66 NDp))
    have f49 := ((Q2_2.other W4 (Or.inl (ne0_4 NDp))).keep K46 (nn66 NDp))
    have f50 := ((Q2_3.other W4 (Or.inl (ne0_4 NDp))).keep K46 (nn66 NDp))
    have f51 := ((Q2_4.other W4 (Or.inl (ne0_4 NDp))).keep K46 (nn66 NDp))
    have f52 := ((Q2_5.other W4 (Or.inl (ne0_4 NDp))).keep K46 (nn66 NDp))
    have f53 := ((Q2_6.other W4 (Or.inl (ne0_4 NDp))).keep K46 (nn66 NDp))
    have f54 := (f34.keep K46 (nn66 NDp))
    have f55 := ((Q2_8.other W4 (Or.inl (ne0_4 NDp))).keep K46 (nn66 NDp))
    have f56 := (f6.keep K46 (nn66 NDp))
    have f57 := (V4.keep K46 (nn90 NDp))
    have f58 := ((Q2_10.other W4 (ne5_4 NDp)).keep K46 (nn67 NDp))
    have f59 := ((Q2_11.other W4 (ne6_4 NDp)).keep K46 (nn68 NDp))
    have f60 := ((Q2_12.other W4 (ne7_4 NDp)).keep K46 (nn69 NDp))
    have f61 := ((Q2_13.other W4 (ne1_4 NDp)).keep K46 (nn70 NDp))
    have f62 := ((Q2_14.other W4 (ne2_4 NDp)).keep K46 (nn71 NDp))
    have f63 := ((Q2_15.other W4 (ne3_4 NDp)).keep K46 (nn72 NDp))
    obtain ⟨fs, hr, hrun, hended, hW, hsame⟩ := X46.leave (v := none) (fun _ => rfl)
    refine ⟨_, _, pre0 _ ?_, hrun, hended, _, _, rfl, ?_, ⟨_, rfl⟩, hW, hsame.mono (by decide) (by decide)⟩
    · refine cs8.trans ?_
      refine s_ifYes X7 hx 60 (D d7_49) ((if0 _ _).trans (flt hc9).2.1) (of_decide_eq_true rfl) rfl ?_
      refine s_aloadN X7 hx (D d7_60) rfl rfl ?_
      refine st35 _ ?_
      refine s_iloadN X35 hx (D d7_64) rfl ?_
      refine st46.trans ?_
      exact X46.returnOut hx Bd.returns (D d7_68) hr
    · show Q_rm_kput Z kq en y aF aO aW aK aB aA aI hp lo aE aP cK kK kB kA kI kF kO kW kE kP bk ib0 ib1 ib2 ib3 sz en0 en1 en2 en3 po0 po1 po2 po3 mm0 mm1 mm2 mm3 h0 n0 _ T46.heap _
      exact ⟨ve0_46, ve1_46, ve2_46, ve3_46, vp0_46, vp1_46, vp2_46, vp3_46, vz__46, vb__2, vi0_2, vi1_2, vi2_2, vi3_2, rfl, N46, KK46, f47, f48, f49, f50, f51, f52, f53, f54, f55, f56, f57, f58, f59, f60, f61, f62, f63, Q46_0, Q46_1, Q46_2, Q46_3, Q46_4, Q46_5, (own_kp Q2_22 Q46_6)⟩
theorem own_ite0 {p : Int32} : (if p = (-1 : Int32) then (0 : Int32) else (1 : Int32)) = (0 : Int32) ↔ p = -1 := by
  by_cases h : p = -1
  · simp [h]
  · simp [h]
theorem d5_0 : decode prog_39_method_3_code 0 = .ok (.aload_n 0, 1) := by decide +kernel
theorem d5_1 : decode prog_39_method_3_code 1 = .ok (.getfield 32, 3) := by decide +kernel
theorem d5_4 : decode prog_39_method_3_code 4 = .ok (.iload_n 1, 1) := by decide +kernel
theorem d5_5 : decode prog_39_method_3_code 5 = .ok (.baload, 1) := by decide +kernel
theorem d5_6 : decode prog_39_method_3_code 6 = .ok (.ifCond .ne 14, 3) := by decide +kernel
theorem d5_9 : decode prog_39_method_3_code 9 = .ok (.aload_n 0, 1) := by decide +kernel
theorem d5_10 : decode prog_39_method_3_code 10 = .ok (.getfield 50, 3) := by decide +kernel
theorem d5_13 : decode prog_39_method_3_code 13 = .ok (.iload_n 1, 1) := by decide +kernel
theorem d5_14 : decode prog_39_method_3_code 14 = .ok (.invokevirtual 62, 3) := by decide +kernel
theorem d5_17 : decode prog_39_method_3_code 17 = .ok (.ifCond .eq 7, 3) := by decide +kernel
theorem d5_20 : decode prog_39_method_3_code 20 = .ok (.iconst 1, 1) := by decide +kernel
theorem d5_21 : decode prog_39_method_3_code 21 = .ok (.goto 4, 3) := by decide +kernel
theorem d5_24 : decode prog_39_method_3_code 24 = .ok (.iconst 0, 1) := by decide +kernel
theorem d5_25 : decode prog_39_method_3_code 25 = .ok (.ireturn, 1) := by decide +kernel
theorem ef_rm_kcontains (m : MethodId) (x0 : Addr) (x1 : Int32) : entryFrame m #[(.ref x0), (.int x1)] 2 = mkF m 0 #[.val (.ref x0), .val (.int x1)] [] := by first | (simp [entryFrame, mkF, argsToLocals, Value.category]; done) | rfl
def Q_rm_kcontains (Z : State) (kq : Addr) (en : Int32) (aF aO aW aK aB aA aI hp lo aE aP : Addr) (kI kE kP : ClassId) (bk ib0 ib1 ib2 ib3 sz en0 en1 en2 en3 po0 po1 po2 po3 mm0 mm1 mm2 mm3 : Int32) (h0 : Heap) (n0 : Nat) (v : Option Value) (h : Heap) (L : List Loc) : Prop := v = some (.int (g4 en mm0 mm1 mm2 mm3)) ∧ Fr n0 L ∧ h = h0
set_option maxRecDepth 65536 in
set_option maxHeartbeats 40000000 in
theorem rm_kcontains (l : Launch) (Z : State) (a0 : Array Value) (hw : ∀ d ∈ tables_1, d.before a0 Z = true) (ws : List Jvm.Cond) (kq : Addr) (en : Int32) (aF aO aW aK aB aA aI hp lo aE aP : Addr) (kI kE kP : ClassId) (bk ib0 ib1 ib2 ib3 sz en0 en1 en2 en3 po0 po1 po2 po3 mm0 mm1 mm2 mm3 : Int32) (h0 : Heap) (n0 : Nat) (O0 : Old Z n0 h0) (E_kq : Exa Z h0 kq "com/example/leasewise/leasewise/KilometreQueue") (F_kq_keys : Fld Z h0 kq "com/example/leasewise/leasewise/KilometreQueue" "keys" "[J" (.ref aK)) (F_kq_before : Fld Z h0 kq "com/example/leasewise/leasewise/KilometreQueue" "before" "[I" (.ref aB)) (F_kq_after : Fld Z h0 kq "com/example/leasewise/leasewise/KilometreQueue" "after" "[I" (.ref aA)) (F_kq_inBucket : Fld Z h0 kq "com/example/leasewise/leasewise/KilometreQueue" "inBucket" "[Z" (.ref aI)) (F_kq_firsts : Fld Z h0 kq "com/example/leasewise/leasewise/KilometreQueue" "firsts" "[I" (.ref aF)) (F_kq_occupied : Fld Z h0 kq "com/example/leasewise/leasewise/KilometreQueue" "occupied" "[J" (.ref aO)) (F_kq_occupiedWords : Fld Z h0 kq "com/example/leasewise/leasewise/KilometreQueue" "occupiedWords" "[J" (.ref aW)) (F_kq_further : Fld Z h0 kq "com/example/leasewise/leasewise/KilometreQueue" "further" "Lcom/example/leasewise/leasewise/IndexedHeap;" (.ref hp)) (F_kq_bucketed : Fld Z h0 kq "com/example/leasewise/leasewise/KilometreQueue" "bucketed" "I" (.int bk)) (F_kq_floor : Fld Z h0 kq "com/example/leasewise/leasewise/KilometreQueue" "floor" "J" (.long (0 : Int64))) (V_aI : Arv Z h0 aI kI .boolean (4 : Int32) [(.int ib0), (.int ib1), (.int ib2), (.int ib3)] (.int (0 : Int32))) (E_hp : Exa Z h0 hp "com/example/leasewise/leasewise/IndexedHeap") (F_hp_order : Fld Z h0 hp "com/example/leasewise/leasewise/IndexedHeap" "order" "Lcom/example/leasewise/leasewise/IndexedHeap$Order;" (.ref lo)) (F_hp_entries : Fld Z h0 hp "com/example/leasewise/leasewise/IndexedHeap" "entries" "[I" (.ref aE)) (F_hp_positions : Fld Z h0 hp "com/example/leasewise/leasewise/IndexedHeap" "positions" "[I" (.ref aP)) (F_hp_size : Fld Z h0 hp "com/example/leasewise/leasewise/IndexedHeap" "size" "I" (.int sz)) (V_aE : Arv Z h0 aE kE .int (4 : Int32) [(.int en0), (.int en1), (.int en2), (.int en3)] (.int (0 : Int32))) (V_aP : Arv Z h0 aP kP .int (4 : Int32) [(.int po0), (.int po1), (.int po2), (.int po3)] (.int (-1 : Int32))) (KI0 : KI sz en0 en1 en2 en3 po0 po1 po2 po3 ib0 ib1 ib2 ib3 mm0 mm1 mm2 mm3) (he : I4 en) :
    MetFree l (⟨"com/example/leasewise/leasewise/KilometreQueue", "contains", "(I)Z"⟩ : MethodName) (head1 (Jvm.Cond.code (⟨"com/example/leasewise/leasewise/KilometreQueue", "contains", "(I)Z"⟩ : MethodName) prog_39_method_3_code 2 (some .boolean) :: ws) ({ frames := 1, cells := 0, slots := 0, locals := 13 } : Room)) (fun a U => a = #[(.ref kq), (.int en)] ∧ Z.WarmedH U.vm ∧ U.heap = h0) (fun _ _ _ _ _ => True) (fun _ U o U' => ∃ v L, o = .returned v ∧ Q_rm_kcontains Z kq en aF aO aW aK aB aA aI hp lo aE aP kI kE kP bk ib0 ib1 ib2 ib3 sz en0 en1 en2 en3 po0 po1 po2 po3 mm0 mm1 mm2 mm3 h0 n0 v U'.heap L ∧ FrameEnd U o U' L ({ frames := 1, cells := 0, slots := 0, locals := 13 } : Room).cells ({ frames := 1, cells := 0, slots := 0, locals := 13 } : Room).slots) := by
  refine MetFree.of_bodySF (plainFor_of_name pn_2) hisR ?_
  intro p e s m args below meth c s₁ Bd hml0 hP hK
  obtain ⟨rfl, hZH, hh⟩ := hP
  have hZ := hZH.wide
  have hx := Bd.exec
  have hby := Bd.bytes
  have D := fun {pc : Nat} {r : Except ClassFile.DecodeError (ClassFile.Instr × Nat)} (q : decode prog_39_method_3_code pc = r) => hb (pc := pc) hby q
  have hml : c.maxLocals = 2 := hml0
  have hown : s.vm.findClass "com/example/leasewise/leasewise/KilometreQueue" = some m.cls := findClass_of_methodNamed Bd.named
  have hnm := (name_of_methodNamed Bd.named Bd.method).1
  have X0 : Stand p l e ({ frames := 1, cells := 0, slots := 0, locals := 13 } : Room) s m #[(.ref kq), (.int en)] below meth c s₁ [] 0 0 := Stand.of_body Bd
  have e0 : s₁.heap = h0 := by rw [← hh, Bd.state]; rfl
  have N0 := Fr.nil n0
  have pre0 : ∀ t, Steps p.tables e below (s₁.setTop (mkF m 0 #[.val (.ref kq), .val (.int en)] [])) t → Steps p.tables e below (s₁.setTop (entryFrame m #[(.ref kq), (.int en)] 2)) t := fun t k => castTop (ef_rm_kcontains m (kq) (en)) k
  have wd := fun {d : Jvm.Cond} (i : Nat) (h : tables_1[i]? = some d) => hw d (List.mem_of_getElem? h)
  obtain ⟨T1, X1, e1, st1⟩ := getF X0 hx hZ hown (host := "") (Or.inl (wd 25 rfl)) Via.refl e0 F_kq_inBucket (g := (mkF m 1 #[.val (.ref kq), .val (.int en)] [(.ref kq)])) rfl rfl (D d5_1)
  obtain ⟨cl2, Ar2, q2, S2, Nn2, H2, G2⟩ := id V_aI
  have hin2 : ¬ (en < 0 ∨ cl2.slots.size ≤ (en).toNatClampNeg) := inb_of S2 (own_in4 he)
  obtain ⟨y2, hy2⟩ : ∃ y, y = g4 en ib0 ib1 ib2 ib3 := ⟨_, rfl⟩
  have hat2 := own_get4 H2 hin2 he hy2
  have cs3 : Steps p.tables e below (s₁.setTop (mkF m 0 #[.val (.ref kq), .val (.int en)] [])) (T1.setTop (mkF m 6 #[.val (.ref kq), .val (.int en)] [(.int y2)])) := (by
    refine s_aloadN X0 hx (D d5_0) rfl rfl ?_
    refine st1 _ ?_
    refine s_iloadN X1 hx (D d5_4) rfl ?_
    refine X1.baloadBooleans hx (j := en) (v := (.int y2)) (by rw [e1]; exact (Ar2).1) (State.isArrayOf_alike hZ.alike (Ar2).2.1) (Ar2).2.2 hin2 hat2 (g := (mkF m 5 #[.val (.ref kq), .val (.int en)] [(.int en), (.ref aI)])) rfl rfl (D d5_5) _ ?_
    exact Steps.refl _)
  by_cases hc4 : y2 = (0 : Int32)
  · obtain ⟨T5, X5, e5, st5⟩ := getF X1 hx hZ hown (host := "") (Or.inl (wd 49 rfl)) Via.refl e1 F_kq_further (g := (mkF m 10 #[.val (.ref kq), .val (.int en)] [(.ref kq)])) rfl rfl (D d5_10)
    obtain ⟨cq6, kq6, q6a, q6b, q6c⟩ := isOf hZ e5 E_hp
    obtain ⟨_, _, ⟨T6, L6, k6, n6⟩, -, X6, ⟨Lc6, hQ6, l6, y6, z6⟩, st6⟩ := X5.virtualBack hx (y := (⟨"com/example/leasewise/leasewise/IndexedHeap", "contains", "(I)Z"⟩ : MethodName)) (z := (⟨"com/example/leasewise/leasewise/IndexedHeap", "contains", "(I)Z"⟩ : MethodName)) hown (mvT hZ (wd 56 rfl)) (mvT hZ (wd 57 rfl)) (notFace_of_selects (args := #[]) (mvT hZ (wd 59 rfl))) (mvT hZ (wd 59 rfl)) (mvT hZ (wd 58 rfl)) (by decide) (own_backH (W := 0) (rm_hcontains l Z a0 hw [] hp en kq aF aO aW aK aB aA aI lo aE aP kP po0 po1 po2 po3 h0 n0 O0 E_hp F_hp_order F_hp_entries F_hp_positions V_aP he) hZH (wd 60 rfl) (wd 33 rfl) (by decide) (by decide)) q6a q6c (g := (mkF m 14 #[.val (.ref kq), .val (.int en)] [(.int en), (.ref hp)])) rfl (by rw [hml]; rfl) (Steps.refl _) (argsL := [(.int en)]) (rest := []) (lenOf pd_2 rfl) rfl (by show 2 * 0 + _ ≤ _; exact Nat.le_of_eq rfl) (D d5_14) (fun _ _ => ⟨rfl, e5, (by decide : 0 + 0 ≤ _), (by decide : 0 + 0 ≤ _)⟩)
    dsimp only [Pt.U, Pt.locs, Pt.cells, Pt.slots] at X6 l6 y6 z6 st6 hQ6
    subst l6 y6 z6
    obtain ⟨rfl, N6q, e6⟩ := hQ6
    have N6 := Fr.app N0 N6q
    have cs7 : Steps p.tables e below (s₁.setTop (mkF m 0 #[.val (.ref kq), .val (.int en)] [])) (T6.setTop (mkF m 17 #[.val (.ref kq), .val (.int en)] [(.int (if g4 en po0 po1 po2 po3 = (-1 : Int32) then (0 : Int32) else (1 : Int32)))])) := cs3.trans (by
      refine s_ifNo X1 hx (D d5_6) ((if0 _ _).trans (teq hc4).2) ?_
      refine s_aloadN X1 hx (D d5_9) rfl rfl ?_
      refine st5 _ ?_
      refine s_iloadN X5 hx (D d5_13) rfl ?_
      refine st6.trans ?_
      exact Steps.refl _)
    by_cases hc8 : (if g4 en po0 po1 po2 po3 = (-1 : Int32) then (0 : Int32) else (1 : Int32)) = (0 : Int32)
    · obtain ⟨fs, hr, hrun, hended, hW, hsame⟩ := X6.leave (v := some (.int (0 : Int32))) (fun h => by rw [Bd.returns] at h; cases h)
      refine ⟨_, _, pre0 _ ?_, hrun, hended, _, _, rfl, ?_, ⟨_, rfl⟩, hW, hsame.mono (by decide) (by decide)⟩
      · refine cs7.trans ?_
        refine s_ifYes X6 hx 24 (D d5_17) ((if0 _ _).trans (teq hc8).1) (of_decide_eq_true rfl) rfl ?_
        refine s_iconst X6 hx (0 : Int32) (D d5_24) rfl ?_
        exact retN X6 hx (t := .boolean) Bd.returns (by simp) (D d5_25) hr
      · show Q_rm_kcontains Z kq en aF aO aW aK aB aA aI hp lo aE aP kI kE kP bk ib0 ib1 ib2 ib3 sz en0 en1 en2 en3 po0 po1 po2 po3 mm0 mm1 mm2 mm3 h0 n0 _ T6.heap _
        rw [e6]
        exact ⟨congrArg (fun z => some (Value.int z)) (own_mb_3 (own_mbg KI0 he hy2) hc4 (own_ite0.mp hc8)).symm, N6, rfl⟩
    · obtain ⟨fs, hr, hrun, hended, hW, hsame⟩ := X6.leave (v := some (.int (1 : Int32))) (fun h => by rw [Bd.returns] at h; cases h)
      refine ⟨_, _, pre0 _ ?_, hrun, hended, _, _, rfl, ?_, ⟨_, rfl⟩, hW, hsame.mono (by decide) (by decide)⟩
      · refine cs7.trans ?_
        refine s_ifNo X6 hx (D d5_17) ((if0 _ _).trans (feq hc8).1) ?_
        refine s_iconst X6 hx (1 : Int32) (D d5_20) rfl ?_
        refine s_goto X6 hx 25 (D d5_21) (of_decide_eq_true rfl) rfl ?_
        exact retN X6 hx (t := .boolean) Bd.returns (by simp) (D d5_25) hr
      · show Q_rm_kcontains Z kq en aF aO aW aK aB aA aI hp lo aE aP kI kE kP bk ib0 ib1 ib2 ib3 sz en0 en1 en2 en3 po0 po1 po2 po3 mm0 mm1 mm2 mm3 h0 n0 _ T6.heap _
        rw [e6]
        exact ⟨congrArg (fun z => some (Value.int z)) (own_mb_2 (own_mbg KI0 he hy2) hc4 (fun z => hc8 (own_ite0.mpr z))).symm, N6, rfl⟩
  · obtain ⟨fs, hr, hrun, hended, hW, hsame⟩ := X1.leave (v := some (.int (1 : Int32))) (fun h => by rw [Bd.returns] at h; cases h)
    refine ⟨_, _, pre0 _ ?_, hrun, hended, _, _, rfl, ?_, ⟨_, rfl⟩, hW, hsame.mono (by decide) (by decide)⟩
    · refine cs3.trans ?_
      refine s_ifYes X1 hx 20 (D d5_6) ((if0 _ _).trans (feq hc4).2) (of_decide_eq_true rfl) rfl ?_
      refine s_iconst X1 hx (1 : Int32) (D d5_20) rfl ?_
      refine s_goto X1 hx 25 (D d5_21) (of_decide_eq_true rfl) rfl ?_
      exact retN X1 hx (t := .boolean) Bd.returns (by simp) (D d5_25) hr
    · show Q_rm_kcontains Z kq en aF aO aW aK aB aA aI hp lo aE aP kI kE kP bk ib0 ib1 ib2 ib3 sz en0 en1 en2 en3 po0 po1 po2 po3 mm0 mm1 mm2 mm3 h0 n0 _ T1.heap _
      rw [e1]
      exact ⟨congrArg (fun z => some (Value.int z)) (own_mb_1 (own_mbg KI0 he hy2) hc4).2.symm, N0, rfl⟩
theorem d4_0 : decode prog_35_method_1_code 0 = .ok (.aload_n 0, 1) := by decide +kernel
theorem d4_1 : decode prog_35_method_1_code 1 = .ok (.invokespecial 1, 3) := by decide +kernel
theorem d4_4 : decode prog_35_method_1_code 4 = .ok (.aload_n 0, 1) := by decide +kernel
theorem d4_5 : decode prog_35_method_1_code 5 = .ok (.aload_n 2, 1) := by decide +kernel
theorem d4_6 : decode prog_35_method_1_code 6 = .ok (.putfield 7, 3) := by decide +kernel
theorem d4_9 : decode prog_35_method_1_code 9 = .ok (.aload_n 0, 1) := by decide +kernel
theorem d4_10 : decode prog_35_method_1_code 10 = .ok (.iload_n 1, 1) := by decide +kernel
theorem d4_11 : decode prog_35_method_1_code 11 = .ok (.newarray .int, 2) := by decide +kernel
theorem d4_13 : decode prog_35_method_1_code 13 = .ok (.putfield 13, 3) := by decide +kernel
theorem d4_16 : decode prog_35_method_1_code 16 = .ok (.aload_n 0, 1) := by decide +kernel
theorem d4_17 : decode prog_35_method_1_code 17 = .ok (.iload_n 1, 1) := by decide +kernel
theorem d4_18 : decode prog_35_method_1_code 18 = .ok (.newarray .int, 2) := by decide +kernel
theorem d4_20 : decode prog_35_method_1_code 20 = .ok (.putfield 17, 3) := by decide +kernel
theorem d4_23 : decode prog_35_method_1_code 23 = .ok (.aload_n 0, 1) := by decide +kernel
theorem d4_24 : decode prog_35_method_1_code 24 = .ok (.getfield 17, 3) := by decide +kernel
theorem d4_27 : decode prog_35_method_1_code 27 = .ok (.iconst (-1), 1) := by decide +kernel
theorem d4_28 : decode prog_35_method_1_code 28 = .ok (.invokestatic 20, 3) := by decide +kernel
theorem d4_31 : decode prog_35_method_1_code 31 = .ok (.return_, 1) := by decide +kernel
theorem pd_5 : parseMethodDescriptor "([II)V" = some ⟨[(.array .int), .int], none⟩ := by decide +kernel
theorem ef_rm_hinit (m : MethodId) (x0 : Addr) (x1 : Int32) (x2 : Addr) : entryFrame m #[(.ref x0), (.int x1), (.ref x2)] 3 = mkF m 0 #[.val (.ref x0), .val (.int x1), .val (.ref x2)] [] := by first | (simp [entryFrame, mkF, argsToLocals, Value.category]; done) | rfl
def Q_rm_hinit (Z : State) (hp : Addr) (lo : Addr) (h0 : Heap) (n0 : Nat) (v : Option Value) (h : Heap) (L : List Loc) : Prop := ∃ (aE : Addr) (aP : Addr) (kE : ClassId) (kP : ClassId), v = none ∧ Fr n0 L ∧ Keep h0 h [hp] ∧ h0.size ≤ aE ∧ h0.size ≤ aP ∧ Fld Z h hp "com/example/leasewise/leasewise/IndexedHeap" "order" "Lcom/example/leasewise/leasewise/IndexedHeap$Order;" (.ref lo) ∧ Fld Z h hp "com/example/leasewise/leasewise/IndexedHeap" "entries" "[I" (.ref aE) ∧ Fld Z h hp "com/example/leasewise/leasewise/IndexedHeap" "positions" "[I" (.ref aP) ∧ Fld Z h hp "com/example/leasewise/leasewise/IndexedHeap" "size" "I" (.int (0 : Int32)) ∧ Arv Z h aE kE .int (4 : Int32) [(.int (0 : Int32)), (.int (0 : Int32)), (.int (0 : Int32)), (.int (0 : Int32))] (.int (0 : Int32)) ∧ Arv Z h aP kP .int (4 : Int32) [(.int (-1 : Int32)), (.int (-1 : Int32)), (.int (-1 : Int32)), (.int (-1 : Int32))] (.int (-1 : Int32)) ∧ (aE < aP)
set_option maxRecDepth 65536 in
set_option maxHeartbeats 40000000 in
theorem rm_hinit (l : Launch) (Z : State) (a0 : Array Value) (hw : ∀ d ∈ tables_1, d.before a0 Z = true) (ws : List Jvm.Cond) (hp : Addr) (lo : Addr) (h0 : Heap) (n0 : Nat) (O0 : Old Z n0 h0) (E_hp : Exa Z h0 hp "com/example/leasewise/leasewise/IndexedHeap") (F_hp_order : Fld Z h0 hp "com/example/leasewise/leasewise/IndexedHeap" "order" "Lcom/example/leasewise/leasewise/IndexedHeap$Order;" .null) (F_hp_entries : Fld Z h0 hp "com/example/leasewise/leasewise/IndexedHeap" "entries" "[I" .null) (F_hp_positions : Fld Z h0 hp "com/example/leasewise/leasewise/IndexedHeap" "positions" "[I" .null) (F_hp_size : Fld Z h0 hp "com/example/leasewise/leasewise/IndexedHeap" "size" "I" (.int (0 : Int32))) (g_hp : n0 ≤ hp) :
    MetFree l (⟨"com/example/leasewise/leasewise/IndexedHeap", "<init>", "(ILcom/example/leasewise/leasewise/IndexedHeap$Order;)V"⟩ : MethodName) (head1 (Jvm.Cond.code (⟨"com/example/leasewise/leasewise/IndexedHeap", "<init>", "(ILcom/example/leasewise/leasewise/IndexedHeap$Order;)V"⟩ : MethodName) prog_35_method_1_code 3 none :: ws) ({ frames := 1, cells := 2, slots := 8, locals := 15 } : Room)) (fun a U => a = #[(.ref hp), (.int (4 : Int32)), (.ref lo)] ∧ Z.WarmedH U.vm ∧ U.heap = h0) (fun _ _ _ _ _ => True) (fun _ U o U' => ∃ v L, o = .returned v ∧ Q_rm_hinit Z hp lo h0 n0 v U'.heap L ∧ FrameEnd U o U' L ({ frames := 1, cells := 2, slots := 8, locals := 15 } : Room).cells ({ frames := 1, cells := 2, slots := 8, locals := 15 } : Room).slots) := by
  refine MetFree.of_bodySF (plainFor_of_name pn_1) hisR ?_
  intro p e s m args below meth c s₁ Bd hml0 hP hK
  obtain ⟨rfl, hZH, hh⟩ := hP
  have hZ := hZH.wide
  have hx := Bd.exec
  have hby := Bd.bytes
  have D := fun {pc : Nat} {r : Except ClassFile.DecodeError (ClassFile.Instr × Nat)} (q : decode prog_35_method_1_code pc = r) => hb (pc := pc) hby q
  have hml : c.maxLocals = 3 := hml0
  have hown : s.vm.findClass "com/example/leasewise/leasewise/IndexedHeap" = some m.cls := findClass_of_methodNamed Bd.named
  have hnm := (name_of_methodNamed Bd.named Bd.method).1
  have X0 : Stand p l e ({ frames := 1, cells := 2, slots := 8, locals := 15 } : Room) s m #[(.ref hp), (.int (4 : Int32)), (.ref lo)] below meth c s₁ [] 0 0 := Stand.of_body Bd
  have e0 : s₁.heap = h0 := by rw [← hh, Bd.state]; rfl
  have N0 := Fr.nil n0
  have pre0 : ∀ t, Steps p.tables e below (s₁.setTop (mkF m 0 #[.val (.ref hp), .val (.int (4 : Int32)), .val (.ref lo)] [])) t → Steps p.tables e below (s₁.setTop (entryFrame m #[(.ref hp), (.int (4 : Int32)), (.ref lo)] 3)) t := fun t k => castTop (ef_rm_hinit m (hp) ((4 : Int32)) (lo)) k
  have wd := fun {d : Jvm.Cond} (i : Nat) (h : tables_1[i]? = some d) => hw d (List.mem_of_getElem? h)
  obtain ⟨T1, X1, e1, st1⟩ := initO X0 hx hZ hown (wd 41 rfl) (wd 7 rfl) (wd 8 rfl) e0 (g := (mkF m 1 #[.val (.ref hp), .val (.int (4 : Int32)), .val (.ref lo)] [(.ref hp)])) rfl (by rw [hml]; rfl) rfl (D d4_1) (by decide) (W := 0) (by show 2 * 0 + _ ≤ _; exact Nat.le_of_eq rfl) (by decide)
  obtain ⟨T2, h2, X2, e2, W2, st2⟩ := putF X1 hx hZ hown (host := "") (Or.inl (wd 42 rfl)) Via.refl e1 F_hp_order E_hp (Or.inr ⟨(wd 43 rfl), rfl, hnm⟩) (wd 32 rfl) (ty := (.object "com/example/leasewise/leasewise/IndexedHeap$Order")) (by decide) rfl rfl (g := (mkF m 6 #[.val (.ref hp), .val (.int (4 : Int32)), .val (.ref lo)] [(.ref lo), (.ref hp)])) rfl rfl (D d4_6)
  have Fw2 : Fld Z h2 hp "com/example/leasewise/leasewise/IndexedHeap" "order" "Lcom/example/leasewise/leasewise/IndexedHeap$Order;" (.ref lo) := Fld.same W2 F_hp_order
  have N2 := Fr.snoc X2 N0 g_hp
  have Zn2 : n0 ≤ h2.size := Nat.le_trans (own_oldsz O0) (Keep.of_wr W2).1
  have K2 : Keep h0 h2 [hp] := (Keep.refl h0 [hp]).wr W2 (Or.inl (List.mem_of_getElem? (i := 0) rfl))
  have O2 := O0.wr W2 g_hp
  obtain ⟨T3, h3, fk3, X3, e3, E3, A3, st3⟩ := newP X2 hx hZ (wd 10 rfl) e2 (g := (mkF m 11 #[.val (.ref hp), .val (.int (4 : Int32)), .val (.ref lo)] [(.int (4 : Int32)), (.ref hp)])) rfl (D d4_11) rfl (by decide) (cap := 4) (by decide) (by decide) (by decide) (by decide)
  obtain ⟨fa3, g3⟩ : ∃ z, z = h2.size := ⟨_, rfl⟩
  rw [← g3] at A3 st3
  have gn_fa3 : n0 ≤ fa3 := Nat.le_trans Zn2 (Nat.le_of_eq g3.symm)
  have gh_fa3 : h0.size ≤ fa3 := Nat.le_trans K2.1 (Nat.le_of_eq g3.symm)
  have Zn3 : n0 ≤ h3.size := Nat.le_trans Zn2 E3.1
  have K3 : Keep h0 h3 [hp] := K2.ext E3
  have O3 := O2.ext E3
  have V3 : Arv Z h3 fa3 fk3 .int (4 : Int32) [(.int (0 : Int32)), (.int (0 : Int32)), (.int (0 : Int32)), (.int (0 : Int32))] (.int (0 : Int32)) := (Arv.new A3 (by decide)).pad (pad_rep [] (.int (0 : Int32)) 4)
  have f5 := ((F_hp_entries.other W2 (Or.inr (slot_ne (Or.inr (wd 45 rfl)) (Or.inr (wd 43 rfl)) (by decide) (t := (.array .int)) (t' := (.object "com/example/leasewise/leasewise/IndexedHeap$Order")) (by decide) (by decide)))).ext E3)
  have f6 := ((E_hp.wr W2).ext E3)
  obtain ⟨T4, h4, X4, e4, W4, st4⟩ := putF X3 hx hZ hown (host := "") (Or.inl (wd 44 rfl)) Via.refl e3 f5 f6 (Or.inr ⟨(wd 45 rfl), rfl, hnm⟩) (wd 32 rfl) (ty := (.array .int)) (by decide) rfl rfl (g := (mkF m 13 #[.val (.ref hp), .val (.int (4 : Int32)), .val (.ref lo)] [(.ref fa3), (.ref hp)])) rfl rfl (D d4_13)
  have Fw4 : Fld Z h4 hp "com/example/leasewise/leasewise/IndexedHeap" "entries" "[I" (.ref fa3) := Fld.same W4 f5
  have N4 := Fr.snoc X4 N2 g_hp
  have Zn4 : n0 ≤ h4.size := Nat.le_trans Zn3 (Keep.of_wr W4).1
  have K4 : Keep h0 h4 [hp] := K3.wr W4 (Or.inl (List.mem_of_getElem? (i := 0) rfl))
  have O4 := O3.wr W4 g_hp
  obtain ⟨T7, h7, fk7, X7, e7, E7, A7, st7⟩ := newP X4 hx hZ (wd 10 rfl) e4 (g := (mkF m 18 #[.val (.ref hp), .val (.int (4 : Int32)), .val (.ref lo)] [(.int (4 : Int32)), (.ref hp)])) rfl (D d4_18) rfl (by decide) (cap := 4) (by decide) (by decide) (by decide) (by decide)
  obtain ⟨fa7, g7⟩ : ∃ z, z = h4.size := ⟨_, rfl⟩
  rw [← g7] at A7 st7
  have gn_fa7 : n0 ≤ fa7 := Nat.le_trans Zn4 (Nat.le_of_eq g7.symm)
  have gh_fa7 : h0.size ≤ fa7 := Nat.le_trans K4.1 (Nat.le_of_eq g7.symm)
  have Zn7 : n0 ≤ h7.size := Nat.le_trans Zn4 E7.1
  have K7 : Keep h0 h7 [hp] := K4.ext E7
  have O7 := O4.ext E7
  have V7 : Arv Z h7 fa7 fk7 .int (4 : Int32) [(.int (0 : Int32)), (.int (0 : Int32)), (.int (0 : Int32)), (.int (0 : Int32))] (.int (0 : Int32)) := (Arv.new A7 (by decide)).pad (pad_rep [] (.int (0 : Int32)) 4)
  have f9 := ((((F_hp_positions.other W2 (Or.inr (slot_ne (Or.inr (wd 47 rfl)) (Or.inr (wd 43 rfl)) (by decide) (t := (.array .int)) (t' := (.object "com/example/leasewise/leasewise/IndexedHeap$Order")) (by decide) (by decide)))).ext E3).other W4 (Or.inr (slot_ne (Or.inr (wd 47 rfl)) (Or.inr (wd 45 rfl)) (by decide) (t := (.array .int)) (t' := (.array .int)) (by decide) (by decide)))).ext E7)
  have f10 := ((f6.wr W4).ext E7)
  obtain ⟨T8, h8, X8, e8, W8, st8⟩ := putF X7 hx hZ hown (host := "") (Or.inl (wd 46 rfl)) Via.refl e7 f9 f10 (Or.inr ⟨(wd 47 rfl), rfl, hnm⟩) (wd 32 rfl) (ty := (.array .int)) (by decide) rfl rfl (g := (mkF m 20 #[.val (.ref hp), .val (.int (4 : Int32)), .val (.ref lo)] [(.ref fa7), (.ref hp)])) rfl rfl (D d4_20)
  have Fw8 : Fld Z h8 hp "com/example/leasewise/leasewise/IndexedHeap" "positions" "[I" (.ref fa7) := Fld.same W8 f9
  have N8 := Fr.snoc X8 N4 g_hp
  have Zn8 : n0 ≤ h8.size := Nat.le_trans Zn7 (Keep.of_wr W8).1
  have K8 : Keep h0 h8 [hp] := K7.wr W8 (Or.inl (List.mem_of_getElem? (i := 0) rfl))
  have O8 := O7.wr W8 g_hp
  obtain ⟨T11, X11, e11, st11⟩ := getF X8 hx hZ hown (host := "") (Or.inl (wd 46 rfl)) Via.refl e8 Fw8 (g := (mkF m 24 #[.val (.ref hp), .val (.int (4 : Int32)), .val (.ref lo)] [(.ref hp)])) rfl rfl (D d4_24)
  have f13 := (V7.other W8 (Ne.symm (Nat.ne_of_lt (Nat.lt_of_lt_of_le E_hp.lt (Nat.le_trans (Keep.of_wr W2).1 (Nat.le_trans E3.1 (Nat.le_trans (Keep.of_wr W4).1 (Nat.le_of_eq g7.symm))))))))
  have Vu12 : Arv Z h8 fa7 fk7 .int (4 : Int32) [] (.int (0 : Int32)) := (f13).pad (fun i => (pad_rep [] (.int (0 : Int32)) 4 i).symm)
  obtain ⟨_, _, ⟨T14, L14, k14, n14⟩, -, X14, ⟨Lc14, hQ14, l14, y14, z14⟩, st14⟩ := Jvm.LawKit.callS X11 hx (y := (⟨"java/util/Arrays", "fill", "([II)V"⟩ : MethodName)) hown (mvT hZ (wd 48 rfl)) (mvT hZ (wd 28 rfl)) (mvT hZ (wd 29 rfl)) (mvT hZ (wd 30 rfl)) (by decide) (own_backH (W := 0) (rm_fill l Z a0 hw [] fa7 (-1 : Int32) fk7 (4 : Int32) (0 : Int32) h8 n0 O8 Vu12 gn_fa7) hZH (wd 30 rfl) (wd 29 rfl) (by decide) (by decide)) (g := (mkF m 28 #[.val (.ref hp), .val (.int (4 : Int32)), .val (.ref lo)] [(.int (-1 : Int32)), (.ref fa7)])) rfl (by rw [hml]; rfl) (argsL := [(.ref fa7), (.int (-1 : Int32))]) (rest := []) (lenOf pd_5 rfl) rfl (by show 2 * 0 + _ ≤ _; exact Nat.le_of_eq rfl) (D d4_28) (fun _ _ => ⟨rfl, e11, (by decide : 2 + 0 ≤ _), (by decide : 8 + 0 ≤ _)⟩)
  dsimp only [Pt.U, Pt.locs, Pt.cells, Pt.slots] at X14 l14 y14 z14 st14 hQ14
  subst l14 y14 z14
  obtain ⟨rfl, N14q, K14, Q14_0⟩ := hQ14
  have O14 := O8.keep K14 (allS gn_fa7 all0)
  have KK14 : Keep h0 T14.heap [hp] := K8.trans K14 (allS (Or.inr gh_fa7) all0)
  have N14 := Fr.app N8 N14q
  have Vu15 : Arv Z T14.heap fa7 fk7 .int (4 : Int32) [(.int (-1 : Int32)), (.int (-1 : Int32)), (.int (-1 : Int32)), (.int (-1 : Int32))] (.int (-1 : Int32)) := (Q14_0).pad (pad_rep [] (.int (-1 : Int32)) 4)
  have f16 := (((((Fw2.ext E3).other W4 (Or.inr (slot_ne (Or.inr (wd 43 rfl)) (Or.inr (wd 45 rfl)) (by decide) (t := (.object "com/example/leasewise/leasewise/IndexedHeap$Order")) (t' := (.array .int)) (by decide) (by decide)))).ext E7).other W8 (Or.inr (slot_ne (Or.inr (wd 43 rfl)) (Or.inr (wd 47 rfl)) (by decide) (t := (.object "com/example/leasewise/leasewise/IndexedHeap$Order")) (t' := (.array .int)) (by decide) (by decide)))).keep K14 (ninS (Nat.ne_of_lt (Nat.lt_of_lt_of_le E_hp.lt (Nat.le_trans (Keep.of_wr W2).1 (Nat.le_trans E3.1 (Nat.le_trans (Keep.of_wr W4).1 (Nat.le_of_eq g7.symm)))))) nin0))
  have f17 := (((Fw4.ext E7).other W8 (Or.inr (slot_ne (Or.inr (wd 45 rfl)) (Or.inr (wd 47 rfl)) (by decide) (t := (.array .int)) (t' := (.array .int)) (by decide) (by decide)))).keep K14 (ninS (Nat.ne_of_lt (Nat.lt_of_lt_of_le E_hp.lt (Nat.le_trans (Keep.of_wr W2).1 (Nat.le_trans E3.1 (Nat.le_trans (Keep.of_wr W4).1 (Nat.le_of_eq g7.symm)))))) nin0))
  have f18 := (Fw8.keep K14 (ninS (Nat.ne_of_lt (Nat.lt_of_lt_of_le E_hp.lt (Nat.le_trans (Keep.of_wr W2).1 (Nat.le_trans E3.1 (Nat.le_trans (Keep.of_wr W4).1 (Nat.le_of_eq g7.symm)))))) nin0))
  have f19 := ((((((F_hp_size.other W2 (Or.inr (slot_ne (Or.inl (wd 87 rfl)) (Or.inr (wd 43 rfl)) (by decide) (t := .int) (t' := (.object "com/example/leasewise/leasewise/IndexedHeap$Order")) (by decide) (by decide)))).ext E3).other W4 (Or.inr (slot_ne (Or.inl (wd 87 rfl)) (Or.inr (wd 45 rfl)) (by decide) (t := .int) (t' := (.array .int)) (by decide) (by decide)))).ext E7).other W8 (Or.inr (slot_ne (Or.inl (wd 87 rfl)) (Or.inr (wd 47 rfl)) (by decide) (t := .int) (t' := (.array .int)) (by decide) (by decide)))).keep K14 (ninS (Nat.ne_of_lt (Nat.lt_of_lt_of_le E_hp.lt (Nat.le_trans (Keep.of_wr W2).1 (Nat.le_trans E3.1 (Nat.le_trans (Keep.of_wr W4).1 (Nat.le_of_eq g7.symm)))))) nin0))
  have f20 := ((((V3.other W4 (Ne.symm (Nat.ne_of_lt (Nat.lt_of_lt_of_le E_hp.lt (Nat.le_trans (Keep.of_wr W2).1 (Nat.le_of_eq g3.symm)))))).ext E7).other W8 (Ne.symm (Nat.ne_of_lt (Nat.lt_of_lt_of_le E_hp.lt (Nat.le_trans (Keep.of_wr W2).1 (Nat.le_of_eq g3.symm)))))).keep K14 (ninS (Nat.ne_of_lt (Nat.lt_of_lt_of_le V3.lt (Nat.le_trans (Keep.of_wr W4).1 (Nat.le_of_eq g7.symm)))) nin0))
  obtain ⟨fs, hr, hrun, hended, hW, hsame⟩ := X14.leave (v := none) (fun _ => rfl)
  refine ⟨_, _, pre0 _ ?_, hrun, hended, _, _, rfl, ?_, ⟨_, rfl⟩, hW, hsame.mono (by decide) (by decide)⟩
  · refine s_aloadN X0 hx (D d4_0) rfl rfl ?_
    refine st1 _ ?_
    refine s_aloadN X1 hx (D d4_4) rfl rfl ?_
    refine s_aloadN X1 hx (D d4_5) rfl rfl ?_
    refine st2 _ ?_
    refine s_aloadN X2 hx (D d4_9) rfl rfl ?_
    refine s_iloadN X2 hx (D d4_10) rfl ?_
    refine st3 _ ?_
    refine st4 _ ?_
    refine s_aloadN X4 hx (D d4_16) rfl rfl ?_
    refine s_iloadN X4 hx (D d4_17) rfl ?_
    refine st7 _ ?_
    refine st8 _ ?_
    refine s_aloadN X8 hx (D d4_23) rfl rfl ?_
    refine st11 _ ?_
    refine s_iconst X11 hx (-1 : Int32) (D d4_27) rfl ?_
    refine st14 _ ?_
    exact X14.returnOut hx Bd.returns (D d4_31) hr
  · show Q_rm_hinit Z hp lo h0 n0 _ T14.heap _
    exact ⟨fa3, fa7, fk3, fk7, rfl, N14, KK14, gh_fa3, gh_fa7, f16, f17, f18, f19, f20, Vu15, (Nat.lt_of_lt_of_le V3.lt (Nat.le_trans (Keep.of_wr W4).1 (Nat.le_of_eq g7.symm)))⟩
theorem d1_0 : decode prog_39_method_1_code 0 = .ok (.aload_n 0, 1) := by decide +kernel
theorem d1_1 : decode prog_39_method_1_code 1 = .ok (.invokespecial 3, 3) := by decide +kernel
theorem d1_4 : decode prog_39_method_1_code 4 = .ok (.aload_n 0, 1) := by decide +kernel
theorem d1_5 : decode prog_39_method_1_code 5 = .ok (.ldc 9, 2) := by decide +kernel
theorem d1_7 : decode prog_39_method_1_code 7 = .ok (.newarray .int, 2) := by decide +kernel
theorem d1_9 : decode prog_39_method_1_code 9 = .ok (.putfield 10, 3) := by decide +kernel
theorem d1_12 : decode prog_39_method_1_code 12 = .ok (.aload_n 0, 1) := by decide +kernel
theorem d1_13 : decode prog_39_method_1_code 13 = .ok (.sipush 1024, 3) := by decide +kernel
theorem d1_16 : decode prog_39_method_1_code 16 = .ok (.newarray .long, 2) := by decide +kernel
theorem d1_18 : decode prog_39_method_1_code 18 = .ok (.putfield 16, 3) := by decide +kernel
theorem d1_21 : decode prog_39_method_1_code 21 = .ok (.aload_n 0, 1) := by decide +kernel
theorem d1_22 : decode prog_39_method_1_code 22 = .ok (.bipush 16, 2) := by decide +kernel
theorem d1_24 : decode prog_39_method_1_code 24 = .ok (.newarray .long, 2) := by decide +kernel
theorem d1_26 : decode prog_39_method_1_code 26 = .ok (.putfield 20, 3) := by decide +kernel
theorem d1_29 : decode prog_39_method_1_code 29 = .ok (.aload_n 0, 1) := by decide +kernel
theorem d1_30 : decode prog_39_method_1_code 30 = .ok (.iload_n 1, 1) := by decide +kernel
theorem d1_31 : decode prog_39_method_1_code 31 = .ok (.newarray .long, 2) := by decide +kernel
theorem d1_33 : decode prog_39_method_1_code 33 = .ok (.putfield 23, 3) := by decide +kernel
theorem d1_36 : decode prog_39_method_1_code 36 = .ok (.aload_n 0, 1) := by decide +kernel
theorem d1_37 : decode prog_39_method_1_code 37 = .ok (.iload_n 1, 1) := by decide +kernel
theorem d1_38 : decode prog_39_method_1_code 38 = .ok (.newarray .int, 2) := by decide +kernel
theorem d1_40 : decode prog_39_method_1_code 40 = .ok (.putfield 26, 3) := by decide +kernel
theorem d1_43 : decode prog_39_method_1_code 43 = .ok (.aload_n 0, 1) := by decide +kernel
theorem d1_44 : decode prog_39_method_1_code 44 = .ok (.iload_n 1, 1) := by decide +kernel
theorem d1_45 : decode prog_39_method_1_code 45 = .ok (.newarray .int, 2) := by decide +kernel
theorem d1_47 : decode prog_39_method_1_code 47 = .ok (.putfield 29, 3) := by decide +kernel
theorem d1_50 : decode prog_39_method_1_code 50 = .ok (.aload_n 0, 1) := by decide +kernel
theorem d1_51 : decode prog_39_method_1_code 51 = .ok (.iload_n 1, 1) := by decide +kernel
theorem d1_52 : decode prog_39_method_1_code 52 = .ok (.newarray .boolean, 2) := by decide +kernel
theorem d1_54 : decode prog_39_method_1_code 54 = .ok (.putfield 32, 3) := by decide +kernel
theorem d1_57 : decode prog_39_method_1_code 57 = .ok (.aload_n 0, 1) := by decide +kernel
theorem d1_58 : decode prog_39_method_1_code 58 = .ok (.getfield 10, 3) := by decide +kernel
theorem d1_61 : decode prog_39_method_1_code 61 = .ok (.iconst (-1), 1) := by decide +kernel
theorem d1_62 : decode prog_39_method_1_code 62 = .ok (.invokestatic 36, 3) := by decide +kernel
theorem d1_65 : decode prog_39_method_1_code 65 = .ok (.aload_n 0, 1) := by decide +kernel
theorem d1_66 : decode prog_39_method_1_code 66 = .ok (.new 42, 3) := by decide +kernel
theorem d1_69 : decode prog_39_method_1_code 69 = .ok (.dup, 1) := by decide +kernel
theorem d1_70 : decode prog_39_method_1_code 70 = .ok (.iload_n 1, 1) := by decide +kernel
theorem d1_71 : decode prog_39_method_1_code 71 = .ok (.aload_n 0, 1) := by decide +kernel
theorem d1_72 : decode prog_39_method_1_code 72 = .ok (.invokedynamic 44, 5) := by decide +kernel
theorem d1_77 : decode prog_39_method_1_code 77 = .ok (.invokespecial 47, 3) := by decide +kernel
theorem d1_80 : decode prog_39_method_1_code 80 = .ok (.putfield 50, 3) := by decide +kernel
theorem d1_83 : decode prog_39_method_1_code 83 = .ok (.return_, 1) := by decide +kernel
theorem pd_6 : parseMethodDescriptor "(ILcom/example/leasewise/leasewise/IndexedHeap$Order;)V" = some ⟨[.int, (.object "com/example/leasewise/leasewise/IndexedHeap$Order")], none⟩ := by decide +kernel
theorem ef_rm_kinit (m : MethodId) (x0 : Addr) (x1 : Int32) : entryFrame m #[(.ref x0), (.int x1)] 2 = mkF m 0 #[.val (.ref x0), .val (.int x1)] [] := by first | (simp [entryFrame, mkF, argsToLocals, Value.category]; done) | rfl
def Q_rm_kinit (Z : State) (kq : Addr) (h0 : Heap) (n0 : Nat) (v : Option Value) (h : Heap) (L : List Loc) : Prop := ∃ (aF : Addr) (aO : Addr) (aW : Addr) (aK : Addr) (aB : Addr) (aA : Addr) (aI : Addr) (hp : Addr) (lo : Addr) (aE : Addr) (aP : Addr) (cK : ClassId) (kK : ClassId) (kB : ClassId) (kA : ClassId) (kI : ClassId) (kF : ClassId) (kO : ClassId) (kW : ClassId) (kE : ClassId) (kP : ClassId), v = none ∧ Fr n0 L ∧ Keep h0 h [kq] ∧ h0.size ≤ aF ∧ h0.size ≤ aO ∧ h0.size ≤ aW ∧ h0.size ≤ aK ∧ h0.size ≤ aB ∧ h0.size ≤ aA ∧ h0.size ≤ aI ∧ h0.size ≤ hp ∧ h0.size ≤ lo ∧ h0.size ≤ aE ∧ h0.size ≤ aP ∧ Fld Z h kq "com/example/leasewise/leasewise/KilometreQueue" "keys" "[J" (.ref aK) ∧ Fld Z h kq "com/example/leasewise/leasewise/KilometreQueue" "before" "[I" (.ref aB) ∧ Fld Z h kq "com/example/leasewise/leasewise/KilometreQueue" "after" "[I" (.ref aA) ∧ Fld Z h kq "com/example/leasewise/leasewise/KilometreQueue" "inBucket" "[Z" (.ref aI) ∧ Fld Z h kq "com/example/leasewise/leasewise/KilometreQueue" "firsts" "[I" (.ref aF) ∧ Fld Z h kq "com/example/leasewise/leasewise/KilometreQueue" "occupied" "[J" (.ref aO) ∧ Fld Z h kq "com/example/leasewise/leasewise/KilometreQueue" "occupiedWords" "[J" (.ref aW) ∧ Fld Z h kq "com/example/leasewise/leasewise/KilometreQueue" "further" "Lcom/example/leasewise/leasewise/IndexedHeap;" (.ref hp) ∧ Fld Z h kq "com/example/leasewise/leasewise/KilometreQueue" "bucketed" "I" (.int (0 : Int32)) ∧ Fld Z h kq "com/example/leasewise/leasewise/KilometreQueue" "floor" "J" (.long (0 : Int64)) ∧ Arp Z h aK kK .long (4 : Int32) PJ ∧ Arp Z h aB kB .int (4 : Int32) PI ∧ Arp Z h aA kA .int (4 : Int32) PI ∧ Arv Z h aI kI .boolean (4 : Int32) [(.int (0 : Int32)), (.int (0 : Int32)), (.int (0 : Int32)), (.int (0 : Int32))] (.int (0 : Int32)) ∧ Arp Z h aF kF .int (65536 : Int32) PI ∧ Arp Z h aO kO .long (1024 : Int32) PJ ∧ Arp Z h aW kW .long (16 : Int32) PJ ∧ Exa Z h hp "com/example/leasewise/leasewise/IndexedHeap" ∧ Fld Z h hp "com/example/leasewise/leasewise/IndexedHeap" "order" "Lcom/example/leasewise/leasewise/IndexedHeap$Order;" (.ref lo) ∧ Fld Z h hp "com/example/leasewise/leasewise/IndexedHeap" "entries" "[I" (.ref aE) ∧ Fld Z h hp "com/example/leasewise/leasewise/IndexedHeap" "positions" "[I" (.ref aP) ∧ Fld Z h hp "com/example/leasewise/leasewise/IndexedHeap" "size" "I" (.int (0 : Int32)) ∧ Arv Z h aE kE .int (4 : Int32) [(.int (0 : Int32)), (.int (0 : Int32)), (.int (0 : Int32)), (.int (0 : Int32))] (.int (0 : Int32)) ∧ Arv Z h aP kP .int (4 : Int32) [(.int (-1 : Int32)), (.int (-1 : Int32)), (.int (-1 : Int32)), (.int (-1 : Int32))] (.int (-1 : Int32)) ∧ LamO h lo cK kq ∧ List.Nodup [kq, aF, aO, aW, aK, aB, aA, aI, hp, lo, aE, aP] ∧ (Jvm.LamKit.Made Z "com/example/leasewise/leasewise/KilometreQueue" sgm cK)
set_option maxRecDepth 65536 in
set_option maxHeartbeats 40000000 in
theorem rm_kinit (l : Launch) (Z : State) (a0 : Array Value) (hw : ∀ d ∈ tables_1, d.before a0 Z = true) (ws : List Jvm.Cond) (kq : Addr) (h0 : Heap) (n0 : Nat) (O0 : Old Z n0 h0) (E_kq : Exa Z h0 kq "com/example/leasewise/leasewise/KilometreQueue") (F_kq_keys : Fld Z h0 kq "com/example/leasewise/leasewise/KilometreQueue" "keys" "[J" .null) (F_kq_before : Fld Z h0 kq "com/example/leasewise/leasewise/KilometreQueue" "before" "[I" .null) (F_kq_after : Fld Z h0 kq "com/example/leasewise/leasewise/KilometreQueue" "after" "[I" .null) (F_kq_inBucket : Fld Z h0 kq "com/example/leasewise/leasewise/KilometreQueue" "inBucket" "[Z" .null) (F_kq_firsts : Fld Z h0 kq "com/example/leasewise/leasewise/KilometreQueue" "firsts" "[I" .null) (F_kq_occupied : Fld Z h0 kq "com/example/leasewise/leasewise/KilometreQueue" "occupied" "[J" .null) (F_kq_occupiedWords : Fld Z h0 kq "com/example/leasewise/leasewise/KilometreQueue" "occupiedWords" "[J" .null) (F_kq_further : Fld Z h0 kq "com/example/leasewise/leasewise/KilometreQueue" "further" "Lcom/example/leasewise/leasewise/IndexedHeap;" .null) (F_kq_bucketed : Fld Z h0 kq "com/example/leasewise/leasewise/KilometreQueue" "bucketed" "I" (.int (0 : Int32))) (F_kq_floor : Fld Z h0 kq "com/example/leasewise/leasewise/KilometreQueue" "floor" "J" (.long (0 : Int64))) (g_kq : n0 ≤ kq) :
    MetFree l (⟨"com/example/leasewise/leasewise/KilometreQueue", "<init>", "(I)V"⟩ : MethodName) (head1 (Jvm.Cond.code (⟨"com/example/leasewise/leasewise/KilometreQueue", "<init>", "(I)V"⟩ : MethodName) prog_39_method_1_code 2 none :: ws) ({ frames := 2, cells := 11, slots := 66605, locals := 3077 } : Room)) (fun a U => a = #[(.ref kq), (.int (4 : Int32))] ∧ Z.WarmedH U.vm ∧ U.heap = h0) (fun _ _ _ _ _ => True) (fun _ U o U' => ∃ v L, o = .returned v ∧ Q_rm_kinit Z kq h0 n0 v U'.heap L ∧ FrameEnd U o U' L ({ frames := 2, cells := 11, slots := 66605, locals := 3077 } : Room).cells ({ frames := 2, cells := 11, slots := 66605, locals := 3077 } : Room).slots) := by
  refine MetFree.of_bodySF (plainFor_of_name pn_2) hisR ?_
  intro p e s m args below meth c s₁ Bd hml0 hP hK
  obtain ⟨rfl, hZH, hh⟩ := hP
  have hZ := hZH.wide
  have hx := Bd.exec
  have hby := Bd.bytes
  have D := fun {pc : Nat} {r : Except ClassFile.DecodeError (ClassFile.Instr × Nat)} (q : decode prog_39_method_1_code pc = r) => hb (pc := pc) hby q
  have hml : c.maxLocals = 2 := hml0
  have hown : s.vm.findClass "com/example/leasewise/leasewise/KilometreQueue" = some m.cls := findClass_of_methodNamed Bd.named
  have hnm := (name_of_methodNamed Bd.named Bd.method).1
  have X0 : Stand p l e ({ frames := 2, cells := 11, slots := 66605, locals := 3077 } : Room) s m #[(.ref kq), (.int (4 : Int32))] below meth c s₁ [] 0 0 := Stand.of_body Bd
  have e0 : s₁.heap = h0 := by rw [← hh, Bd.state]; rfl
  have N0 := Fr.nil n0
  have pre0 : ∀ t, Steps p.tables e below (s₁.setTop (mkF m 0 #[.val (.ref kq), .val (.int (4 : Int32))] [])) t → Steps p.tables e below (s₁.setTop (entryFrame m #[(.ref kq), (.int (4 : Int32))] 2)) t := fun t k => castTop (ef_rm_kinit m (kq) ((4 : Int32))) k
  have wd := fun {d : Jvm.Cond} (i : Nat) (h : tables_1[i]? = some d) => hw d (List.mem_of_getElem? h)
  obtain ⟨T1, X1, e1, st1⟩ := initO X0 hx hZ hown (wd 6 rfl) (wd 7 rfl) (wd 8 rfl) e0 (g := (mkF m 1 #[.val (.ref kq), .val (.int (4 : Int32))] [(.ref kq)])) rfl (by rw [hml]; rfl) rfl (D d1_1) (by decide) (W := 0) (by show 2 * 0 + _ ≤ _; exact Nat.le_of_eq rfl) (by decide)
  obtain ⟨T2, h2, fk2, X2, e2, E2, A2, st2⟩ := newP X1 hx hZ (wd 10 rfl) e1 (g := (mkF m 7 #[.val (.ref kq), .val (.int (4 : Int32))] [(.int (65536 : Int32)), (.ref kq)])) rfl (D d1_7) rfl (by decide) (cap := 65536) (by decide) (by decide) (by decide) (by decide)
  obtain ⟨fa2, g2⟩ : ∃ z, z = h0.size := ⟨_, rfl⟩
  rw [← g2] at A2 st2
  have gn_fa2 : n0 ≤ fa2 := Nat.le_trans (own_oldsz O0) (Nat.le_of_eq g2.symm)
  have gh_fa2 : h0.size ≤ fa2 := Nat.le_trans (Keep.refl h0 [kq]).1 (Nat.le_of_eq g2.symm)
  have Zn2 : n0 ≤ h2.size := Nat.le_trans (own_oldsz O0) E2.1
  have K2 : Keep h0 h2 [kq] := (Keep.refl h0 [kq]).ext E2
  have O2 := O0.ext E2
  have V2 : Arv Z h2 fa2 fk2 .int (65536 : Int32) [] (.int (0 : Int32)) := (Arv.new A2 (by decide)).pad (pad_rep [] (.int (0 : Int32)) 0)
  have f4 := (F_kq_firsts.ext E2)
  have f5 := (E_kq.ext E2)
  obtain ⟨T3, h3, X3, e3, W3, st3⟩ := putF X2 hx hZ hown (host := "") (Or.inl (wd 11 rfl)) Via.refl e2 f4 f5 (Or.inr ⟨(wd 12 rfl), rfl, hnm⟩) (wd 1 rfl) (ty := (.array .int)) (by decide) rfl rfl (g := (mkF m 9 #[.val (.ref kq), .val (.int (4 : Int32))] [(.ref fa2), (.ref kq)])) rfl rfl (D d1_9)
  have Fw3 : Fld Z h3 kq "com/example/leasewise/leasewise/KilometreQueue" "firsts" "[I" (.ref fa2) := Fld.same W3 f4
  have N3 := Fr.snoc X3 N0 g_kq
  have Zn3 : n0 ≤ h3.size := Nat.le_trans Zn2 (Keep.of_wr W3).1
  have K3 : Keep h0 h3 [kq] := K2.wr W3 (Or.inl (List.mem_of_getElem? (i := 0) rfl))
  have O3 := O2.wr W3 g_kq
  obtain ⟨T6, h6, fk6, X6, e6, E6, A6, st6⟩ := newP X3 hx hZ (wd 13 rfl) e3 (g := (mkF m 16 #[.val (.ref kq), .val (.int (4 : Int32))] [(.int (1024 : Int32)), (.ref kq)])) rfl (D d1_16) rfl (by decide) (cap := 1024) (by decide) (by decide) (by decide) (by decide)
  obtain ⟨fa6, g6⟩ : ∃ z, z = h3.size := ⟨_, rfl⟩
  rw [← g6] at A6 st6
  have gn_fa6 : n0 ≤ fa6 := Nat.le_trans Zn3 (Nat.le_of_eq g6.symm)
  have gh_fa6 : h0.size ≤ fa6 := Nat.le_trans K3.1 (Nat.le_of_eq g6.symm)
  have Zn6 : n0 ≤ h6.size := Nat.le_trans Zn3 E6.1
  have K6 : Keep h0 h6 [kq] := K3.ext E6
  have O6 := O3.ext E6
  have V6 : Arv Z h6 fa6 fk6 .long (1024 : Int32) [] (.long (0 : Int64)) := (Arv.new A6 (by decide)).pad (pad_rep [] (.long (0 : Int64)) 0)
  have f8 := (((F_kq_occupied.ext E2).other W3 (Or.inr (slot_ne (Or.inr (wd 15 rfl)) (Or.inr (wd 12 rfl)) (by decide) (t := (.array .long)) (t' := (.array .int)) (by decide) (by decide)))).ext E6)
  have f9 := ((f5.wr W3).ext E6)
  obtain ⟨T7, h7, X7, e7, W7, st7⟩ := putF X6 hx hZ hown (host := "") (Or.inl (wd 14 rfl)) Via.refl e6 f8 f9 (Or.inr ⟨(wd 15 rfl), rfl, hnm⟩) (wd 1 rfl) (ty := (.array .long)) (by decide) rfl rfl (g := (mkF m 18 #[.val (.ref kq), .val (.int (4 : Int32))] [(.ref fa6), (.ref kq)])) rfl rfl (D d1_18)
  have Fw7 : Fld Z h7 kq "com/example/leasewise/leasewise/KilometreQueue" "occupied" "[J" (.ref fa6) := Fld.same W7 f8
  have N7 := Fr.snoc X7 N3 g_kq
  have Zn7 : n0 ≤ h7.size := Nat.le_trans Zn6 (Keep.of_wr W7).1
  have K7 : Keep h0 h7 [kq] := K6.wr W7 (Or.inl (List.mem_of_getElem? (i := 0) rfl))
  have O7 := O6.wr W7 g_kq
  obtain ⟨T10, h10, fk10, X10, e10, E10, A10, st10⟩ := newP X7 hx hZ (wd 13 rfl) e7 (g := (mkF m 24 #[.val (.ref kq), .val (.int (4 : Int32))] [(.int (16 : Int32)), (.ref kq)])) rfl (D d1_24) rfl (by decide) (cap := 16) (by decide) (by decide) (by decide) (by decide)
  obtain ⟨fa10, g10⟩ : ∃ z, z = h7.size := ⟨_, rfl⟩
  rw [← g10] at A10 st10
  have gn_fa10 : n0 ≤ fa10 := Nat.le_trans Zn7 (Nat.le_of_eq g10.symm)
  have gh_fa10 : h0.size ≤ fa10 := Nat.le_trans K7.1 (Nat.le_of_eq g10.symm)
  have Zn10 : n0 ≤ h10.size := Nat.le_trans Zn7 E10.1
  have K10 : Keep h0 h10 [kq] := K7.ext E10
  have O10 := O7.ext E10
  have V10 : Arv Z h10 fa10 fk10 .long (16 : Int32) [(.long (0 : Int64)), (.long (0 : Int64)), (.long (0 : Int64)), (.long (0 : Int64)), (.long (0 : Int64)), (.long (0 : Int64)), (.long (0 : Int64)), (.long (0 : Int64)), (.long (0 : Int64)), (.long (0 : Int64)), (.long (0 : Int64)), (.long (0 : Int64)), (.long (0 : Int64)), (.long (0 : Int64)), (.long (0 : Int64)), (.long (0 : Int64))] (.long (0 : Int64)) := (Arv.new A10 (by decide)).pad (pad_rep [] (.long (0 : Int64)) 16)
  have f12 := (((((F_kq_occupiedWords.ext E2).other W3 (Or.inr (slot_ne (Or.inr (wd 17 rfl)) (Or.inr (wd 12 rfl)) (by decide) (t := (.array .long)) (t' := (.array .int)) (by decide) (by decide)))).ext E6).other W7 (Or.inr (slot_ne (Or.inr (wd 17 rfl)) (Or.inr (wd 15 rfl)) (by decide) (t := (.array .long)) (t' := (.array .long)) (by decide) (by decide)))).ext E10)
  have f13 := ((f9.wr W7).ext E10)
  obtain ⟨T11, h11, X11, e11, W11, st11⟩ := putF X10 hx hZ hown (host := "") (Or.inl (wd 16 rfl)) Via.refl e10 f12 f13 (Or.inr ⟨(wd 17 rfl), rfl, hnm⟩) (wd 1 rfl) (ty := (.array .long)) (by decide) rfl rfl (g := (mkF m 26 #[.val (.ref kq), .val (.int (4 : Int32))] [(.ref fa10), (.ref kq)])) rfl rfl (D d1_26)
  have Fw11 : Fld Z h11 kq "com/example/leasewise/leasewise/KilometreQueue" "occupiedWords" "[J" (.ref fa10) := Fld.same W11 f12
  have N11 := Fr.snoc X11 N7 g_kq
  have Zn11 : n0 ≤ h11.size := Nat.le_trans Zn10 (Keep.of_wr W11).1
  have K11 : Keep h0 h11 [kq] := K10.wr W11 (Or.inl (List.mem_of_getElem? (i := 0) rfl))
  have O11 := O10.wr W11 g_kq
  obtain ⟨T14, h14, fk14, X14, e14, E14, A14, st14⟩ := newP X11 hx hZ (wd 13 rfl) e11 (g := (mkF m 31 #[.val (.ref kq), .val (.int (4 : Int32))] [(.int (4 : Int32)), (.ref kq)])) rfl (D d1_31) rfl (by decide) (cap := 4) (by decide) (by decide) (by decide) (by decide)
  obtain ⟨fa14, g14⟩ : ∃ z, z = h11.size := ⟨_, rfl⟩
  rw [← g14] at A14 st14
  have gn_fa14 : n0 ≤ fa14 := Nat.le_trans Zn11 (Nat.le_of_eq g14.symm)
  have gh_fa14 : h0.size ≤ fa14 := Nat.le_trans K11.1 (Nat.le_of_eq g14.symm)
  have Zn14 : n0 ≤ h14.size := Nat.le_trans Zn11 E14.1
  have K14 : Keep h0 h14 [kq] := K11.ext E14
  have O14 := O11.ext E14
  have V14 : Arv Z h14 fa14 fk14 .long (4 : Int32) [(.long (0 : Int64)), (.long (0 : Int64)), (.long (0 : Int64)), (.long (0 : Int64))] (.long (0 : Int64)) := (Arv.new A14 (by decide)).pad (pad_rep [] (.long (0 : Int64)) 4)
  have f16 := (((((((F_kq_keys.ext E2).other W3 (Or.inr (slot_ne (Or.inr (wd 19 rfl)) (Or.inr (wd 12 rfl)) (by decide) (t := (.array .long)) (t' := (.array .int)) (by decide) (by decide)))).ext E6).other W7 (Or.inr (slot_ne (Or.inr (wd 19 rfl)) (Or.inr (wd 15 rfl)) (by decide) (t := (.array .long)) (t' := (.array .long)) (by decide) (by decide)))).ext E10).other W11 (Or.inr (slot_ne (Or.inr (wd 19 rfl)) (Or.inr (wd 17 rfl)) (by decide) (t := (.array .long)) (t' := (.array .long)) (by decide) (by decide)))).ext E14)
  have f17 := ((f13.wr W11).ext E14)
  obtain ⟨T15, h15, X15, e15, W15, st15⟩ := putF X14 hx hZ hown (host := "") (Or.inl (wd 18 rfl)) Via.refl e14 f16 f17 (Or.inr ⟨(wd 19 rfl), rfl, hnm⟩) (wd 1 rfl) (ty := (.array .long)) (by decide) rfl rfl (g := (mkF m 33 #[.val (.ref kq), .val (.int (4 : Int32))] [(.ref fa14), (.ref kq)])) rfl rfl (D d1_33)
  have Fw15 : Fld Z h15 kq "com/example/leasewise/leasewise/KilometreQueue" "keys" "[J" (.ref fa14) := Fld.same W15 f16
  have N15 := Fr.snoc X15 N11 g_kq
  have Zn15 : n0 ≤ h15.size := Nat.le_trans Zn14 (Keep.of_wr W15).1
  have K15 : Keep h0 h15 [kq] := K14.wr W15 (Or.inl (List.mem_of_getElem? (i := 0) rfl))
  have O15 := O14.wr W15 g_kq
  obtain ⟨T18, h18, fk18, X18, e18, E18, A18, st18⟩ := newP X15 hx hZ (wd 10 rfl) e15 (g := (mkF m 38 #[.val (.ref kq), .val (.int (4 : Int32))] [(.int (4 : Int32)), (.ref kq)])) rfl (D d1_38) rfl (by decide) (cap := 4) (by decide) (by decide) (by decide) (by decide)
  obtain ⟨fa18, g18⟩ : ∃ z, z = h15.size := ⟨_, rfl⟩
  rw [← g18] at A18 st18
  have gn_fa18 : n0 ≤ fa18 := Nat.le_trans Zn15 (Nat.le_of_eq g18.symm)
  have gh_fa18 : h0.size ≤ fa18 := Nat.le_trans K15.1 (Nat.le_of_eq g18.symm)
  have Zn18 : n0 ≤ h18.size := Nat.le_trans Zn15 E18.1
  have K18 : Keep h0 h18 [kq] := K15.ext E18
  have O18 := O15.ext E18
  have V18 : Arv Z h18 fa18 fk18 .int (4 : Int32) [(.int (0 : Int32)), (.int (0 : Int32)), (.int (0 : Int32)), (.int (0 : Int32))] (.int (0 : Int32)) := (Arv.new A18 (by decide)).pad (pad_rep [] (.int (0 : Int32)) 4)
  have f20 := (((((((((F_kq_before.ext E2).other W3 (Or.inr (slot_ne (Or.inr (wd 21 rfl)) (Or.inr (wd 12 rfl)) (by decide) (t := (.array .int)) (t' := (.array .int)) (by decide) (by decide)))).ext E6).other W7 (Or.inr (slot_ne (Or.inr (wd 21 rfl)) (Or.inr (wd 15 rfl)) (by decide) (t := (.array .int)) (t' := (.array .long)) (by decide) (by decide)))).ext E10).other W11 (Or.inr (slot_ne (Or.inr (wd 21 rfl)) (Or.inr (wd 17 rfl)) (by decide) (t := (.array .int)) (t' := (.array .long)) (by decide) (by decide)))).ext E14).other W15 (Or.inr (slot_ne (Or.inr (wd 21 rfl)) (Or.inr (wd 19 rfl)) (by decide) (t := (.array .int)) (t' := (.array .long)) (by decide) (by decide)))).ext E18)
  have f21 := ((f17.wr W15).ext E18)
  obtain ⟨T19, h19, X19, e19, W19, st19⟩ := putF X18 hx hZ hown (host := "") (Or.inl (wd 20 rfl)) Via.refl e18 f20 f21 (Or.inr ⟨(wd 21 rfl), rfl, hnm⟩) (wd 1 rfl) (ty := (.array .int)) (by decide) rfl rfl (g := (mkF m 40 #[.val (.ref kq), .val (.int (4 : Int32))] [(.ref fa18), (.ref kq)])) rfl rfl (D d1_40)
  have Fw19 : Fld Z h19 kq "com/example/leasewise/leasewise/KilometreQueue" "before" "[I" (.ref fa18) := Fld.same W19 f20
  have N19 := Fr.snoc X19 N15 g_kq
  have Zn19 : n0 ≤ h19.size := Nat.le_trans Zn18 (Keep.of_wr W19).1
  have K19 : Keep h0 h19 [kq] := K18.wr W19 (Or.inl (List.mem_of_getElem? (i := 0) rfl))
  have O19 := O18.wr W19 g_kq
  obtain ⟨T22, h22, fk22, X22, e22, E22, A22, st22⟩ := newP X19 hx hZ (wd 10 rfl) e19 (g := (mkF m 45 #[.val (.ref kq), .val (.int (4 : Int32))] [(.int (4 : Int32)), (.ref kq)])) rfl (D d1_45) rfl (by decide) (cap := 4) (by decide) (by decide) (by decide) (by decide)
  obtain ⟨fa22, g22⟩ : ∃ z, z = h19.size := ⟨_, rfl⟩
  rw [← g22] at A22 st22
  have gn_fa22 : n0 ≤ fa22 := Nat.le_trans Zn19 (Nat.le_of_eq g22.symm)
  have gh_fa22 : h0.size ≤ fa22 := Nat.le_trans K19.1 (Nat.le_of_eq g22.symm)
  have Zn22 : n0 ≤ h22.size := Nat.le_trans Zn19 E22.1
  have K22 : Keep h0 h22 [kq] := K19.ext E22
  have O22 := O19.ext E22
  have V22 : Arv Z h22 fa22 fk22 .int (4 : Int32) [(.int (0 : Int32)), (.int (0 : Int32)), (.int (0 : Int32)), (.int (0 : Int32))] (.int (0 : Int32)) := (Arv.new A22 (by decide)).pad (pad_rep [] (.int (0 : Int32)) 4)
  have f24 := (((((((((((F_kq_after.ext E2).other W3 (Or.inr (slot_ne (Or.inr (wd 23 rfl)) (Or.inr (wd 12 rfl)) (by decide) (t := (.array .int)) (t' := (.array .int)) (by decide) (by decide)))).ext E6).other W7 (Or.inr (slot_ne (Or.inr (wd 23 rfl)) (Or.inr (wd 15 rfl)) (by decide) (t := (.array .int)) (t' := (.array .long)) (by decide) (by decide)))).ext E10).other W11 (Or.inr (slot_ne (Or.inr (wd 23 rfl)) (Or.inr (wd 17 rfl)) (by decide) (t := (.array .int)) (t' := (.array .long)) (by decide) (by decide)))).ext E14).other W15 (Or.inr (slot_ne (Or.inr (wd 23 rfl)) (Or.inr (wd 19 rfl)) (by decide) (t := (.array .int)) (t' := (.array .long)) (by decide) (by decide)))).ext E18).other W19 (Or.inr (slot_ne (Or.inr (wd 23 rfl)) (Or.inr (wd 21 rfl)) (by decide) (t := (.array .int)) (t' := (.array .int)) (by decide) (by decide)))).ext E22)
  have f25 := ((f21.wr W19).ext E22)
  obtain ⟨T23, h23, X23, e23, W23, st23⟩ := putF X22 hx hZ hown (host := "") (Or.inl (wd 22 rfl)) Via.refl e22 f24 f25 (Or.inr ⟨(wd 23 rfl), rfl, hnm⟩) (wd 1 rfl) (ty := (.array .int)) (by decide) rfl rfl (g := (mkF m 47 #[.val (.ref kq), .val (.int (4 : Int32))] [(.ref fa22), (.ref kq)])) rfl rfl (D d1_47)
  have Fw23 : Fld Z h23 kq "com/example/leasewise/leasewise/KilometreQueue" "after" "[I" (.ref fa22) := Fld.same W23 f24
  have N23 := Fr.snoc X23 N19 g_kq
  have Zn23 : n0 ≤ h23.size := Nat.le_trans Zn22 (Keep.of_wr W23).1
  have K23 : Keep h0 h23 [kq] := K22.wr W23 (Or.inl (List.mem_of_getElem? (i := 0) rfl))
  have O23 := O22.wr W23 g_kq
  obtain ⟨T26, h26, fk26, X26, e26, E26, A26, st26⟩ := newP X23 hx hZ (wd 24 rfl) e23 (g := (mkF m 52 #[.val (.ref kq), .val (.int (4 : Int32))] [(.int (4 : Int32)), (.ref kq)])) rfl (D d1_52) rfl (by decide) (cap := 4) (by decide) (by decide) (by decide) (by decide)
  obtain ⟨fa26, g26⟩ : ∃ z, z = h23.size := ⟨_, rfl⟩
  rw [← g26] at A26 st26
  have gn_fa26 : n0 ≤ fa26 := Nat.le_trans Zn23 (Nat.le_of_eq g26.symm)
  have gh_fa26 : h0.size ≤ fa26 := Nat.le_trans K23.1 (Nat.le_of_eq g26.symm)
  have Zn26 : n0 ≤ h26.size := Nat.le_trans Zn23 E26.1
  have K26 : Keep h0 h26 [kq] := K23.ext E26
  have O26 := O23.ext E26
  have V26 : Arv Z h26 fa26 fk26 .boolean (4 : Int32) [(.int (0 : Int32)), (.int (0 : Int32)), (.int (0 : Int32)), (.int (0 : Int32))] (.int (0 : Int32)) := (Arv.new A26 (by decide)).pad (pad_rep [] (.int (0 : Int32)) 4)
  have f28 := (((((((((((((F_kq_inBucket.ext E2).other W3 (Or.inr (slot_ne (Or.inr (wd 26 rfl)) (Or.inr (wd 12 rfl)) (by decide) (t := (.array .boolean)) (t' := (.array .int)) (by decide) (by decide)))).ext E6).other W7 (Or.inr (slot_ne (Or.inr (wd 26 rfl)) (Or.inr (wd 15 rfl)) (by decide) (t := (.array .boolean)) (t' := (.array .long)) (by decide) (by decide)))).ext E10).other W11 (Or.inr (slot_ne (Or.inr (wd 26 rfl)) (Or.inr (wd 17 rfl)) (by decide) (t := (.array .boolean)) (t' := (.array .long)) (by decide) (by decide)))).ext E14).other W15 (Or.inr (slot_ne (Or.inr (wd 26 rfl)) (Or.inr (wd 19 rfl)) (by decide) (t := (.array .boolean)) (t' := (.array .long)) (by decide) (by decide)))).ext E18).other W19 (Or.inr (slot_ne (Or.inr (wd 26 rfl)) (Or.inr (wd 21 rfl)) (by decide) (t := (.array .boolean)) (t' := (.array .int)) (by decide) (by decide)))).ext E22).other W23 (Or.inr (slot_ne (Or.inr (wd 26 rfl)) (Or.inr (wd 23 rfl)) (by decide) (t := (.array .boolean)) (t' := (.array .int)) (by decide) (by decide)))).ext E26)
  have f29 := ((f25.wr W23).ext E26)
  obtain ⟨T27, h27, X27, e27, W27, st27⟩ := putF X26 hx hZ hown (host := "") (Or.inl (wd 25 rfl)) Via.refl e26 f28 f29 (Or.inr ⟨(wd 26 rfl), rfl, hnm⟩) (wd 1 rfl) (ty := (.array .boolean)) (by decide) rfl rfl (g := (mkF m 54 #[.val (.ref kq), .val (.int (4 : Int32))] [(.ref fa26), (.ref kq)])) rfl rfl (D d1_54)
  have Fw27 : Fld Z h27 kq "com/example/leasewise/leasewise/KilometreQueue" "inBucket" "[Z" (.ref fa26) := Fld.same W27 f28
  have N27 := Fr.snoc X27 N23 g_kq
  have Zn27 : n0 ≤ h27.size := Nat.le_trans Zn26 (Keep.of_wr W27).1
  have K27 : Keep h0 h27 [kq] := K26.wr W27 (Or.inl (List.mem_of_getElem? (i := 0) rfl))
  have O27 := O26.wr W27 g_kq
  have f30 := ((((((((((((Fw3.ext E6).other W7 (Or.inr (slot_ne (Or.inr (wd 12 rfl)) (Or.inr (wd 15 rfl)) (by decide) (t := (.array .int)) (t' := (.array .long)) (by decide) (by decide)))).ext E10).other W11 (Or.inr (slot_ne (Or.inr (wd 12 rfl)) (Or.inr (wd 17 rfl)) (by decide) (t := (.array .int)) (t' := (.array .long)) (by decide) (by decide)))).ext E14).other W15 (Or.inr (slot_ne (Or.inr (wd 12 rfl)) (Or.inr (wd 19 rfl)) (by decide) (t := (.array .int)) (t' := (.array .long)) (by decide) (by decide)))).ext E18).other W19 (Or.inr (slot_ne (Or.inr (wd 12 rfl)) (Or.inr (wd 21 rfl)) (by decide) (t := (.array .int)) (t' := (.array .int)) (by decide) (by decide)))).ext E22).other W23 (Or.inr (slot_ne (Or.inr (wd 12 rfl)) (Or.inr (wd 23 rfl)) (by decide) (t := (.array .int)) (t' := (.array .int)) (by decide) (by decide)))).ext E26).other W27 (Or.inr (slot_ne (Or.inr (wd 12 rfl)) (Or.inr (wd 26 rfl)) (by decide) (t := (.array .int)) (t' := (.array .boolean)) (by decide) (by decide))))
  obtain ⟨T31, X31, e31, st31⟩ := getF X27 hx hZ hown (host := "") (Or.inl (wd 11 rfl)) Via.refl e27 f30 (g := (mkF m 58 #[.val (.ref kq), .val (.int (4 : Int32))] [(.ref kq)])) rfl rfl (D d1_58)
  have f32 := (((((((((((((V2.other W3 (Ne.symm (Nat.ne_of_lt (Nat.lt_of_lt_of_le E_kq.lt (Nat.le_of_eq g2.symm))))).ext E6).other W7 (Ne.symm (Nat.ne_of_lt (Nat.lt_of_lt_of_le E_kq.lt (Nat.le_of_eq g2.symm))))).ext E10).other W11 (Ne.symm (Nat.ne_of_lt (Nat.lt_of_lt_of_le E_kq.lt (Nat.le_of_eq g2.symm))))).ext E14).other W15 (Ne.symm (Nat.ne_of_lt (Nat.lt_of_lt_of_le E_kq.lt (Nat.le_of_eq g2.symm))))).ext E18).other W19 (Ne.symm (Nat.ne_of_lt (Nat.lt_of_lt_of_le E_kq.lt (Nat.le_of_eq g2.symm))))).ext E22).other W23 (Ne.symm (Nat.ne_of_lt (Nat.lt_of_lt_of_le E_kq.lt (Nat.le_of_eq g2.symm))))).ext E26).other W27 (Ne.symm (Nat.ne_of_lt (Nat.lt_of_lt_of_le E_kq.lt (Nat.le_of_eq g2.symm)))))
  obtain ⟨_, _, ⟨T33, L33, k33, n33⟩, -, X33, ⟨Lc33, hQ33, l33, y33, z33⟩, st33⟩ := Jvm.LawKit.callS X31 hx (y := (⟨"java/util/Arrays", "fill", "([II)V"⟩ : MethodName)) hown (mvT hZ (wd 27 rfl)) (mvT hZ (wd 28 rfl)) (mvT hZ (wd 29 rfl)) (mvT hZ (wd 30 rfl)) (by decide) (own_backH (W := 0) (rm_fill l Z a0 hw [] fa2 (-1 : Int32) fk2 (65536 : Int32) (0 : Int32) h27 n0 O27 f32 gn_fa2) hZH (wd 30 rfl) (wd 29 rfl) (by decide) (by decide)) (g := (mkF m 62 #[.val (.ref kq), .val (.int (4 : Int32))] [(.int (-1 : Int32)), (.ref fa2)])) rfl (by rw [hml]; rfl) (argsL := [(.ref fa2), (.int (-1 : Int32))]) (rest := []) (lenOf pd_5 rfl) rfl (by show 2 * 0 + _ ≤ _; exact Nat.le_of_eq rfl) (D d1_62) (fun _ _ => ⟨rfl, e31, (by decide : 7 + 0 ≤ _), (by decide : 66592 + 0 ≤ _)⟩)
  dsimp only [Pt.U, Pt.locs, Pt.cells, Pt.slots] at X33 l33 y33 z33 st33 hQ33
  subst l33 y33 z33
  obtain ⟨rfl, N33q, K33, Q33_0⟩ := hQ33
  have O33 := O27.keep K33 (allS gn_fa2 all0)
  have KK33 : Keep h0 T33.heap [kq] := K27.trans K33 (allS (Or.inr gh_fa2) all0)
  have N33 := Fr.app N27 N33q
  obtain ⟨T34, h34, X34, e34, E34, A34, D34, -, st34⟩ := newO X33 hx hZ hown (wd 31 rfl) (wd 32 rfl) (wd 33 rfl) rfl (g := (mkF m 66 #[.val (.ref kq), .val (.int (4 : Int32))] [(.ref kq)])) rfl (D d1_66) (by decide) (by decide)
  obtain ⟨fa34, g34⟩ : ∃ z, z = T33.heap.size := ⟨_, rfl⟩
  rw [← g34] at A34 D34 st34
  have gn_fa34 : n0 ≤ fa34 := Nat.le_trans (own_oldsz O33) (Nat.le_of_eq g34.symm)
  have gh_fa34 : h0.size ≤ fa34 := Nat.le_trans KK33.1 (Nat.le_of_eq g34.symm)
  have Zn34 : n0 ≤ h34.size := Nat.le_trans (own_oldsz O33) E34.1
  have K34 : Keep h0 h34 [kq] := KK33.ext E34
  have O34 := O33.ext E34
  have F34_order : Fld Z h34 fa34 "com/example/leasewise/leasewise/IndexedHeap" "order" "Lcom/example/leasewise/leasewise/IndexedHeap$Order;" .null := D34 (Or.inr (wd 43 rfl)) (ty := (.object "com/example/leasewise/leasewise/IndexedHeap$Order")) (by decide)
  have F34_entries : Fld Z h34 fa34 "com/example/leasewise/leasewise/IndexedHeap" "entries" "[I" .null := D34 (Or.inr (wd 45 rfl)) (ty := (.array .int)) (by decide)
  have F34_positions : Fld Z h34 fa34 "com/example/leasewise/leasewise/IndexedHeap" "positions" "[I" .null := D34 (Or.inr (wd 47 rfl)) (ty := (.array .int)) (by decide)
  have F34_size : Fld Z h34 fa34 "com/example/leasewise/leasewise/IndexedHeap" "size" "I" (.int (0 : Int32)) := D34 (Or.inl (wd 87 rfl)) (ty := .int) (by decide)
  obtain ⟨cK35, T35, h35, MD35, X35, e35, E35, Y35, st35⟩ := own_siteM X34 hx hZH Bd.named (wd 34 rfl) rfl rfl own_capok (wd 37 rfl) e34 (g := (mkF m 72 #[.val (.ref kq), .val (.int (4 : Int32))] [(.ref kq), (.int (4 : Int32)), (.ref fa34), (.ref fa34), (.ref kq)])) rfl rfl (by rw [hml]; rfl) (D d1_72) rfl (Nat.le_of_ble_eq_true rfl) (by decide) (by decide)
  obtain ⟨fa35, g35⟩ : ∃ z, z = h34.size := ⟨_, rfl⟩
  rw [← g35] at Y35 st35
  have gn_fa35 : n0 ≤ fa35 := Nat.le_trans Zn34 (Nat.le_of_eq g35.symm)
  have gh_fa35 : h0.size ≤ fa35 := Nat.le_trans K34.1 (Nat.le_of_eq g35.symm)
  have Zn35 : n0 ≤ h35.size := Nat.le_trans Zn34 E35.1
  have K35 : Keep h0 h35 [kq] := K34.ext E35
  have O35 := O34.ext E35
  have f36 := (A34.ext E35)
  have f37 := (F34_order.ext E35)
  have f38 := (F34_entries.ext E35)
  have f39 := (F34_positions.ext E35)
  have f40 := (F34_size.ext E35)
  obtain ⟨_, _, ⟨T41, L41, k41, n41⟩, -, X41, ⟨Lc41, hQ41, l41, y41, z41⟩, st41⟩ := X35.specialBack hx (y := (⟨"com/example/leasewise/leasewise/IndexedHeap", "<init>", "(ILcom/example/leasewise/leasewise/IndexedHeap$Order;)V"⟩ : MethodName)) rfl hown (mvT hZ (wd 38 rfl)) (mvT hZ (wd 39 rfl)) (mvT hZ (wd 40 rfl)) (by decide) (own_backH (W := 2) (rm_hinit l Z a0 hw [] fa34 fa35 h35 n0 O35 f36 f37 f38 f39 f40 gn_fa34) hZH (wd 40 rfl) (wd 33 rfl) (by decide) (by decide)) (g := (mkF m 77 #[.val (.ref kq), .val (.int (4 : Int32))] [(.ref fa35), (.int (4 : Int32)), (.ref fa34), (.ref fa34), (.ref kq)])) rfl (by rw [hml]; rfl) (Steps.refl _) (a := fa34) (argsL := [(.int (4 : Int32)), (.ref fa35)]) (rest := [(.ref fa34), (.ref kq)]) (lenOf pd_6 rfl) rfl (by show 2 * 0 + _ ≤ _; exact Nat.le_of_eq rfl) (D d1_77) (fun _ _ => ⟨rfl, e35, (by decide : 9 + 2 ≤ _), (by decide : 66597 + 8 ≤ _)⟩)
  dsimp only [Pt.U, Pt.locs, Pt.cells, Pt.slots] at X41 l41 y41 z41 st41 hQ41
  subst l41 y41 z41
  obtain ⟨aE_41, aP_41, kE_41, kP_41, rfl, N41q, K41, gq_aE_41, gq_aP_41, Q41_0, Q41_1, Q41_2, Q41_3, Q41_4, Q41_5, Q41_6⟩ := hQ41
  have gn_aE_41 : n0 ≤ aE_41 := Nat.le_trans (own_oldsz O35) gq_aE_41
  have gh_aE_41 : h0.size ≤ aE_41 := Nat.le_trans K35.1 gq_aE_41
  have gn_aP_41 : n0 ≤ aP_41 := Nat.le_trans (own_oldsz O35) gq_aP_41
  have gh_aP_41 : h0.size ≤ aP_41 := Nat.le_trans K35.1 gq_aP_41
  have O41 := O35.keep K41 (allS gn_fa34 all0)
  have KK41 : Keep h0 T41.heap [kq] := K35.trans K41 (allS (Or.inr gh_fa34) all0)
  have N41 := Fr.app N33 N41q
  have f43 := ((((((((((((((((((F_kq_further.ext E2).other W3 (Or.inr (slot_ne (Or.inr (wd 50 rfl)) (Or.inr (wd 12 rfl)) (by decide) (t := (.object "com/example/leasewise/leasewise/IndexedHeap")) (t' := (.array .int)) (by decide) (by decide)))).ext E6).other W7 (Or.inr (slot_ne (Or.inr (wd 50 rfl)) (Or.inr (wd 15 rfl)) (by decide) (t := (.object "com/example/leasewise/leasewise/IndexedHeap")) (t' := (.array .long)) (by decide) (by decide)))).ext E10).other W11 (Or.inr (slot_ne (Or.inr (wd 50 rfl)) (Or.inr (wd 17 rfl)) (by decide) (t := (.object "com/example/leasewise/leasewise/IndexedHeap")) (t' := (.array .long)) (by decide) (by decide)))).ext E14).other W15 (Or.inr (slot_ne (Or.inr (wd 50 rfl)) (Or.inr (wd 19 rfl)) (by decide) (t := (.object "com/example/leasewise/leasewise/IndexedHeap")) (t' := (.array .long)) (by decide) (by decide)))).ext E18).other W19 (Or.inr (slot_ne (Or.inr (wd 50 rfl)) (Or.inr (wd 21 rfl)) (by decide) (t := (.object "com/example/leasewise/leasewise/IndexedHeap")) (t' := (.array .int)) (by decide) (by decide)))).ext E22).other W23 (Or.inr (slot_ne (Or.inr (wd 50 rfl)) (Or.inr (wd 23 rfl)) (by decide) (t := (.object "com/example/leasewise/leasewise/IndexedHeap")) (t' := (.array .int)) (by decide) (by decide)))).ext E26).other W27 (Or.inr (slot_ne (Or.inr (wd 50 rfl)) (Or.inr (wd 26 rfl)) (by decide) (t := (.object "com/example/leasewise/leasewise/IndexedHeap")) (t' := (.array .boolean)) (by decide) (by decide)))).keep K33 (ninS (Nat.ne_of_lt (Nat.lt_of_lt_of_le E_kq.lt (Nat.le_of_eq g2.symm))) nin0)).ext E34).ext E35).keep K41 (ninS (Nat.ne_of_lt (Nat.lt_of_lt_of_le E_kq.lt (Nat.le_trans E2.1 (Nat.le_trans (Keep.of_wr W3).1 (Nat.le_trans E6.1 (Nat.le_trans (Keep.of_wr W7).1 (Nat.le_trans E10.1 (Nat.le_trans (Keep.of_wr W11).1 (Nat.le_trans E14.1 (Nat.le_trans (Keep.of_wr W15).1 (Nat.le_trans E18.1 (Nat.le_trans (Keep.of_wr W19).1 (Nat.le_trans E22.1 (Nat.le_trans (Keep.of_wr W23).1 (Nat.le_trans E26.1 (Nat.le_trans (Keep.of_wr W27).1 (Nat.le_trans K33.1 (Nat.le_of_eq g34.symm)))))))))))))))))) nin0))
  have f44 := (((((f29.wr W27).keep K33).ext E34).ext E35).keep K41)
  obtain ⟨T42, h42, X42, e42, W42, st42⟩ := putF X41 hx hZ hown (host := "") (Or.inl (wd 49 rfl)) Via.refl rfl f43 f44 (Or.inr ⟨(wd 50 rfl), rfl, hnm⟩) (wd 1 rfl) (ty := (.object "com/example/leasewise/leasewise/IndexedHeap")) (by decide) rfl rfl (g := (mkF m 80 #[.val (.ref kq), .val (.int (4 : Int32))] [(.ref fa34), (.ref kq)])) rfl rfl (D d1_80)
  have Fw42 : Fld Z h42 kq "com/example/leasewise/leasewise/KilometreQueue" "further" "Lcom/example/leasewise/leasewise/IndexedHeap;" (.ref fa34) := Fld.same W42 f43
  have N42 := Fr.snoc X42 N41 g_kq
  have Zn42 : n0 ≤ h42.size := Nat.le_trans (own_oldsz O41) (Keep.of_wr W42).1
  have K42 : Keep h0 h42 [kq] := KK41.wr W42 (Or.inl (List.mem_of_getElem? (i := 0) rfl))
  have O42 := O41.wr W42 g_kq
  have f46 := ((((((((((((V14.other W15 (Ne.symm (Nat.ne_of_lt (Nat.lt_of_lt_of_le E_kq.lt (Nat.le_trans E2.1 (Nat.le_trans (Keep.of_wr W3).1 (Nat.le_trans E6.1 (Nat.le_trans (Keep.of_wr W7).1 (Nat.le_trans E10.1 (Nat.le_trans (Keep.of_wr W11).1 (Nat.le_of_eq g14.symm))))))))))).ext E18).other W19 (Ne.symm (Nat.ne_of_lt (Nat.lt_of_lt_of_le E_kq.lt (Nat.le_trans E2.1 (Nat.le_trans (Keep.of_wr W3).1 (Nat.le_trans E6.1 (Nat.le_trans (Keep.of_wr W7).1 (Nat.le_trans E10.1 (Nat.le_trans (Keep.of_wr W11).1 (Nat.le_of_eq g14.symm))))))))))).ext E22).other W23 (Ne.symm (Nat.ne_of_lt (Nat.lt_of_lt_of_le E_kq.lt (Nat.le_trans E2.1 (Nat.le_trans (Keep.of_wr W3).1 (Nat.le_trans E6.1 (Nat.le_trans (Keep.of_wr W7).1 (Nat.le_trans E10.1 (Nat.le_trans (Keep.of_wr W11).1 (Nat.le_of_eq g14.symm))))))))))).ext E26).other W27 (Ne.symm (Nat.ne_of_lt (Nat.lt_of_lt_of_le E_kq.lt (Nat.le_trans E2.1 (Nat.le_trans (Keep.of_wr W3).1 (Nat.le_trans E6.1 (Nat.le_trans (Keep.of_wr W7).1 (Nat.le_trans E10.1 (Nat.le_trans (Keep.of_wr W11).1 (Nat.le_of_eq g14.symm))))))))))).keep K33 (ninS (Ne.symm (Nat.ne_of_lt (Nat.lt_of_lt_of_le V2.lt (Nat.le_trans (Keep.of_wr W3).1 (Nat.le_trans E6.1 (Nat.le_trans (Keep.of_wr W7).1 (Nat.le_trans E10.1 (Nat.le_trans (Keep.of_wr W11).1 (Nat.le_of_eq g14.symm))))))))) nin0)).ext E34).ext E35).keep K41 (ninS (Nat.ne_of_lt (Nat.lt_of_lt_of_le V14.lt (Nat.le_trans (Keep.of_wr W15).1 (Nat.le_trans E18.1 (Nat.le_trans (Keep.of_wr W19).1 (Nat.le_trans E22.1 (Nat.le_trans (Keep.of_wr W23).1 (Nat.le_trans E26.1 (Nat.le_trans (Keep.of_wr W27).1 (Nat.le_trans K33.1 (Nat.le_of_eq g34.symm))))))))))) nin0)).other W42 (Ne.symm (Nat.ne_of_lt (Nat.lt_of_lt_of_le E_kq.lt (Nat.le_trans E2.1 (Nat.le_trans (Keep.of_wr W3).1 (Nat.le_trans E6.1 (Nat.le_trans (Keep.of_wr W7).1 (Nat.le_trans E10.1 (Nat.le_trans (Keep.of_wr W11).1 (Nat.le_of_eq g14.symm)))))))))))
  have Vu45 : Arv Z h42 fa14 fk14 .long (4 : Int32) [] (.long (0 : Int64)) := (f46).pad (fun i => (pad_rep [] (.long (0 : Int64)) 4 i).symm)
  have Vp47 : Arp Z h42 fa14 fk14 .long (4 : Int32) PJ := Arp.of Vu45 (fun _ => own_PJ _)
  have f49 := ((((((((((V18.other W19 (Ne.symm (Nat.ne_of_lt (Nat.lt_of_lt_of_le E_kq.lt (Nat.le_trans E2.1 (Nat.le_trans (Keep.of_wr W3).1 (Nat.le_trans E6.1 (Nat.le_trans (Keep.of_wr W7).1 (Nat.le_trans E10.1 (Nat.le_trans (Keep.of_wr W11).1 (Nat.le_trans E14.1 (Nat.le_trans (Keep.of_wr W15).1 (Nat.le_of_eq g18.symm))))))))))))).ext E22).other W23 (Ne.symm (Nat.ne_of_lt (Nat.lt_of_lt_of_le E_kq.lt (Nat.le_trans E2.1 (Nat.le_trans (Keep.of_wr W3).1 (Nat.le_trans E6.1 (Nat.le_trans (Keep.of_wr W7).1 (Nat.le_trans E10.1 (Nat.le_trans (Keep.of_wr W11).1 (Nat.le_trans E14.1 (Nat.le_trans (Keep.of_wr W15).1 (Nat.le_of_eq g18.symm))))))))))))).ext E26).other W27 (Ne.symm (Nat.ne_of_lt (Nat.lt_of_lt_of_le E_kq.lt (Nat.le_trans E2.1 (Nat.le_trans (Keep.of_wr W3).1 (Nat.le_trans E6.1 (Nat.le_trans (Keep.of_wr W7).1 (Nat.le_trans E10.1 (Nat.le_trans (Keep.of_wr W11).1 (Nat.le_trans E14.1 (Nat.le_trans (Keep.of_wr W15).1 (Nat.le_of_eq g18.symm))))))))))))).keep K33 (ninS (Ne.symm (Nat.ne_of_lt (Nat.lt_of_lt_of_le V2.lt (Nat.le_trans (Keep.of_wr W3).1 (Nat.le_trans E6.1 (Nat.le_trans (Keep.of_wr W7).1 (Nat.le_trans E10.1 (Nat.le_trans (Keep.of_wr W11).1 (Nat.le_trans E14.1 (Nat.le_trans (Keep.of_wr W15).1 (Nat.le_of_eq g18.symm))))))))))) nin0)).ext E34).ext E35).keep K41 (ninS (Nat.ne_of_lt (Nat.lt_of_lt_of_le V18.lt (Nat.le_trans (Keep.of_wr W19).1 (Nat.le_trans E22.1 (Nat.le_trans (Keep.of_wr W23).1 (Nat.le_trans E26.1 (Nat.le_trans (Keep.of_wr W27).1 (Nat.le_trans K33.1 (Nat.le_of_eq g34.symm))))))))) nin0)).other W42 (Ne.symm (Nat.ne_of_lt (Nat.lt_of_lt_of_le E_kq.lt (Nat.le_trans E2.1 (Nat.le_trans (Keep.of_wr W3).1 (Nat.le_trans E6.1 (Nat.le_trans (Keep.of_wr W7).1 (Nat.le_trans E10.1 (Nat.le_trans (Keep.of_wr W11).1 (Nat.le_trans E14.1 (Nat.le_trans (Keep.of_wr W15).1 (Nat.le_of_eq g18.symm)))))))))))))
  have Vu48 : Arv Z h42 fa18 fk18 .int (4 : Int32) [] (.int (0 : Int32)) := (f49).pad (fun i => (pad_rep [] (.int (0 : Int32)) 4 i).symm)
  have Vp50 : Arp Z h42 fa18 fk18 .int (4 : Int32) PI := Arp.of Vu48 (fun _ => own_PI (by decide))
  have f52 := ((((((((V22.other W23 (Ne.symm (Nat.ne_of_lt (Nat.lt_of_lt_of_le E_kq.lt (Nat.le_trans E2.1 (Nat.le_trans (Keep.of_wr W3).1 (Nat.le_trans E6.1 (Nat.le_trans (Keep.of_wr W7).1 (Nat.le_trans E10.1 (Nat.le_trans (Keep.of_wr W11).1 (Nat.le_trans E14.1 (Nat.le_trans (Keep.of_wr W15).1 (Nat.le_trans E18.1 (Nat.le_trans (Keep.of_wr W19).1 (Nat.le_of_eq g22.symm))))))))))))))).ext E26).other W27 (Ne.symm (Nat.ne_of_lt (Nat.lt_of_lt_of_le E_kq.lt (Nat.le_trans E2.1 (Nat.le_trans (Keep.of_wr W3).1 (Nat.le_trans E6.1 (Nat.le_trans (Keep.of_wr W7).1 (Nat.le_trans E10.1 (Nat.le_trans (Keep.of_wr W11).1 (Nat.le_trans E14.1 (Nat.le_trans (Keep.of_wr W15).1 (Nat.le_trans E18.1 (Nat.le_trans (Keep.of_wr W19).1 (Nat.le_of_eq g22.symm))))))))))))))).keep K33 (ninS (Ne.symm (Nat.ne_of_lt (Nat.lt_of_lt_of_le V2.lt (Nat.le_trans (Keep.of_wr W3).1 (Nat.le_trans E6.1 (Nat.le_trans (Keep.of_wr W7).1 (Nat.le_trans E10.1 (Nat.le_trans (Keep.of_wr W11).1 (Nat.le_trans E14.1 (Nat.le_trans (Keep.of_wr W15).1 (Nat.le_trans E18.1 (Nat.le_trans (Keep.of_wr W19).1 (Nat.le_of_eq g22.symm))))))))))))) nin0)).ext E34).ext E35).keep K41 (ninS (Nat.ne_of_lt (Nat.lt_of_lt_of_le V22.lt (Nat.le_trans (Keep.of_wr W23).1 (Nat.le_trans E26.1 (Nat.le_trans (Keep.of_wr W27).1 (Nat.le_trans K33.1 (Nat.le_of_eq g34.symm))))))) nin0)).other W42 (Ne.symm (Nat.ne_of_lt (Nat.lt_of_lt_of_le E_kq.lt (Nat.le_trans E2.1 (Nat.le_trans (Keep.of_wr W3).1 (Nat.le_trans E6.1 (Nat.le_trans (Keep.of_wr W7).1 (Nat.le_trans E10.1 (Nat.le_trans (Keep.of_wr W11).1 (Nat.le_trans E14.1 (Nat.le_trans (Keep.of_wr W15).1 (Nat.le_trans E18.1 (Nat.le_trans (Keep.of_wr W19).1 (Nat.le_of_eq g22.symm)))))))))))))))
  have Vu51 : Arv Z h42 fa22 fk22 .int (4 : Int32) [] (.int (0 : Int32)) := (f52).pad (fun i => (pad_rep [] (.int (0 : Int32)) 4 i).symm)
  have Vp53 : Arp Z h42 fa22 fk22 .int (4 : Int32) PI := Arp.of Vu51 (fun _ => own_PI (by decide))
  have f55 := ((((Q33_0.ext E34).ext E35).keep K41 (ninS (Nat.ne_of_lt (Nat.lt_of_lt_of_le V2.lt (Nat.le_trans (Keep.of_wr W3).1 (Nat.le_trans E6.1 (Nat.le_trans (Keep.of_wr W7).1 (Nat.le_trans E10.1 (Nat.le_trans (Keep.of_wr W11).1 (Nat.le_trans E14.1 (Nat.le_trans (Keep.of_wr W15).1 (Nat.le_trans E18.1 (Nat.le_trans (Keep.of_wr W19).1 (Nat.le_trans E22.1 (Nat.le_trans (Keep.of_wr W23).1 (Nat.le_trans E26.1 (Nat.le_trans (Keep.of_wr W27).1 (Nat.le_trans K33.1 (Nat.le_of_eq g34.symm))))))))))))))))) nin0)).other W42 (Ne.symm (Nat.ne_of_lt (Nat.lt_of_lt_of_le E_kq.lt (Nat.le_of_eq g2.symm)))))
  have Vp54 : Arp Z h42 fa2 fk2 .int (65536 : Int32) PI := Arp.of f55 (fun _ => own_PI (by decide))
  have f57 := ((((((((((((((((V6.other W7 (Ne.symm (Nat.ne_of_lt (Nat.lt_of_lt_of_le E_kq.lt (Nat.le_trans E2.1 (Nat.le_trans (Keep.of_wr W3).1 (Nat.le_of_eq g6.symm))))))).ext E10).other W11 (Ne.symm (Nat.ne_of_lt (Nat.lt_of_lt_of_le E_kq.lt (Nat.le_trans E2.1 (Nat.le_trans (Keep.of_wr W3).1 (Nat.le_of_eq g6.symm))))))).ext E14).other W15 (Ne.symm (Nat.ne_of_lt (Nat.lt_of_lt_of_le E_kq.lt (Nat.le_trans E2.1 (Nat.le_trans (Keep.of_wr W3).1 (Nat.le_of_eq g6.symm))))))).ext E18).other W19 (Ne.symm (Nat.ne_of_lt (Nat.lt_of_lt_of_le E_kq.lt (Nat.le_trans E2.1 (Nat.le_trans (Keep.of_wr W3).1 (Nat.le_of_eq g6.symm))))))).ext E22).other W23 (Ne.symm (Nat.ne_of_lt (Nat.lt_of_lt_of_le E_kq.lt (Nat.le_trans E2.1 (Nat.le_trans (Keep.of_wr W3).1 (Nat.le_of_eq g6.symm))))))).ext E26).other W27 (Ne.symm (Nat.ne_of_lt (Nat.lt_of_lt_of_le E_kq.lt (Nat.le_trans E2.1 (Nat.le_trans (Keep.of_wr W3).1 (Nat.le_of_eq g6.symm))))))).keep K33 (ninS (Ne.symm (Nat.ne_of_lt (Nat.lt_of_lt_of_le V2.lt (Nat.le_trans (Keep.of_wr W3).1 (Nat.le_of_eq g6.symm))))) nin0)).ext E34).ext E35).keep K41 (ninS (Nat.ne_of_lt (Nat.lt_of_lt_of_le V6.lt (Nat.le_trans (Keep.of_wr W7).1 (Nat.le_trans E10.1 (Nat.le_trans (Keep.of_wr W11).1 (Nat.le_trans E14.1 (Nat.le_trans (Keep.of_wr W15).1 (Nat.le_trans E18.1 (Nat.le_trans (Keep.of_wr W19).1 (Nat.le_trans E22.1 (Nat.le_trans (Keep.of_wr W23).1 (Nat.le_trans E26.1 (Nat.le_trans (Keep.of_wr W27).1 (Nat.le_trans K33.1 (Nat.le_of_eq g34.symm))))))))))))))) nin0)).other W42 (Ne.symm (Nat.ne_of_lt (Nat.lt_of_lt_of_le E_kq.lt (Nat.le_trans E2.1 (Nat.le_trans (Keep.of_wr W3).1 (Nat.le_of_eq g6.symm)))))))
  have Vp56 : Arp Z h42 fa6 fk6 .long (1024 : Int32) PJ := Arp.of f57 (fun _ => own_PJ _)
  have f59 := ((((((((((((((V10.other W11 (Ne.symm (Nat.ne_of_lt (Nat.lt_of_lt_of_le E_kq.lt (Nat.le_trans E2.1 (Nat.le_trans (Keep.of_wr W3).1 (Nat.le_trans E6.1 (Nat.le_trans (Keep.of_wr W7).1 (Nat.le_of_eq g10.symm))))))))).ext E14).other W15 (Ne.symm (Nat.ne_of_lt (Nat.lt_of_lt_of_le E_kq.lt (Nat.le_trans E2.1 (Nat.le_trans (Keep.of_wr W3).1 (Nat.le_trans E6.1 (Nat.le_trans (Keep.of_wr W7).1 (Nat.le_of_eq g10.symm))))))))).ext E18).other W19 (Ne.symm (Nat.ne_of_lt (Nat.lt_of_lt_of_le E_kq.lt (Nat.le_trans E2.1 (Nat.le_trans (Keep.of_wr W3).1 (Nat.le_trans E6.1 (Nat.le_trans (Keep.of_wr W7).1 (Nat.le_of_eq g10.symm))))))))).ext E22).other W23 (Ne.symm (Nat.ne_of_lt (Nat.lt_of_lt_of_le E_kq.lt (Nat.le_trans E2.1 (Nat.le_trans (Keep.of_wr W3).1 (Nat.le_trans E6.1 (Nat.le_trans (Keep.of_wr W7).1 (Nat.le_of_eq g10.symm))))))))).ext E26).other W27 (Ne.symm (Nat.ne_of_lt (Nat.lt_of_lt_of_le E_kq.lt (Nat.le_trans E2.1 (Nat.le_trans (Keep.of_wr W3).1 (Nat.le_trans E6.1 (Nat.le_trans (Keep.of_wr W7).1 (Nat.le_of_eq g10.symm))))))))).keep K33 (ninS (Ne.symm (Nat.ne_of_lt (Nat.lt_of_lt_of_le V2.lt (Nat.le_trans (Keep.of_wr W3).1 (Nat.le_trans E6.1 (Nat.le_trans (Keep.of_wr W7).1 (Nat.le_of_eq g10.symm))))))) nin0)).ext E34).ext E35).keep K41 (ninS (Nat.ne_of_lt (Nat.lt_of_lt_of_le V10.lt (Nat.le_trans (Keep.of_wr W11).1 (Nat.le_trans E14.1 (Nat.le_trans (Keep.of_wr W15).1 (Nat.le_trans E18.1 (Nat.le_trans (Keep.of_wr W19).1 (Nat.le_trans E22.1 (Nat.le_trans (Keep.of_wr W23).1 (Nat.le_trans E26.1 (Nat.le_trans (Keep.of_wr W27).1 (Nat.le_trans K33.1 (Nat.le_of_eq g34.symm))))))))))))) nin0)).other W42 (Ne.symm (Nat.ne_of_lt (Nat.lt_of_lt_of_le E_kq.lt (Nat.le_trans E2.1 (Nat.le_trans (Keep.of_wr W3).1 (Nat.le_trans E6.1 (Nat.le_trans (Keep.of_wr W7).1 (Nat.le_of_eq g10.symm)))))))))
  have Vu58 : Arv Z h42 fa10 fk10 .long (16 : Int32) [] (.long (0 : Int64)) := (f59).pad (fun i => (pad_rep [] (.long (0 : Int64)) 16 i).symm)
  have Vp60 : Arp Z h42 fa10 fk10 .long (16 : Int32) PJ := Arp.of Vu58 (fun _ => own_PJ _)
  have f61 := (((((((((((Fw15.ext E18).other W19 (Or.inr (slot_ne (Or.inr (wd 19 rfl)) (Or.inr (wd 21 rfl)) (by decide) (t := (.array .long)) (t' := (.array .int)) (by decide) (by decide)))).ext E22).other W23 (Or.inr (slot_ne (Or.inr (wd 19 rfl)) (Or.inr (wd 23 rfl)) (by decide) (t := (.array .long)) (t' := (.array .int)) (by decide) (by decide)))).ext E26).other W27 (Or.inr (slot_ne (Or.inr (wd 19 rfl)) (Or.inr (wd 26 rfl)) (by decide) (t := (.array .long)) (t' := (.array .boolean)) (by decide) (by decide)))).keep K33 (ninS (Nat.ne_of_lt (Nat.lt_of_lt_of_le E_kq.lt (Nat.le_of_eq g2.symm))) nin0)).ext E34).ext E35).keep K41 (ninS (Nat.ne_of_lt (Nat.lt_of_lt_of_le E_kq.lt (Nat.le_trans E2.1 (Nat.le_trans (Keep.of_wr W3).1 (Nat.le_trans E6.1 (Nat.le_trans (Keep.of_wr W7).1 (Nat.le_trans E10.1 (Nat.le_trans (Keep.of_wr W11).1 (Nat.le_trans E14.1 (Nat.le_trans (Keep.of_wr W15).1 (Nat.le_trans E18.1 (Nat.le_trans (Keep.of_wr W19).1 (Nat.le_trans E22.1 (Nat.le_trans (Keep.of_wr W23).1 (Nat.le_trans E26.1 (Nat.le_trans (Keep.of_wr W27).1 (Nat.le_trans K33.1 (Nat.le_of_eq g34.symm)))))))))))))))))) nin0)).other W42 (Or.inr (slot_ne (Or.inr (wd 19 rfl)) (Or.inr (wd 50 rfl)) (by decide) (t := (.array .long)) (t' := (.object "com/example/leasewise/leasewise/IndexedHeap")) (by decide) (by decide))))
  have f62 := (((((((((Fw19.ext E22).other W23 (Or.inr (slot_ne (Or.inr (wd 21 rfl)) (Or.inr (wd 23 rfl)) (by decide) (t := (.array .int)) (t' := (.array .int)) (by decide) (by decide)))).ext E26).other W27 (Or.inr (slot_ne (Or.inr (wd 21 rfl)) (Or.inr (wd 26 rfl)) (by decide) (t := (.array .int)) (t' := (.array .boolean)) (by decide) (by decide)))).keep K33 (ninS (Nat.ne_of_lt (Nat.lt_of_lt_of_le E_kq.lt (Nat.le_of_eq g2.symm))) nin0)).ext E34).ext E35).keep K41 (ninS (Nat.ne_of_lt (Nat.lt_of_lt_of_le E_kq.lt (Nat.le_trans E2.1 (Nat.le_trans (Keep.of_wr W3).1 (Nat.le_trans E6.1 (Nat.le_trans (Keep.of_wr W7).1 (Nat.le_trans E10.1 (Nat.le_trans (Keep.of_wr W11).1 (Nat.le_trans E14.1 (Nat.le_trans (Keep.of_wr W15).1 (Nat.le_trans E18.1 (Nat.le_trans (Keep.of_wr W19).1 (Nat.le_trans E22.1 (Nat.le_trans (Keep.of_wr W23).1 (Nat.le_trans E26.1 (Nat.le_trans (Keep.of_wr W27).1 (Nat.le_trans K33.1 (Nat.le_of_eq g34.symm)))))))))))))))))) nin0)).other W42 (Or.inr (slot_ne (Or.inr (wd 21 rfl)) (Or.inr (wd 50 rfl)) (by decide) (t := (.array .int)) (t' := (.object "com/example/leasewise/leasewise/IndexedHeap")) (by decide) (by decide))))
  have f63 := (((((((Fw23.ext E26).other W27 (Or.inr (slot_ne (Or.inr (wd 23 rfl)) (Or.inr (wd 26 rfl)) (by decide) (t := (.array .int)) (t' := (.array .boolean)) (by decide) (by decide)))).keep K33 (ninS (Nat.ne_of_lt (Nat.lt_of_lt_of_le E_kq.lt (Nat.le_of_eq g2.symm))) nin0)).ext E34).ext E35).keep K41 (ninS (Nat.ne_of_lt (Nat.lt_of_lt_of_le E_kq.lt (Nat.le_trans E2.1 (Nat.le_trans (Keep.of_wr W3).1 (Nat.le_trans E6.1 (Nat.le_trans (Keep.of_wr W7).1 (Nat.le_trans E10.1 (Nat.le_trans (Keep.of_wr W11).1 (Nat.le_trans E14.1 (Nat.le_trans (Keep.of_wr W15).1 (Nat.le_trans E18.1 (Nat.le_trans (Keep.of_wr W19).1 (Nat.le_trans E22.1 (Nat.le_trans (Keep.of_wr W23).1 (Nat.le_trans E26.1 (Nat.le_trans (Keep.of_wr W27).1 (Nat.le_trans K33.1 (Nat.le_of_eq g34.symm)))))))))))))))))) nin0)).other W42 (Or.inr (slot_ne (Or.inr (wd 23 rfl)) (Or.inr (wd 50 rfl)) (by decide) (t := (.array .int)) (t' := (.object "com/example/leasewise/leasewise/IndexedHeap")) (by decide) (by decide))))
  have f64 := (((((Fw27.keep K33 (ninS (Nat.ne_of_lt (Nat.lt_of_lt_of_le E_kq.lt (Nat.le_of_eq g2.symm))) nin0)).ext E34).ext E35).keep K41 (ninS (Nat.ne_of_lt (Nat.lt_of_lt_of_le E_kq.lt (Nat.le_trans E2.1 (Nat.le_trans (Keep.of_wr W3).1 (Nat.le_trans E6.1 (Nat.le_trans (Keep.of_wr W7).1 (Nat.le_trans E10.1 (Nat.le_trans (Keep.of_wr W11).1 (Nat.le_trans E14.1 (Nat.le_trans (Keep.of_wr W15).1 (Nat.le_trans E18.1 (Nat.le_trans (Keep.of_wr W19).1 (Nat.le_trans E22.1 (Nat.le_trans (Keep.of_wr W23).1 (Nat.le_trans E26.1 (Nat.le_trans (Keep.of_wr W27).1 (Nat.le_trans K33.1 (Nat.le_of_eq g34.symm)))))))))))))))))) nin0)).other W42 (Or.inr (slot_ne (Or.inr (wd 26 rfl)) (Or.inr (wd 50 rfl)) (by decide) (t := (.array .boolean)) (t' := (.object "com/example/leasewise/leasewise/IndexedHeap")) (by decide) (by decide))))
  have f65 := (((((f30.keep K33 (ninS (Nat.ne_of_lt (Nat.lt_of_lt_of_le E_kq.lt (Nat.le_of_eq g2.symm))) nin0)).ext E34).ext E35).keep K41 (ninS (Nat.ne_of_lt (Nat.lt_of_lt_of_le E_kq.lt (Nat.le_trans E2.1 (Nat.le_trans (Keep.of_wr W3).1 (Nat.le_trans E6.1 (Nat.le_trans (Keep.of_wr W7).1 (Nat.le_trans E10.1 (Nat.le_trans (Keep.of_wr W11).1 (Nat.le_trans E14.1 (Nat.le_trans (Keep.of_wr W15).1 (Nat.le_trans E18.1 (Nat.le_trans (Keep.of_wr W19).1 (Nat.le_trans E22.1 (Nat.le_trans (Keep.of_wr W23).1 (Nat.le_trans E26.1 (Nat.le_trans (Keep.of_wr W27).1 (Nat.le_trans K33.1 (Nat.le_of_eq g34.symm)))))))))))))))))) nin0)).other W42 (Or.inr (slot_ne (Or.inr (wd 12 rfl)) (Or.inr (wd 50 rfl)) (by decide) (t := (.array .int)) (t' := (.object "com/example/leasewise/leasewise/IndexedHeap")) (by decide) (by decide))))
  have f66 := (((((((((((((((Fw7.ext E10).other W11 (Or.inr (slot_ne (Or.inr (wd 15 rfl)) (Or.inr (wd 17 rfl)) (by decide) (t := (.array .long)) (t' := (.array .long)) (by decide) (by decide)))).ext E14).other W15 (Or.inr (slot_ne (Or.inr (wd 15 rfl)) (Or.inr (wd 19 rfl)) (by decide) (t := (.array .long)) (t' := (.array .long)) (by decide) (by decide)))).ext E18).other W19 (Or.inr (slot_ne (Or.inr (wd 15 rfl)) (Or.inr (wd 21 rfl)) (by decide) (t := (.array .long)) (t' := (.array .int)) (by decide) (by decide)))).ext E22).other W23 (Or.inr (slot_ne (Or.inr (wd 15 rfl)) (Or.inr (wd 23 rfl)) (by decide) (t := (.array .long)) (t' := (.array .int)) (by decide) (by decide)))).ext E26).other W27 (Or.inr (slot_ne (Or.inr (wd 15 rfl)) (Or.inr (wd 26 rfl)) (by decide) (t := (.array .long)) (t' := (.array .boolean)) (by decide) (by decide)))).keep K33 (ninS (Nat.ne_of_lt (Nat.lt_of_lt_of_le E_kq.lt (Nat.le_of_eq g2.symm))) nin0)).ext E34).ext E35).keep K41 (ninS (Nat.ne_of_lt (Nat.lt_of_lt_of_le E_kq.lt (Nat.le_trans E2.1 (Nat.le_trans (Keep.of_wr W3).1 (Nat.le_trans E6.1 (Nat.le_trans (Keep.of_wr W7).1 (Nat.le_trans E10.1 (Nat.le_trans (Keep.of_wr W11).1 (Nat.le_trans E14.1 (Nat.le_trans (Keep.of_wr W15).1 (Nat.le_trans E18.1 (Nat.le_trans (Keep.of_wr W19).1 (Nat.le_trans E22.1 (Nat.le_trans (Keep.of_wr W23).1 (Nat.le_trans E26.1 (Nat.le_trans (Keep.of_wr W27).1 (Nat.le_trans K33.1 (Nat.le_of_eq g34.symm)))))))))))))))))) nin0)).other W42 (Or.inr (slot_ne (Or.inr (wd 15 rfl)) (Or.inr (wd 50 rfl)) (by decide) (t := (.array .long)) (t' := (.object "com/example/leasewise/leasewise/IndexedHeap")) (by decide) (by decide))))
  have f67 := (((((((((((((Fw11.ext E14).other W15 (Or.inr (slot_ne (Or.inr (wd 17 rfl)) (Or.inr (wd 19 rfl)) (by decide) (t := (.array .long)) (t' := (.array .long)) (by decide) (by decide)))).ext E18).other W19 (Or.inr (slot_ne (Or.inr (wd 17 rfl)) (Or.inr (wd 21 rfl)) (by decide) (t := (.array .long)) (t' := (.array .int)) (by decide) (by decide)))).ext E22).other W23 (Or.inr (slot_ne (Or.inr (wd 17 rfl)) (Or.inr (wd 23 rfl)) (by decide) (t := (.array .long)) (t' := (.array .int)) (by decide) (by decide)))).ext E26).other W27 (Or.inr (slot_ne (Or.inr (wd 17 rfl)) (Or.inr (wd 26 rfl)) (by decide) (t := (.array .long)) (t' := (.array .boolean)) (by decide) (by decide)))).keep K33 (ninS (Nat.ne_of_lt (Nat.lt_of_lt_of_le E_kq.lt (Nat.le_of_eq g2.symm))) nin0)).ext E34).ext E35).keep K41 (ninS (Nat.ne_of_lt (Nat.lt_of_lt_of_le E_kq.lt (Nat.le_trans E2.1 (Nat.le_trans (Keep.of_wr W3).1 (Nat.le_trans E6.1 (Nat.le_trans (Keep.of_wr W7).1 (Nat.le_trans E10.1 (Nat.le_trans (Keep.of_wr W11).1 (Nat.le_trans E14.1 (Nat.le_trans (Keep.of_wr W15).1 (Nat.le_trans E18.1 (Nat.le_trans (Keep.of_wr W19).1 (Nat.le_trans E22.1 (Nat.le_trans (Keep.of_wr W23).1 (Nat.le_trans E26.1 (Nat.le_trans (Keep.of_wr W27).1 (Nat.le_trans K33.1 (Nat.le_of_eq g34.symm)))))))))))))))))) nin0)).other W42 (Or.inr (slot_ne (Or.inr (wd 17 rfl)) (Or.inr (wd 50 rfl)) (by decide) (t := (.array .long)) (t' := (.object "com/example/leasewise/leasewise/IndexedHeap")) (by decide) (by decide))))
  have f68 := (((((((((((((((((((F_kq_bucketed.ext E2).other W3 (Or.inr (slot_ne (Or.inl (wd 109 rfl)) (Or.inr (wd 12 rfl)) (by decide) (t := .int) (t' := (.array .int)) (by decide) (by decide)))).ext E6).other W7 (Or.inr (slot_ne (Or.inl (wd 109 rfl)) (Or.inr (wd 15 rfl)) (by decide) (t := .int) (t' := (.array .long)) (by decide) (by decide)))).ext E10).other W11 (Or.inr (slot_ne (Or.inl (wd 109 rfl)) (Or.inr (wd 17 rfl)) (by decide) (t := .int) (t' := (.array .long)) (by decide) (by decide)))).ext E14).other W15 (Or.inr (slot_ne (Or.inl (wd 109 rfl)) (Or.inr (wd 19 rfl)) (by decide) (t := .int) (t' := (.array .long)) (by decide) (by decide)))).ext E18).other W19 (Or.inr (slot_ne (Or.inl (wd 109 rfl)) (Or.inr (wd 21 rfl)) (by decide) (t := .int) (t' := (.array .int)) (by decide) (by decide)))).ext E22).other W23 (Or.inr (slot_ne (Or.inl (wd 109 rfl)) (Or.inr (wd 23 rfl)) (by decide) (t := .int) (t' := (.array .int)) (by decide) (by decide)))).ext E26).other W27 (Or.inr (slot_ne (Or.inl (wd 109 rfl)) (Or.inr (wd 26 rfl)) (by decide) (t := .int) (t' := (.array .boolean)) (by decide) (by decide)))).keep K33 (ninS (Nat.ne_of_lt (Nat.lt_of_lt_of_le E_kq.lt (Nat.le_of_eq g2.symm))) nin0)).ext E34).ext E35).keep K41 (ninS (Nat.ne_of_lt (Nat.lt_of_lt_of_le E_kq.lt (Nat.le_trans E2.1 (Nat.le_trans (Keep.of_wr W3).1 (Nat.le_trans E6.1 (Nat.le_trans (Keep.of_wr W7).1 (Nat.le_trans E10.1 (Nat.le_trans (Keep.of_wr W11).1 (Nat.le_trans E14.1 (Nat.le_trans (Keep.of_wr W15).1 (Nat.le_trans E18.1 (Nat.le_trans (Keep.of_wr W19).1 (Nat.le_trans E22.1 (Nat.le_trans (Keep.of_wr W23).1 (Nat.le_trans E26.1 (Nat.le_trans (Keep.of_wr W27).1 (Nat.le_trans K33.1 (Nat.le_of_eq g34.symm)))))))))))))))))) nin0)).other W42 (Or.inr (slot_ne (Or.inl (wd 109 rfl)) (Or.inr (wd 50 rfl)) (by decide) (t := .int) (t' := (.object "com/example/leasewise/leasewise/IndexedHeap")) (by decide) (by decide))))
  have f69 := (((((((((((((((((((F_kq_floor.ext E2).other W3 (Or.inr (slot_ne (Or.inl (wd 68 rfl)) (Or.inr (wd 12 rfl)) (by decide) (t := .long) (t' := (.array .int)) (by decide) (by decide)))).ext E6).other W7 (Or.inr (slot_ne (Or.inl (wd 68 rfl)) (Or.inr (wd 15 rfl)) (by decide) (t := .long) (t' := (.array .long)) (by decide) (by decide)))).ext E10).other W11 (Or.inr (slot_ne (Or.inl (wd 68 rfl)) (Or.inr (wd 17 rfl)) (by decide) (t := .long) (t' := (.array .long)) (by decide) (by decide)))).ext E14).other W15 (Or.inr (slot_ne (Or.inl (wd 68 rfl)) (Or.inr (wd 19 rfl)) (by decide) (t := .long) (t' := (.array .long)) (by decide) (by decide)))).ext E18).other W19 (Or.inr (slot_ne (Or.inl (wd 68 rfl)) (Or.inr (wd 21 rfl)) (by decide) (t := .long) (t' := (.array .int)) (by decide) (by decide)))).ext E22).other W23 (Or.inr (slot_ne (Or.inl (wd 68 rfl)) (Or.inr (wd 23 rfl)) (by decide) (t := .long) (t' := (.array .int)) (by decide) (by decide)))).ext E26).other W27 (Or.inr (slot_ne (Or.inl (wd 68 rfl)) (Or.inr (wd 26 rfl)) (by decide) (t := .long) (t' := (.array .boolean)) (by decide) (by decide)))).keep K33 (ninS (Nat.ne_of_lt (Nat.lt_of_lt_of_le E_kq.lt (Nat.le_of_eq g2.symm))) nin0)).ext E34).ext E35).keep K41 (ninS (Nat.ne_of_lt (Nat.lt_of_lt_of_le E_kq.lt (Nat.le_trans E2.1 (Nat.le_trans (Keep.of_wr W3).1 (Nat.le_trans E6.1 (Nat.le_trans (Keep.of_wr W7).1 (Nat.le_trans E10.1 (Nat.le_trans (Keep.of_wr W11).1 (Nat.le_trans E14.1 (Nat.le_trans (Keep.of_wr W15).1 (Nat.le_trans E18.1 (Nat.le_trans (Keep.of_wr W19).1 (Nat.le_trans E22.1 (Nat.le_trans (Keep.of_wr W23).1 (Nat.le_trans E26.1 (Nat.le_trans (Keep.of_wr W27).1 (Nat.le_trans K33.1 (Nat.le_of_eq g34.symm)))))))))))))))))) nin0)).other W42 (Or.inr (slot_ne (Or.inl (wd 68 rfl)) (Or.inr (wd 50 rfl)) (by decide) (t := .long) (t' := (.object "com/example/leasewise/leasewise/IndexedHeap")) (by decide) (by decide))))
  have f70 := ((((((V26.other W27 (Ne.symm (Nat.ne_of_lt (Nat.lt_of_lt_of_le E_kq.lt (Nat.le_trans E2.1 (Nat.le_trans (Keep.of_wr W3).1 (Nat.le_trans E6.1 (Nat.le_trans (Keep.of_wr W7).1 (Nat.le_trans E10.1 (Nat.le_trans (Keep.of_wr W11).1 (Nat.le_trans E14.1 (Nat.le_trans (Keep.of_wr W15).1 (Nat.le_trans E18.1 (Nat.le_trans (Keep.of_wr W19).1 (Nat.le_trans E22.1 (Nat.le_trans (Keep.of_wr W23).1 (Nat.le_of_eq g26.symm))))))))))))))))).keep K33 (ninS (Ne.symm (Nat.ne_of_lt (Nat.lt_of_lt_of_le V2.lt (Nat.le_trans (Keep.of_wr W3).1 (Nat.le_trans E6.1 (Nat.le_trans (Keep.of_wr W7).1 (Nat.le_trans E10.1 (Nat.le_trans (Keep.of_wr W11).1 (Nat.le_trans E14.1 (Nat.le_trans (Keep.of_wr W15).1 (Nat.le_trans E18.1 (Nat.le_trans (Keep.of_wr W19).1 (Nat.le_trans E22.1 (Nat.le_trans (Keep.of_wr W23).1 (Nat.le_of_eq g26.symm))))))))))))))) nin0)).ext E34).ext E35).keep K41 (ninS (Nat.ne_of_lt (Nat.lt_of_lt_of_le V26.lt (Nat.le_trans (Keep.of_wr W27).1 (Nat.le_trans K33.1 (Nat.le_of_eq g34.symm))))) nin0)).other W42 (Ne.symm (Nat.ne_of_lt (Nat.lt_of_lt_of_le E_kq.lt (Nat.le_trans E2.1 (Nat.le_trans (Keep.of_wr W3).1 (Nat.le_trans E6.1 (Nat.le_trans (Keep.of_wr W7).1 (Nat.le_trans E10.1 (Nat.le_trans (Keep.of_wr W11).1 (Nat.le_trans E14.1 (Nat.le_trans (Keep.of_wr W15).1 (Nat.le_trans E18.1 (Nat.le_trans (Keep.of_wr W19).1 (Nat.le_trans E22.1 (Nat.le_trans (Keep.of_wr W23).1 (Nat.le_of_eq g26.symm)))))))))))))))))
  have f71 := ((f36.keep K41).wr W42)
  have f72 := (Q41_0.other W42 (Or.inl (Ne.symm (Nat.ne_of_lt (Nat.lt_of_lt_of_le E_kq.lt (Nat.le_trans E2.1 (Nat.le_trans (Keep.of_wr W3).1 (Nat.le_trans E6.1 (Nat.le_trans (Keep.of_wr W7).1 (Nat.le_trans E10.1 (Nat.le_trans (Keep.of_wr W11).1 (Nat.le_trans E14.1 (Nat.le_trans (Keep.of_wr W15).1 (Nat.le_trans E18.1 (Nat.le_trans (Keep.of_wr W19).1 (Nat.le_trans E22.1 (Nat.le_trans (Keep.of_wr W23).1 (Nat.le_trans E26.1 (Nat.le_trans (Keep.of_wr W27).1 (Nat.le_trans K33.1 (Nat.le_of_eq g34.symm)))))))))))))))))))))
  have f73 := (Q41_1.other W42 (Or.inl (Ne.symm (Nat.ne_of_lt (Nat.lt_of_lt_of_le E_kq.lt (Nat.le_trans E2.1 (Nat.le_trans (Keep.of_wr W3).1 (Nat.le_trans E6.1 (Nat.le_trans (Keep.of_wr W7).1 (Nat.le_trans E10.1 (Nat.le_trans (Keep.of_wr W11).1 (Nat.le_trans E14.1 (Nat.le_trans (Keep.of_wr W15).1 (Nat.le_trans E18.1 (Nat.le_trans (Keep.of_wr W19).1 (Nat.le_trans E22.1 (Nat.le_trans (Keep.of_wr W23).1 (Nat.le_trans E26.1 (Nat.le_trans (Keep.of_wr W27).1 (Nat.le_trans K33.1 (Nat.le_of_eq g34.symm)))))))))))))))))))))
  have f74 := (Q41_2.other W42 (Or.inl (Ne.symm (Nat.ne_of_lt (Nat.lt_of_lt_of_le E_kq.lt (Nat.le_trans E2.1 (Nat.le_trans (Keep.of_wr W3).1 (Nat.le_trans E6.1 (Nat.le_trans (Keep.of_wr W7).1 (Nat.le_trans E10.1 (Nat.le_trans (Keep.of_wr W11).1 (Nat.le_trans E14.1 (Nat.le_trans (Keep.of_wr W15).1 (Nat.le_trans E18.1 (Nat.le_trans (Keep.of_wr W19).1 (Nat.le_trans E22.1 (Nat.le_trans (Keep.of_wr W23).1 (Nat.le_trans E26.1 (Nat.le_trans (Keep.of_wr W27).1 (Nat.le_trans K33.1 (Nat.le_of_eq g34.symm)))))))))))))))))))))
  have f75 := (Q41_3.other W42 (Or.inl (Ne.symm (Nat.ne_of_lt (Nat.lt_of_lt_of_le E_kq.lt (Nat.le_trans E2.1 (Nat.le_trans (Keep.of_wr W3).1 (Nat.le_trans E6.1 (Nat.le_trans (Keep.of_wr W7).1 (Nat.le_trans E10.1 (Nat.le_trans (Keep.of_wr W11).1 (Nat.le_trans E14.1 (Nat.le_trans (Keep.of_wr W15).1 (Nat.le_trans E18.1 (Nat.le_trans (Keep.of_wr W19).1 (Nat.le_trans E22.1 (Nat.le_trans (Keep.of_wr W23).1 (Nat.le_trans E26.1 (Nat.le_trans (Keep.of_wr W27).1 (Nat.le_trans K33.1 (Nat.le_of_eq g34.symm)))))))))))))))))))))
  have f76 := (Q41_4.other W42 (Ne.symm (Nat.ne_of_lt (Nat.lt_of_lt_of_le E_kq.lt (Nat.le_trans E2.1 (Nat.le_trans (Keep.of_wr W3).1 (Nat.le_trans E6.1 (Nat.le_trans (Keep.of_wr W7).1 (Nat.le_trans E10.1 (Nat.le_trans (Keep.of_wr W11).1 (Nat.le_trans E14.1 (Nat.le_trans (Keep.of_wr W15).1 (Nat.le_trans E18.1 (Nat.le_trans (Keep.of_wr W19).1 (Nat.le_trans E22.1 (Nat.le_trans (Keep.of_wr W23).1 (Nat.le_trans E26.1 (Nat.le_trans (Keep.of_wr W27).1 (Nat.le_trans K33.1 (Nat.le_trans E34.1 (Nat.le_trans E35.1 gq_aE_41)))))))))))))))))))))
  have f77 := (Q41_5.other W42 (Ne.symm (Nat.ne_of_lt (Nat.lt_of_lt_of_le E_kq.lt (Nat.le_trans E2.1 (Nat.le_trans (Keep.of_wr W3).1 (Nat.le_trans E6.1 (Nat.le_trans (Keep.of_wr W7).1 (Nat.le_trans E10.1 (Nat.le_trans (Keep.of_wr W11).1 (Nat.le_trans E14.1 (Nat.le_trans (Keep.of_wr W15).1 (Nat.le_trans E18.1 (Nat.le_trans (Keep.of_wr W19).1 (Nat.le_trans E22.1 (Nat.le_trans (Keep.of_wr W23).1 (Nat.le_trans E26.1 (Nat.le_trans (Keep.of_wr W27).1 (Nat.le_trans K33.1 (Nat.le_trans E34.1 (Nat.le_trans E35.1 gq_aP_41)))))))))))))))))))))
  have f78 := ((Y35.keep K41 (ninS (Ne.symm (Nat.ne_of_lt (Nat.lt_of_lt_of_le A34.lt (Nat.le_of_eq g35.symm)))) nin0)).other W42 (Ne.symm (Nat.ne_of_lt (Nat.lt_of_lt_of_le E_kq.lt (Nat.le_trans E2.1 (Nat.le_trans (Keep.of_wr W3).1 (Nat.le_trans E6.1 (Nat.le_trans (Keep.of_wr W7).1 (Nat.le_trans E10.1 (Nat.le_trans (Keep.of_wr W11).1 (Nat.le_trans E14.1 (Nat.le_trans (Keep.of_wr W15).1 (Nat.le_trans E18.1 (Nat.le_trans (Keep.of_wr W19).1 (Nat.le_trans E22.1 (Nat.le_trans (Keep.of_wr W23).1 (Nat.le_trans E26.1 (Nat.le_trans (Keep.of_wr W27).1 (Nat.le_trans K33.1 (Nat.le_trans E34.1 (Nat.le_of_eq g35.symm)))))))))))))))))))))
  obtain ⟨fs, hr, hrun, hended, hW, hsame⟩ := X42.leave (v := none) (fun _ => rfl)
  refine ⟨_, _, pre0 _ ?_, hrun, hended, _, _, rfl, ?_, ⟨_, rfl⟩, hW, hsame.mono (by decide) (by decide)⟩
  · refine s_aloadN X0 hx (D d1_0) rfl rfl ?_
    refine st1 _ ?_
    refine s_aloadN X1 hx (D d1_4) rfl rfl ?_
    refine X1.ldcInt hx hown (mvT hZ (wd 9 rfl)) (g := (mkF m 5 #[.val (.ref kq), .val (.int (4 : Int32))] [(.ref kq)])) rfl (D d1_5) _ ?_
    refine st2 _ ?_
    refine st3 _ ?_
    refine s_aloadN X3 hx (D d1_12) rfl rfl ?_
    refine s_sipush X3 hx (1024 : Int32) (D d1_13) rfl ?_
    refine st6 _ ?_
    refine st7 _ ?_
    refine s_aloadN X7 hx (D d1_21) rfl rfl ?_
    refine s_bipush X7 hx (16 : Int32) (D d1_22) rfl ?_
    refine st10 _ ?_
    refine st11 _ ?_
    refine s_aloadN X11 hx (D d1_29) rfl rfl ?_
    refine s_iloadN X11 hx (D d1_30) rfl ?_
    refine st14 _ ?_
    refine st15 _ ?_
    refine s_aloadN X15 hx (D d1_36) rfl rfl ?_
    refine s_iloadN X15 hx (D d1_37) rfl ?_
    refine st18 _ ?_
    refine st19 _ ?_
    refine s_aloadN X19 hx (D d1_43) rfl rfl ?_
    refine s_iloadN X19 hx (D d1_44) rfl ?_
    refine st22 _ ?_
    refine st23 _ ?_
    refine s_aloadN X23 hx (D d1_50) rfl rfl ?_
    refine s_iloadN X23 hx (D d1_51) rfl ?_
    refine st26 _ ?_
    refine st27 _ ?_
    refine s_aloadN X27 hx (D d1_57) rfl rfl ?_
    refine st31 _ ?_
    refine s_iconst X31 hx (-1 : Int32) (D d1_61) rfl ?_
    refine st33 _ ?_
    refine s_aloadN X33 hx (D d1_65) rfl rfl ?_
    refine st34 _ ?_
    refine s_dup X34 hx (D d1_69) rfl ?_
    refine s_iloadN X34 hx (D d1_70) rfl ?_
    refine s_aloadN X34 hx (D d1_71) rfl rfl ?_
    show Steps p.tables e below (T34.setTop (mkF m 72 #[.val (.ref kq), .val (.int (4 : Int32))] [(.ref kq), (.int (4 : Int32)), (.ref fa34), (.ref fa34), (.ref kq)])) _
    refine st35 _ ?_
    refine st41.trans ?_
    refine st42 _ ?_
    exact X42.returnOut hx Bd.returns (D d1_83) hr
  · show Q_rm_kinit Z kq h0 n0 _ T42.heap _
    rw [e42]
    exact ⟨fa2, fa6, fa10, fa14, fa18, fa22, fa26, fa34, fa35, aE_41, aP_41, cK35, fk14, fk18, fk22, fk26, fk2, fk6, fk10, kE_41, kP_41, rfl, N42, K42, gh_fa2, gh_fa6, gh_fa10, gh_fa14, gh_fa18, gh_fa22, gh_fa26, gh_fa34, gh_fa35, gh_aE_41, gh_aP_41, f61, f62, f63, f64, f65, f66, f67, Fw42, f68, f69, Vp47, Vp50, Vp53, f70, Vp54, Vp56, Vp60, f71, f72, f73, f74, f75, f76, f77, f78, (own_nd12 (Nat.lt_of_lt_of_le E_kq.lt (Nat.le_of_eq g2.symm)) (Nat.lt_of_lt_of_le V2.lt (Nat.le_trans (Keep.of_wr W3).1 (Nat.le_of_eq g6.symm))) (Nat.lt_of_lt_of_le V6.lt (Nat.le_trans (Keep.of_wr W7).1 (Nat.le_of_eq g10.symm))) (Nat.lt_of_lt_of_le V10.lt (Nat.le_trans (Keep.of_wr W11).1 (Nat.le_of_eq g14.symm))) (Nat.lt_of_lt_of_le V14.lt (Nat.le_trans (Keep.of_wr W15).1 (Nat.le_of_eq g18.symm))) (Nat.lt_of_lt_of_le V18.lt (Nat.le_trans (Keep.of_wr W19).1 (Nat.le_of_eq g22.symm))) (Nat.lt_of_lt_of_le V22.lt (Nat.le_trans (Keep.of_wr W23).1 (Nat.le_of_eq g26.symm))) (Nat.lt_of_lt_of_le V26.lt (Nat.le_trans (Keep.of_wr W27).1 (Nat.le_trans K33.1 (Nat.le_of_eq g34.symm)))) (Nat.lt_of_lt_of_le A34.lt (Nat.le_of_eq g35.symm)) (Nat.lt_of_lt_of_le Y35.lt gq_aE_41) Q41_6), MD35⟩
theorem own_ki0 : KI 0 0 0 0 0 (-1) (-1) (-1) (-1) 0 0 0 0 0 0 0 0 := ⟨⟨[], by decide, rfl, fun h => absurd h (by decide), fun h => absurd h (by decide), fun h => absurd h (by decide), fun h => absurd h (by decide), rfl, rfl, rfl, rfl⟩, Or.inr (Or.inr ⟨rfl, rfl, rfl⟩), Or.inr (Or.inr ⟨rfl, rfl, rfl⟩), Or.inr (Or.inr ⟨rfl, rfl, rfl⟩), Or.inr (Or.inr ⟨rfl, rfl, rfl⟩)⟩
theorem own_and3 (x : Int32) : I4 (x &&& (3 : Int32)) := by
  have e := c_mask x 3 2 (by decide) (by decide)
  have h3 : ((2 ^ 2 : Nat) : Int) = 4 := by decide
  rw [h3] at e
  unfold I4
  generalize x &&& (3 : Int32) = y at e ⊢
  have h0 : (0 : Int32).toInt = 0 := by decide
  have h1 : (1 : Int32).toInt = 1 := by decide
  have h2 : (2 : Int32).toInt = 2 := by decide
  have h4 : (3 : Int32).toInt = 3 := by decide
  simp only [← Int32.toInt_inj, h0, h1, h2, h4]
  omega
theorem own_max (x : Int64) : ¬ ((x &&& (9223372036854775807 : Int64)) < (0 : Int64)) := by
  have e := c_maskL x 9223372036854775807 63 (by decide) (by decide)
  rw [Int64.lt_iff_toInt_lt, e]
  have h0 : (0 : Int64).toInt = 0 := by decide
  rw [h0]
  exact Int.not_lt.mpr (Int.emod_nonneg _ (by decide))
theorem pd_7 : parseMethodDescriptor "(IJ)V" = some ⟨[.int, .long], none⟩ := by decide +kernel
theorem nn91 {kq aF aO aW aK aB aA aI hp lo aE aP : Addr} (h : List.Nodup [kq, aF, aO, aW, aK, aB, aA, aI, hp, lo, aE, aP]) : lo ∉ [kq, aB, aA, aI, aF, aO, aW, hp, aE, aP, aK] := own_nin h 9 [0, 5, 6, 7, 1, 2, 3, 8, 10, 11, 4] rfl rfl (by decide)
theorem pn_3 : plainName "com/example/leasewise/leasewise/KilometreQueueContainsPinLaw" = true := by first | (simp [plainName, overriddenIn]; done) | decide +kernel
theorem ef_rm0 (m : MethodId) (x0 : Int32) (x1 : Int64) (x2 : Int64) (x3 : Int64) (x4 : Int64) : entryFrame m #[(.int x0), (.long x1), (.long x2), (.long x3), (.long x4)] maxLocals = mkF m 0 #[.val (.int x0), .val (.long x1), .second, .val (.long x2), .second, .val (.long x3), .second, .val (.long x4), .second, .unset, .unset, .unset] [] := by first | (simp [entryFrame, mkF, argsToLocals, Value.category, maxLocals]; done) | rfl
def Q_rm0 (Z : State) (p0 : Int32) (p1 : Int64) (p2 : Int64) (p3 : Int64) (p4 : Int64) (h0 : Heap) (n0 : Nat) (v : Option Value) (h : Heap) (L : List Loc) : Prop := v = some (.int (1 : Int32)) ∧ Fr n0 L ∧ Keep h0 h []
set_option maxRecDepth 65536 in
set_option maxHeartbeats 40000000 in
theorem rm0 (l : Launch) (Z : State) (a0 : Array Value) (hw : ∀ d ∈ tables_1, d.before a0 Z = true) (ws : List Jvm.Cond) (p0 : Int32) (p1 : Int64) (p2 : Int64) (p3 : Int64) (p4 : Int64) (h0 : Heap) (n0 : Nat) (O0 : Old Z n0 h0) :
    MetFree l x (head1 (Jvm.Cond.code x code maxLocals ret :: ws) room_1) (fun a U => a = #[(.int p0), (.long p1), (.long p2), (.long p3), (.long p4)] ∧ Z.WarmedH U.vm ∧ U.heap = h0) (fun _ _ _ _ _ => True) (fun _ U o U' => ∃ v L, o = .returned v ∧ Q_rm0 Z p0 p1 p2 p3 p4 h0 n0 v U'.heap L ∧ FrameEnd U o U' L room_1.cells room_1.slots) := by
  refine MetFree.of_bodySF (plainFor_of_name pn_3) hisR ?_
  intro p e s m args below meth c s₁ Bd hml0 hP hK
  obtain ⟨rfl, hZH, hh⟩ := hP
  have hZ := hZH.wide
  have hx := Bd.exec
  have hby := Bd.bytes
  have D := fun {pc : Nat} {r : Except ClassFile.DecodeError (ClassFile.Instr × Nat)} (q : decode code pc = r) => hb (pc := pc) hby q
  have hml : c.maxLocals = 12 := hml0
  have hown : s.vm.findClass "com/example/leasewise/leasewise/KilometreQueueContainsPinLaw" = some m.cls := findClass_of_methodNamed Bd.named
  have hnm := (name_of_methodNamed Bd.named Bd.method).1
  have X0 : Stand p l e room_1 s m #[(.int p0), (.long p1), (.long p2), (.long p3), (.long p4)] below meth c s₁ [] 0 0 := Stand.of_body Bd
  have e0 : s₁.heap = h0 := by rw [← hh, Bd.state]; rfl
  have N0 := Fr.nil n0
  have pre0 : ∀ t, Steps p.tables e below (s₁.setTop (mkF m 0 #[.val (.int p0), .val (.long p1), .second, .val (.long p2), .second, .val (.long p3), .second, .val (.long p4), .second, .unset, .unset, .unset] [])) t → Steps p.tables e below (s₁.setTop (entryFrame m #[(.int p0), (.long p1), (.long p2), (.long p3), (.long p4)] maxLocals)) t := fun t k => castTop (ef_rm0 m (p0) (p1) (p2) (p3) (p4)) k
  have wd := fun {d : Jvm.Cond} (i : Nat) (h : tables_1[i]? = some d) => hw d (List.mem_of_getElem? h)
  obtain ⟨T1, h1, X1, e1, E1, A1, D1, -, st1⟩ := newO X0 hx hZ hown (wd 0 rfl) (wd 1 rfl) (wd 2 rfl) e0 (g := (mkF m 0 #[.val (.int p0), .val (.long p1), .second, .val (.long p2), .second, .val (.long p3), .second, .val (.long p4), .second, .unset, .unset, .unset] [])) rfl (D at_0) (by decide) (by decide)
  obtain ⟨fa1, g1⟩ : ∃ z, z = h0.size := ⟨_, rfl⟩
  rw [← g1] at A1 D1 st1
  have gn_fa1 : n0 ≤ fa1 := Nat.le_trans (own_oldsz O0) (Nat.le_of_eq g1.symm)
  have gh_fa1 : h0.size ≤ fa1 := Nat.le_trans (Keep.refl h0 []).1 (Nat.le_of_eq g1.symm)
  have Zn1 : n0 ≤ h1.size := Nat.le_trans (own_oldsz O0) E1.1
  have K1 : Keep h0 h1 [] := (Keep.refl h0 []).ext E1
  have O1 := O0.ext E1
  have F1_firsts : Fld Z h1 fa1 "com/example/leasewise/leasewise/KilometreQueue" "firsts" "[I" .null := D1 (Or.inr (wd 12 rfl)) (ty := (.array .int)) (by decide)
  have F1_occupied : Fld Z h1 fa1 "com/example/leasewise/leasewise/KilometreQueue" "occupied" "[J" .null := D1 (Or.inr (wd 15 rfl)) (ty := (.array .long)) (by decide)
  have F1_occupiedWords : Fld Z h1 fa1 "com/example/leasewise/leasewise/KilometreQueue" "occupiedWords" "[J" .null := D1 (Or.inr (wd 17 rfl)) (ty := (.array .long)) (by decide)
  have F1_keys : Fld Z h1 fa1 "com/example/leasewise/leasewise/KilometreQueue" "keys" "[J" .null := D1 (Or.inr (wd 19 rfl)) (ty := (.array .long)) (by decide)
  have F1_before : Fld Z h1 fa1 "com/example/leasewise/leasewise/KilometreQueue" "before" "[I" .null := D1 (Or.inr (wd 21 rfl)) (ty := (.array .int)) (by decide)
  have F1_after : Fld Z h1 fa1 "com/example/leasewise/leasewise/KilometreQueue" "after" "[I" .null := D1 (Or.inr (wd 23 rfl)) (ty := (.array .int)) (by decide)
  have F1_inBucket : Fld Z h1 fa1 "com/example/leasewise/leasewise/KilometreQueue" "inBucket" "[Z" .null := D1 (Or.inr (wd 26 rfl)) (ty := (.array .boolean)) (by decide)
  have F1_further : Fld Z h1 fa1 "com/example/leasewise/leasewise/KilometreQueue" "further" "Lcom/example/leasewise/leasewise/IndexedHeap;" .null := D1 (Or.inr (wd 50 rfl)) (ty := (.object "com/example/leasewise/leasewise/IndexedHeap")) (by decide)
  have F1_floor : Fld Z h1 fa1 "com/example/leasewise/leasewise/KilometreQueue" "floor" "J" (.long (0 : Int64)) := D1 (Or.inl (wd 68 rfl)) (ty := .long) (by decide)
  have F1_bucketed : Fld Z h1 fa1 "com/example/leasewise/leasewise/KilometreQueue" "bucketed" "I" (.int (0 : Int32)) := D1 (Or.inl (wd 109 rfl)) (ty := .int) (by decide)
  obtain ⟨_, _, ⟨T2, L2, k2, n2⟩, -, X2, ⟨Lc2, hQ2, l2, y2, z2⟩, st2⟩ := X1.specialBack hx (y := (⟨"com/example/leasewise/leasewise/KilometreQueue", "<init>", "(I)V"⟩ : MethodName)) rfl hown (mvT hZ (wd 3 rfl)) (mvT hZ (wd 4 rfl)) (mvT hZ (wd 5 rfl)) (by decide) (own_backH (W := 1) (rm_kinit l Z a0 hw [] fa1 h1 n0 O1 A1 F1_keys F1_before F1_after F1_inBucket F1_firsts F1_occupied F1_occupiedWords F1_further F1_bucketed F1_floor gn_fa1) hZH (wd 5 rfl) (wd 2 rfl) (by decide) (by decide)) (g := (mkF m 5 #[.val (.int p0), .val (.long p1), .second, .val (.long p2), .second, .val (.long p3), .second, .val (.long p4), .second, .unset, .unset, .unset] [(.int (4 : Int32)), (.ref fa1), (.ref fa1)])) rfl (by rw [hml]; rfl) (Steps.refl _) (a := fa1) (argsL := [(.int (4 : Int32))]) (rest := [(.ref fa1)]) (lenOf pd_4 rfl) rfl (by show 2 * 0 + _ ≤ _; exact Nat.le_of_eq rfl) (D at_5) (fun _ _ => ⟨rfl, e1, (by decide : 1 + 11 ≤ _), (by decide : 10 + 66605 ≤ _)⟩)
  dsimp only [Pt.U, Pt.locs, Pt.cells, Pt.slots] at X2 l2 y2 z2 st2 hQ2
  subst l2 y2 z2
  obtain ⟨aF_2, aO_2, aW_2, aK_2, aB_2, aA_2, aI_2, hp_2, lo_2, aE_2, aP_2, cK_2, kK_2, kB_2, kA_2, kI_2, kF_2, kO_2, kW_2, kE_2, kP_2, rfl, N2q, K2, gq_aF_2, gq_aO_2, gq_aW_2, gq_aK_2, gq_aB_2, gq_aA_2, gq_aI_2, gq_hp_2, gq_lo_2, gq_aE_2, gq_aP_2, Q2_0, Q2_1, Q2_2, Q2_3, Q2_4, Q2_5, Q2_6, Q2_7, Q2_8, Q2_9, Q2_10, Q2_11, Q2_12, Q2_13, Q2_14, Q2_15, Q2_16, Q2_17, Q2_18, Q2_19, Q2_20, Q2_21, Q2_22, Q2_23, Q2_24, Q2_25, Q2_26⟩ := hQ2
  have gn_aF_2 : n0 ≤ aF_2 := Nat.le_trans (own_oldsz O1) gq_aF_2
  have gh_aF_2 : h0.size ≤ aF_2 := Nat.le_trans K1.1 gq_aF_2
  have gn_aO_2 : n0 ≤ aO_2 := Nat.le_trans (own_oldsz O1) gq_aO_2
  have gh_aO_2 : h0.size ≤ aO_2 := Nat.le_trans K1.1 gq_aO_2
  have gn_aW_2 : n0 ≤ aW_2 := Nat.le_trans (own_oldsz O1) gq_aW_2
  have gh_aW_2 : h0.size ≤ aW_2 := Nat.le_trans K1.1 gq_aW_2
  have gn_aK_2 : n0 ≤ aK_2 := Nat.le_trans (own_oldsz O1) gq_aK_2
  have gh_aK_2 : h0.size ≤ aK_2 := Nat.le_trans K1.1 gq_aK_2
  have gn_aB_2 : n0 ≤ aB_2 := Nat.le_trans (own_oldsz O1) gq_aB_2
  have gh_aB_2 : h0.size ≤ aB_2 := Nat.le_trans K1.1 gq_aB_2
  have gn_aA_2 : n0 ≤ aA_2 := Nat.le_trans (own_oldsz O1) gq_aA_2
  have gh_aA_2 : h0.size ≤ aA_2 := Nat.le_trans K1.1 gq_aA_2
  have gn_aI_2 : n0 ≤ aI_2 := Nat.le_trans (own_oldsz O1) gq_aI_2
  have gh_aI_2 : h0.size ≤ aI_2 := Nat.le_trans K1.1 gq_aI_2
  have gn_hp_2 : n0 ≤ hp_2 := Nat.le_trans (own_oldsz O1) gq_hp_2
  have gh_hp_2 : h0.size ≤ hp_2 := Nat.le_trans K1.1 gq_hp_2
  have gn_lo_2 : n0 ≤ lo_2 := Nat.le_trans (own_oldsz O1) gq_lo_2
  have gh_lo_2 : h0.size ≤ lo_2 := Nat.le_trans K1.1 gq_lo_2
  have gn_aE_2 : n0 ≤ aE_2 := Nat.le_trans (own_oldsz O1) gq_aE_2
  have gh_aE_2 : h0.size ≤ aE_2 := Nat.le_trans K1.1 gq_aE_2
  have gn_aP_2 : n0 ≤ aP_2 := Nat.le_trans (own_oldsz O1) gq_aP_2
  have gh_aP_2 : h0.size ≤ aP_2 := Nat.le_trans K1.1 gq_aP_2
  have O2 := O1.keep K2 (allS gn_fa1 all0)
  have KK2 : Keep h0 T2.heap [] := K1.trans K2 (allS (Or.inr gh_fa1) all0)
  have N2 := Fr.app N0 N2q
  obtain ⟨T3, h3, fk3, X3, e3, E3, A3, st3⟩ := newP X2 hx hZ (wd 24 rfl) rfl (g := (mkF m 11 #[.val (.int p0), .val (.long p1), .second, .val (.long p2), .second, .val (.long p3), .second, .val (.long p4), .second, .val (.ref fa1), .unset, .unset] [(.int (4 : Int32))])) rfl (D at_11) rfl (by decide) (cap := 4) (by decide) (by decide) (by decide) (by decide)
  obtain ⟨fa3, g3⟩ : ∃ z, z = T2.heap.size := ⟨_, rfl⟩
  rw [← g3] at A3 st3
  have gn_fa3 : n0 ≤ fa3 := Nat.le_trans (own_oldsz O2) (Nat.le_of_eq g3.symm)
  have gh_fa3 : h0.size ≤ fa3 := Nat.le_trans KK2.1 (Nat.le_of_eq g3.symm)
  have Zn3 : n0 ≤ h3.size := Nat.le_trans (own_oldsz O2) E3.1
  have K3 : Keep h0 h3 [] := KK2.ext E3
  have O3 := O2.ext E3
  have V3 : Arv Z h3 fa3 fk3 .boolean (4 : Int32) [(.int (0 : Int32)), (.int (0 : Int32)), (.int (0 : Int32)), (.int (0 : Int32))] (.int (0 : Int32)) := (Arv.new A3 (by decide)).pad (pad_rep [] (.int (0 : Int32)) 4)
  have nx0 : fa3 ≠ fa1 := (Ne.symm (Nat.ne_of_lt (Nat.lt_of_lt_of_le A1.lt (Nat.le_trans K2.1 (Nat.le_of_eq g3.symm)))))
  have nx1 : fa3 ≠ aF_2 := (Ne.symm (Nat.ne_of_lt (Nat.lt_of_lt_of_le Q2_14.lt (Nat.le_of_eq g3.symm))))
  have nx2 : fa3 ≠ aO_2 := (Ne.symm (Nat.ne_of_lt (Nat.lt_of_lt_of_le Q2_15.lt (Nat.le_of_eq g3.symm))))
  have nx3 : fa3 ≠ aW_2 := (Ne.symm (Nat.ne_of_lt (Nat.lt_of_lt_of_le Q2_16.lt (Nat.le_of_eq g3.symm))))
  have nx4 : fa3 ≠ aK_2 := (Ne.symm (Nat.ne_of_lt (Nat.lt_of_lt_of_le Q2_10.lt (Nat.le_of_eq g3.symm))))
  have nx5 : fa3 ≠ aB_2 := (Ne.symm (Nat.ne_of_lt (Nat.lt_of_lt_of_le Q2_11.lt (Nat.le_of_eq g3.symm))))
  have nx6 : fa3 ≠ aA_2 := (Ne.symm (Nat.ne_of_lt (Nat.lt_of_lt_of_le Q2_12.lt (Nat.le_of_eq g3.symm))))
  have nx7 : fa3 ≠ aI_2 := (Ne.symm (Nat.ne_of_lt (Nat.lt_of_lt_of_le Q2_13.lt (Nat.le_of_eq g3.symm))))
  have nx8 : fa3 ≠ hp_2 := (Ne.symm (Nat.ne_of_lt (Nat.lt_of_lt_of_le Q2_17.lt (Nat.le_of_eq g3.symm))))
  have nx9 : fa3 ≠ lo_2 := (Ne.symm (Nat.ne_of_lt (Nat.lt_of_lt_of_le Q2_24.lt (Nat.le_of_eq g3.symm))))
  have nx10 : fa3 ≠ aE_2 := (Ne.symm (Nat.ne_of_lt (Nat.lt_of_lt_of_le Q2_22.lt (Nat.le_of_eq g3.symm))))
  have nx11 : fa3 ≠ aP_2 := (Ne.symm (Nat.ne_of_lt (Nat.lt_of_lt_of_le Q2_23.lt (Nat.le_of_eq g3.symm))))
  have cs5 : Steps p.tables e below (s₁.setTop (mkF m 0 #[.val (.int p0), .val (.long p1), .second, .val (.long p2), .second, .val (.long p3), .second, .val (.long p4), .second, .unset, .unset, .unset] [])) (T3.setTop (mkF m 18 #[.val (.int p0), .val (.long p1), .second, .val (.long p2), .second, .val (.long p3), .second, .val (.long p4), .second, .val (.ref fa1), .val (.ref fa3), .unset] [(.int (p0 &&& (1 : Int32)))])) := (by
    refine st1 _ ?_
    refine s_dup X1 hx (D at_3) rfl ?_
    refine s_iconst X1 hx (4 : Int32) (D at_4) rfl ?_
    refine st2.trans ?_
    refine s_astore X2 hx (D at_8) rfl (l' := #[.val (.int p0), .val (.long p1), .second, .val (.long p2), .second, .val (.long p3), .second, .val (.long p4), .second, .val (.ref fa1), .unset, .unset]) rfl ?_
    refine s_iconst X2 hx (4 : Int32) (D at_10) rfl ?_
    refine st3 _ ?_
    refine s_astore X3 hx (D at_13) rfl (l' := #[.val (.int p0), .val (.long p1), .second, .val (.long p2), .second, .val (.long p3), .second, .val (.long p4), .second, .val (.ref fa1), .val (.ref fa3), .unset]) rfl ?_
    refine s_iloadN X3 hx (D at_15) rfl ?_
    refine s_iconst X3 hx (1 : Int32) (D at_16) rfl ?_
    refine s_iand X3 hx (D at_17) rfl ?_
    exact Steps.refl _)
  have jn4 : ∃ (jb_4 : Int32) (jz_4 : Int32) (je0_4 : Int32) (je1_4 : Int32) (je2_4 : Int32) (je3_4 : Int32) (jp0_4 : Int32) (jp1_4 : Int32) (jp2_4 : Int32) (jp3_4 : Int32) (ji0_4 : Int32) (ji1_4 : Int32) (ji2_4 : Int32) (ji3_4 : Int32) (jm0_4 : Int32) (jm1_4 : Int32) (jm2_4 : Int32) (jm3_4 : Int32) (T : State) (L : List Loc) (h : Heap), Stand p l e room_1 s m #[(.int p0), (.long p1), (.long p2), (.long p3), (.long p4)] below meth c T L 13 66619 ∧ T.heap = h ∧ Fr n0 L ∧ Keep h0 h [] ∧ Old Z n0 h ∧ Exa Z h fa1 "com/example/leasewise/leasewise/KilometreQueue" ∧ Fld Z h fa1 "com/example/leasewise/leasewise/KilometreQueue" "keys" "[J" (.ref aK_2) ∧ Fld Z h fa1 "com/example/leasewise/leasewise/KilometreQueue" "before" "[I" (.ref aB_2) ∧ Fld Z h fa1 "com/example/leasewise/leasewise/KilometreQueue" "after" "[I" (.ref aA_2) ∧ Fld Z h fa1 "com/example/leasewise/leasewise/KilometreQueue" "inBucket" "[Z" (.ref aI_2) ∧ Fld Z h fa1 "com/example/leasewise/leasewise/KilometreQueue" "firsts" "[I" (.ref aF_2) ∧ Fld Z h fa1 "com/example/leasewise/leasewise/KilometreQueue" "occupied" "[J" (.ref aO_2) ∧ Fld Z h fa1 "com/example/leasewise/leasewise/KilometreQueue" "occupiedWords" "[J" (.ref aW_2) ∧ Fld Z h fa1 "com/example/leasewise/leasewise/KilometreQueue" "further" "Lcom/example/leasewise/leasewise/IndexedHeap;" (.ref hp_2) ∧ Fld Z h fa1 "com/example/leasewise/leasewise/KilometreQueue" "bucketed" "I" (.int jb_4) ∧ Fld Z h fa1 "com/example/leasewise/leasewise/KilometreQueue" "floor" "J" (.long (0 : Int64)) ∧ Arp Z h aK_2 kK_2 .long (4 : Int32) PJ ∧ Arp Z h aB_2 kB_2 .int (4 : Int32) PI ∧ Arp Z h aA_2 kA_2 .int (4 : Int32) PI ∧ Arv Z h aI_2 kI_2 .boolean (4 : Int32) [(.int ji0_4), (.int ji1_4), (.int ji2_4), (.int ji3_4)] (.int (0 : Int32)) ∧ Arp Z h aF_2 kF_2 .int (65536 : Int32) PI ∧ Arp Z h aO_2 kO_2 .long (1024 : Int32) PJ ∧ Arp Z h aW_2 kW_2 .long (16 : Int32) PJ ∧ Exa Z h hp_2 "com/example/leasewise/leasewise/IndexedHeap" ∧ Fld Z h hp_2 "com/example/leasewise/leasewise/IndexedHeap" "order" "Lcom/example/leasewise/leasewise/IndexedHeap$Order;" (.ref lo_2) ∧ Fld Z h hp_2 "com/example/leasewise/leasewise/IndexedHeap" "entries" "[I" (.ref aE_2) ∧ Fld Z h hp_2 "com/example/leasewise/leasewise/IndexedHeap" "positions" "[I" (.ref aP_2) ∧ Fld Z h hp_2 "com/example/leasewise/leasewise/IndexedHeap" "size" "I" (.int jz_4) ∧ Arv Z h aE_2 kE_2 .int (4 : Int32) [(.int je0_4), (.int je1_4), (.int je2_4), (.int je3_4)] (.int (0 : Int32)) ∧ Arv Z h aP_2 kP_2 .int (4 : Int32) [(.int jp0_4), (.int jp1_4), (.int jp2_4), (.int jp3_4)] (.int (-1 : Int32)) ∧ LamO h lo_2 cK_2 fa1 ∧ Arv Z h fa3 fk3 .boolean (4 : Int32) [(.int jm0_4), (.int jm1_4), (.int jm2_4), (.int jm3_4)] (.int (0 : Int32)) ∧ KI jz_4 je0_4 je1_4 je2_4 je3_4 jp0_4 jp1_4 jp2_4 jp3_4 ji0_4 ji1_4 ji2_4 ji3_4 jm0_4 jm1_4 jm2_4 jm3_4 ∧ Steps p.tables e below (s₁.setTop (mkF m 0 #[.val (.int p0), .val (.long p1), .second, .val (.long p2), .second, .val (.long p3), .second, .val (.long p4), .second, .unset, .unset, .unset] [])) (T.setTop (mkF m 37 #[.val (.int p0), .val (.long p1), .second, .val (.long p2), .second, .val (.long p3), .second, .val (.long p4), .second, .val (.ref fa1), .val (.ref fa3), .unset] [])) := by
    by_cases hc6 : (p0 &&& (1 : Int32)) = (0 : Int32)
    · have cs7 : Steps p.tables e below (s₁.setTop (mkF m 0 #[.val (.int p0), .val (.long p1), .second, .val (.long p2), .second, .val (.long p3), .second, .val (.long p4), .second, .unset, .unset, .unset] [])) (T3.setTop (mkF m 37 #[.val (.int p0), .val (.long p1), .second, .val (.long p2), .second, .val (.long p3), .second, .val (.long p4), .second, .val (.ref fa1), .val (.ref fa3), .unset] [])) := cs5.trans (by
        refine s_ifYes X3 hx 37 (D at_18) ((if0 _ _).trans (teq hc6).1) (of_decide_eq_true rfl) rfl ?_
        exact Steps.refl _)
      have f8 := ((A1.keep K2).ext E3)
      have f9 := (Q2_0.ext E3)
      have f10 := (Q2_1.ext E3)
      have f11 := (Q2_2.ext E3)
      have f12 := (Q2_3.ext E3)
      have f13 := (Q2_4.ext E3)
      have f14 := (Q2_5.ext E3)
      have f15 := (Q2_6.ext E3)
      have f16 := (Q2_7.ext E3)
      have f17 := (Q2_8.ext E3)
      have f18 := (Q2_9.ext E3)
      have f19 := (Q2_10.ext E3)
      have f20 := (Q2_11.ext E3)
      have f21 := (Q2_12.ext E3)
      have f22 := (Q2_13.ext E3)
      have f23 := (Q2_14.ext E3)
      have f24 := (Q2_15.ext E3)
      have f25 := (Q2_16.ext E3)
      have f26 := (Q2_17.ext E3)
      have f27 := (Q2_18.ext E3)
      have f28 := (Q2_19.ext E3)
      have f29 := (Q2_20.ext E3)
      have f30 := (Q2_21.ext E3)
      have f31 := (Q2_22.ext E3)
      have f32 := (Q2_23.ext E3)
      have f33 := (Q2_24.ext E3)
      exact ⟨(0 : Int32), (0 : Int32), (0 : Int32), (0 : Int32), (0 : Int32), (0 : Int32), (-1 : Int32), (-1 : Int32), (-1 : Int32), (-1 : Int32), (0 : Int32), (0 : Int32), (0 : Int32), (0 : Int32), (0 : Int32), (0 : Int32), (0 : Int32), (0 : Int32), T3, _, _, X3, e3, N2, K3, O3, f8, f9, f10, f11, f12, f13, f14, f15, f16, f17, f18, f19, f20, f21, f22, f23, f24, f25, f26, f27, f28, f29, f30, f31, f32, f33, V3, own_ki0, cs7⟩
    · have f34 := (Q2_10.ext E3)
      have f35 := (Q2_11.ext E3)
      have f36 := (Q2_12.ext E3)
      have f37 := (Q2_14.ext E3)
      have f38 := (Q2_15.ext E3)
      have f39 := (Q2_16.ext E3)
      have f40 := (Q2_24.ext E3)
      have f41 := ((A1.keep K2).ext E3)
      have f42 := (Q2_0.ext E3)
      have f43 := (Q2_1.ext E3)
      have f44 := (Q2_2.ext E3)
      have f45 := (Q2_3.ext E3)
      have f46 := (Q2_4.ext E3)
      have f47 := (Q2_5.ext E3)
      have f48 := (Q2_6.ext E3)
      have f49 := (Q2_7.ext E3)
      have f50 := (Q2_8.ext E3)
      have f51 := (Q2_9.ext E3)
      have f52 := (Q2_13.ext E3)
      have f53 := (Q2_17.ext E3)
      have f54 := (Q2_18.ext E3)
      have f55 := (Q2_19.ext E3)
      have f56 := (Q2_20.ext E3)
      have f57 := (Q2_21.ext E3)
      have f58 := (Q2_22.ext E3)
      have f59 := (Q2_23.ext E3)
      obtain ⟨cq60, kq60, q60a, q60b, q60c⟩ := isOf hZ e3 f41
      obtain ⟨_, _, ⟨T60, L60, k60, n60⟩, -, X60, ⟨Lc60, hQ60, l60, y60, z60⟩, st60⟩ := X3.virtualBack hx (y := (⟨"com/example/leasewise/leasewise/KilometreQueue", "put", "(IJ)V"⟩ : MethodName)) (z := (⟨"com/example/leasewise/leasewise/KilometreQueue", "put", "(IJ)V"⟩ : MethodName)) hown (mvT hZ (wd 62 rfl)) (mvT hZ (wd 63 rfl)) (notFace_of_selects (args := #[]) (mvT hZ (wd 65 rfl))) (mvT hZ (wd 65 rfl)) (mvT hZ (wd 64 rfl)) (by decide) (own_backH (W := 0) (rm_kput l Z a0 hw [] fa1 (0 : Int32) (p1 &&& (9223372036854775807 : Int64)) aF_2 aO_2 aW_2 aK_2 aB_2 aA_2 aI_2 hp_2 lo_2 aE_2 aP_2 cK_2 kK_2 kB_2 kA_2 kI_2 kF_2 kO_2 kW_2 kE_2 kP_2 (0 : Int32) (0 : Int32) (0 : Int32) (0 : Int32) (0 : Int32) (0 : Int32) (0 : Int32) (0 : Int32) (0 : Int32) (0 : Int32) (-1 : Int32) (-1 : Int32) (-1 : Int32) (-1 : Int32) (0 : Int32) (0 : Int32) (0 : Int32) (0 : Int32) h3 n0 O3 f41 f42 f43 f44 f45 f46 f47 f48 f49 f50 f51 f52 f53 f54 f55 f56 f57 f58 f59 Q2_26 Q2_25 gn_fa1 gn_aB_2 gn_aA_2 gn_aI_2 gn_aF_2 gn_aO_2 gn_aW_2 gn_hp_2 gn_aE_2 gn_aP_2 gn_aK_2 own_ki0 own_i0 (own_max _) f34 f35 f36 f37 f38 f39 f40) hZH (wd 66 rfl) (wd 2 rfl) (by decide) (by decide)) q60a q60c (g := (mkF m 29 #[.val (.int p0), .val (.long p1), .second, .val (.long p2), .second, .val (.long p3), .second, .val (.long p4), .second, .val (.ref fa1), .val (.ref fa3), .unset] [(.long (p1 &&& (9223372036854775807 : Int64))), (.int (0 : Int32)), (.ref fa1)])) rfl (by rw [hml]; rfl) (Steps.refl _) (argsL := [(.int (0 : Int32)), (.long (p1 &&& (9223372036854775807 : Int64)))]) (rest := []) (lenOf pd_7 rfl) rfl (by show 2 * 0 + _ ≤ _; exact Nat.le_of_eq rfl) (D at_29) (fun _ _ => ⟨rfl, e3, (by decide : 13 + 0 ≤ _), (by decide : 66619 + 0 ≤ _)⟩)
      dsimp only [Pt.U, Pt.locs, Pt.cells, Pt.slots] at X60 l60 y60 z60 st60 hQ60
      subst l60 y60 z60
      obtain ⟨ve0_60, ve1_60, ve2_60, ve3_60, vp0_60, vp1_60, vp2_60, vp3_60, vz__60, vb__60, vi0_60, vi1_60, vi2_60, vi3_60, rfl, N60q, K60, Q60_0, Q60_1, Q60_2, Q60_3, Q60_4, Q60_5, Q60_6, Q60_7, Q60_8, Q60_9, Q60_10, Q60_11, Q60_12, Q60_13, Q60_14, Q60_15, Q60_16, Q60_17, Q60_18, Q60_19, Q60_20, Q60_21, Q60_22, Q60_23⟩ := hQ60
      have O60 := O3.keep K60 (allS gn_fa1 (allS gn_aB_2 (allS gn_aA_2 (allS gn_aI_2 (allS gn_aF_2 (allS gn_aO_2 (allS gn_aW_2 (allS gn_hp_2 (allS gn_aE_2 (allS gn_aP_2 (allS gn_aK_2 all0)))))))))))
      have KK60 : Keep h0 T60.heap [] := K3.trans K60 (allS (Or.inr gh_fa1) (allS (Or.inr gh_aB_2) (allS (Or.inr gh_aA_2) (allS (Or.inr gh_aI_2) (allS (Or.inr gh_aF_2) (allS (Or.inr gh_aO_2) (allS (Or.inr gh_aW_2) (allS (Or.inr gh_hp_2) (allS (Or.inr gh_aE_2) (allS (Or.inr gh_aP_2) (allS (Or.inr gh_aK_2) all0)))))))))))
      have N60 := Fr.app N2 N60q
      have KIs61 := own_ml0 Q60_23
      have f63 := (V3.keep K60 (ninS nx0 (ninS nx5 (ninS nx6 (ninS nx7 (ninS nx1 (ninS nx2 (ninS nx3 (ninS nx8 (ninS nx10 (ninS nx11 (ninS nx4 nin0))))))))))))
      obtain ⟨cl62, Ar62, q62, S62, Nn62, H62, G62⟩ := id f63
      have hin62 : ¬ ((0 : Int32) < 0 ∨ cl62.slots.size ≤ ((0 : Int32)).toNatClampNeg) := inb_of S62 ⟨by decide, by decide⟩
      obtain ⟨T62, h62, X62, e62, W62, st62⟩ := stZ X60 hx hZ rfl Ar62 (j := (0 : Int32)) hin62 (g := (mkF m 36 #[.val (.int p0), .val (.long p1), .second, .val (.long p2), .second, .val (.long p3), .second, .val (.long p4), .second, .val (.ref fa1), .val (.ref fa3), .unset] [(.int (1 : Int32)), (.int (0 : Int32)), (.ref fa3)])) rfl rfl (D at_36)
      have V62 : Arv Z h62 fa3 fk3 .boolean (4 : Int32) [(.int (1 : Int32)), (.int (0 : Int32)), (.int (0 : Int32)), (.int (0 : Int32))] (.int (0 : Int32)) := Arv.set Ar62 q62 S62 Nn62 H62 G62 (fits_nar_bool _) W62 0 rfl (Nat.le_of_ble_eq_true rfl)
      have N62 := Fr.snoc X62 N60 gn_fa3
      have Zn62 : n0 ≤ h62.size := Nat.le_trans (own_oldsz O60) (Keep.of_wr W62).1
      have K62 : Keep h0 h62 [] := KK60.wr W62 (Or.inr gh_fa3)
      have O62 := O60.wr W62 gn_fa3
      have cs64 : Steps p.tables e below (s₁.setTop (mkF m 0 #[.val (.int p0), .val (.long p1), .second, .val (.long p2), .second, .val (.long p3), .second, .val (.long p4), .second, .unset, .unset, .unset] [])) (T62.setTop (mkF m 37 #[.val (.int p0), .val (.long p1), .second, .val (.long p2), .second, .val (.long p3), .second, .val (.long p4), .second, .val (.ref fa1), .val (.ref fa3), .unset] [])) := cs5.trans (by
        refine s_ifNo X3 hx (D at_18) ((if0 _ _).trans (feq hc6).1) ?_
        refine s_aload X3 hx (D at_21) rfl rfl ?_
        refine s_iconst X3 hx (0 : Int32) (D at_23) rfl ?_
        refine s_lloadN X3 hx (D at_24) rfl ?_
        refine X3.ldc2Long hx hown (mvT hZ (wd 61 rfl)) (g := (mkF m 25 #[.val (.int p0), .val (.long p1), .second, .val (.long p2), .second, .val (.long p3), .second, .val (.long p4), .second, .val (.ref fa1), .val (.ref fa3), .unset] [(.long p1), (.int (0 : Int32)), (.ref fa1)])) rfl (D at_25) _ ?_
        refine s_land X3 hx (D at_28) rfl ?_
        refine st60.trans ?_
        refine s_aload X60 hx (D at_32) rfl rfl ?_
        refine s_iconst X60 hx (0 : Int32) (D at_34) rfl ?_
        refine s_iconst X60 hx (1 : Int32) (D at_35) rfl ?_
        refine st62 _ ?_
        exact Steps.refl _)
      have f65 := ((f41.keep K60).wr W62)
      have f66 := (Q60_0.other W62 (Or.inl (Ne.symm nx0)))
      have f67 := (Q60_1.other W62 (Or.inl (Ne.symm nx0)))
      have f68 := (Q60_2.other W62 (Or.inl (Ne.symm nx0)))
      have f69 := (Q60_3.other W62 (Or.inl (Ne.symm nx0)))
      have f70 := (Q60_4.other W62 (Or.inl (Ne.symm nx0)))
      have f71 := (Q60_5.other W62 (Or.inl (Ne.symm nx0)))
      have f72 := (Q60_6.other W62 (Or.inl (Ne.symm nx0)))
      have f73 := (Q60_7.other W62 (Or.inl (Ne.symm nx0)))
      have f74 := (Q60_8.other W62 (Or.inl (Ne.symm nx0)))
      have f75 := (Q60_9.other W62 (Or.inl (Ne.symm nx0)))
      have f76 := (Q60_10.other W62 (Ne.symm nx4))
      have f77 := (Q60_11.other W62 (Ne.symm nx5))
      have f78 := (Q60_12.other W62 (Ne.symm nx6))
      have f79 := (Q60_13.other W62 (Ne.symm nx7))
      have f80 := (Q60_14.other W62 (Ne.symm nx1))
      have f81 := (Q60_15.other W62 (Ne.symm nx2))
      have f82 := (Q60_16.other W62 (Ne.symm nx3))
      have f83 := ((f53.keep K60).wr W62)
      have f84 := (Q60_17.other W62 (Or.inl (Ne.symm nx8)))
      have f85 := (Q60_18.other W62 (Or.inl (Ne.symm nx8)))
      have f86 := (Q60_19.other W62 (Or.inl (Ne.symm nx8)))
      have f87 := (Q60_20.other W62 (Or.inl (Ne.symm nx8)))
      have f88 := (Q60_21.other W62 (Ne.symm nx10))
      have f89 := (Q60_22.other W62 (Ne.symm nx11))
      have f90 := ((f40.keep K60 (nn91 Q2_25)).other W62 (Ne.symm nx9))
      exact ⟨vb__60, vz__60, ve0_60, ve1_60, ve2_60, ve3_60, vp0_60, vp1_60, vp2_60, vp3_60, vi0_60, vi1_60, vi2_60, vi3_60, (1 : Int32), (0 : Int32), (0 : Int32), (0 : Int32), T62, _, _, X62, e62, N62, K62, O62, f65, f66, f67, f68, f69, f70, f71, f72, f73, f74, f75, f76, f77, f78, f79, f80, f81, f82, f83, f84, f85, f86, f87, f88, f89, f90, V62, KIs61, cs64⟩
  obtain ⟨jb_4, jz_4, je0_4, je1_4, je2_4, je3_4, jp0_4, jp1_4, jp2_4, jp3_4, ji0_4, ji1_4, ji2_4, ji3_4, jm0_4, jm1_4, jm2_4, jm3_4, Tj4, Lj4, hj4, Xj4, ej4, Nj4, Kj4, Oj4, J4_0, J4_1, J4_2, J4_3, J4_4, J4_5, J4_6, J4_7, J4_8, J4_9, J4_10, J4_11, J4_12, J4_13, J4_14, J4_15, J4_16, J4_17, J4_18, J4_19, J4_20, J4_21, J4_22, J4_23, J4_24, J4_25, J4_26, Jp4_0, cj4⟩ := jn4
  have cs92 : Steps p.tables e below (s₁.setTop (mkF m 0 #[.val (.int p0), .val (.long p1), .second, .val (.long p2), .second, .val (.long p3), .second, .val (.long p4), .second, .unset, .unset, .unset] [])) (Tj4.setTop (mkF m 40 #[.val (.int p0), .val (.long p1), .second, .val (.long p2), .second, .val (.long p3), .second, .val (.long p4), .second, .val (.ref fa1), .val (.ref fa3), .unset] [(.int (p0 &&& (2 : Int32)))])) := cj4.trans (by
    refine s_iloadN Xj4 hx (D at_37) rfl ?_
    refine s_iconst Xj4 hx (2 : Int32) (D at_38) rfl ?_
    refine s_iand Xj4 hx (D at_39) rfl ?_
    exact Steps.refl _)
  have jn91 : ∃ (jb_91 : Int32) (jz_91 : Int32) (je0_91 : Int32) (je1_91 : Int32) (je2_91 : Int32) (je3_91 : Int32) (jp0_91 : Int32) (jp1_91 : Int32) (jp2_91 : Int32) (jp3_91 : Int32) (ji0_91 : Int32) (ji1_91 : Int32) (ji2_91 : Int32) (ji3_91 : Int32) (jm0_91 : Int32) (jm1_91 : Int32) (jm2_91 : Int32) (jm3_91 : Int32) (T : State) (L : List Loc) (h : Heap), Stand p l e room_1 s m #[(.int p0), (.long p1), (.long p2), (.long p3), (.long p4)] below meth c T L 13 66619 ∧ T.heap = h ∧ Fr n0 L ∧ Keep h0 h [] ∧ Old Z n0 h ∧ Exa Z h fa1 "com/example/leasewise/leasewise/KilometreQueue" ∧ Fld Z h fa1 "com/example/leasewise/leasewise/KilometreQueue" "keys" "[J" (.ref aK_2) ∧ Fld Z h fa1 "com/example/leasewise/leasewise/KilometreQueue" "before" "[I" (.ref aB_2) ∧ Fld Z h fa1 "com/example/leasewise/leasewise/KilometreQueue" "after" "[I" (.ref aA_2) ∧ Fld Z h fa1 "com/example/leasewise/leasewise/KilometreQueue" "inBucket" "[Z" (.ref aI_2) ∧ Fld Z h fa1 "com/example/leasewise/leasewise/KilometreQueue" "firsts" "[I" (.ref aF_2) ∧ Fld Z h fa1 "com/example/leasewise/leasewise/KilometreQueue" "occupied" "[J" (.ref aO_2) ∧ Fld Z h fa1 "com/example/leasewise/leasewise/KilometreQueue" "occupiedWords" "[J" (.ref aW_2) ∧ Fld Z h fa1 "com/example/leasewise/leasewise/KilometreQueue" "further" "Lcom/example/leasewise/leasewise/IndexedHeap;" (.ref hp_2) ∧ Fld Z h fa1 "com/example/leasewise/leasewise/KilometreQueue" "bucketed" "I" (.int jb_91) ∧ Fld Z h fa1 "com/example/leasewise/leasewise/KilometreQueue" "floor" "J" (.long (0 : Int64)) ∧ Arp Z h aK_2 kK_2 .long (4 : Int32) PJ ∧ Arp Z h aB_2 kB_2 .int (4 : Int32) PI ∧ Arp Z h aA_2 kA_2 .int (4 : Int32) PI ∧ Arv Z h aI_2 kI_2 .boolean (4 : Int32) [(.int ji0_91), (.int ji1_91), (.int ji2_91), (.int ji3_91)] (.int (0 : Int32)) ∧ Arp Z h aF_2 kF_2 .int (65536 : Int32) PI ∧ Arp Z h aO_2 kO_2 .long (1024 : Int32) PJ ∧ Arp Z h aW_2 kW_2 .long (16 : Int32) PJ ∧ Exa Z h hp_2 "com/example/leasewise/leasewise/IndexedHeap" ∧ Fld Z h hp_2 "com/example/leasewise/leasewise/IndexedHeap" "order" "Lcom/example/leasewise/leasewise/IndexedHeap$Order;" (.ref lo_2) ∧ Fld Z h hp_2 "com/example/leasewise/leasewise/IndexedHeap" "entries" "[I" (.ref aE_2) ∧ Fld Z h hp_2 "com/example/leasewise/leasewise/IndexedHeap" "positions" "[I" (.ref aP_2) ∧ Fld Z h hp_2 "com/example/leasewise/leasewise/IndexedHeap" "size" "I" (.int jz_91) ∧ Arv Z h aE_2 kE_2 .int (4 : Int32) [(.int je0_91), (.int je1_91), (.int je2_91), (.int je3_91)] (.int (0 : Int32)) ∧ Arv Z h aP_2 kP_2 .int (4 : Int32) [(.int jp0_91), (.int jp1_91), (.int jp2_91), (.int jp3_91)] (.int (-1 : Int32)) ∧ LamO h lo_2 cK_2 fa1 ∧ Arv Z h fa3 fk3 .boolean (4 : Int32) [(.int jm0_91), (.int jm1_91), (.int jm2_91), (.int jm3_91)] (.int (0 : Int32)) ∧ KI jz_91 je0_91 je1_91 je2_91 je3_91 jp0_91 jp1_91 jp2_91 jp3_91 ji0_91 ji1_91 ji2_91 ji3_91 jm0_91 jm1_91 jm2_91 jm3_91 ∧ Steps p.tables e below (s₁.setTop (mkF m 0 #[.val (.int p0), .val (.long p1), .second, .val (.long p2), .second, .val (.long p3), .second, .val (.long p4), .second, .unset, .unset, .unset] [])) (T.setTop (mkF m 59 #[.val (.int p0), .val (.long p1), .second, .val (.long p2), .second, .val (.long p3), .second, .val (.long p4), .second, .val (.ref fa1), .val (.ref fa3), .unset] [])) := by
    by_cases hc93 : (p0 &&& (2 : Int32)) = (0 : Int32)
    · have cs94 : Steps p.tables e below (s₁.setTop (mkF m 0 #[.val (.int p0), .val (.long p1), .second, .val (.long p2), .second, .val (.long p3), .second, .val (.long p4), .second, .unset, .unset, .unset] [])) (Tj4.setTop (mkF m 59 #[.val (.int p0), .val (.long p1), .second, .val (.long p2), .second, .val (.long p3), .second, .val (.long p4), .second, .val (.ref fa1), .val (.ref fa3), .unset] [])) := cs92.trans (by
        refine s_ifYes Xj4 hx 59 (D at_40) ((if0 _ _).trans (teq hc93).1) (of_decide_eq_true rfl) rfl ?_
        exact Steps.refl _)
      exact ⟨jb_4, jz_4, je0_4, je1_4, je2_4, je3_4, jp0_4, jp1_4, jp2_4, jp3_4, ji0_4, ji1_4, ji2_4, ji3_4, jm0_4, jm1_4, jm2_4, jm3_4, Tj4, _, _, Xj4, ej4, Nj4, Kj4, Oj4, J4_0, J4_1, J4_2, J4_3, J4_4, J4_5, J4_6, J4_7, J4_8, J4_9, J4_10, J4_11, J4_12, J4_13, J4_14, J4_15, J4_16, J4_17, J4_18, J4_19, J4_20, J4_21, J4_22, J4_23, J4_24, J4_25, J4_26, Jp4_0, cs94⟩
    · obtain ⟨cq95, kq95, q95a, q95b, q95c⟩ := isOf hZ ej4 J4_0
      obtain ⟨_, _, ⟨T95, L95, k95, n95⟩, -, X95, ⟨Lc95, hQ95, l95, y95, z95⟩, st95⟩ := Xj4.virtualBack hx (y := (⟨"com/example/leasewise/leasewise/KilometreQueue", "put", "(IJ)V"⟩ : MethodName)) (z := (⟨"com/example/leasewise/leasewise/KilometreQueue", "put", "(IJ)V"⟩ : MethodName)) hown (mvT hZ (wd 62 rfl)) (mvT hZ (wd 63 rfl)) (notFace_of_selects (args := #[]) (mvT hZ (wd 65 rfl))) (mvT hZ (wd 65 rfl)) (mvT hZ (wd 64 rfl)) (by decide) (own_backH (W := 0) (rm_kput l Z a0 hw [] fa1 (1 : Int32) (p2 &&& (9223372036854775807 : Int64)) aF_2 aO_2 aW_2 aK_2 aB_2 aA_2 aI_2 hp_2 lo_2 aE_2 aP_2 cK_2 kK_2 kB_2 kA_2 kI_2 kF_2 kO_2 kW_2 kE_2 kP_2 jb_4 ji0_4 ji1_4 ji2_4 ji3_4 jz_4 je0_4 je1_4 je2_4 je3_4 jp0_4 jp1_4 jp2_4 jp3_4 jm0_4 jm1_4 jm2_4 jm3_4 hj4 n0 Oj4 J4_0 J4_1 J4_2 J4_3 J4_4 J4_5 J4_6 J4_7 J4_8 J4_9 J4_10 J4_14 J4_18 J4_19 J4_20 J4_21 J4_22 J4_23 J4_24 Q2_26 Q2_25 gn_fa1 gn_aB_2 gn_aA_2 gn_aI_2 gn_aF_2 gn_aO_2 gn_aW_2 gn_hp_2 gn_aE_2 gn_aP_2 gn_aK_2 Jp4_0 own_i1 (own_max _) J4_11 J4_12 J4_13 J4_15 J4_16 J4_17 J4_25) hZH (wd 66 rfl) (wd 2 rfl) (by decide) (by decide)) q95a q95c (g := (mkF m 51 #[.val (.int p0), .val (.long p1), .second, .val (.long p2), .second, .val (.long p3), .second, .val (.long p4), .second, .val (.ref fa1), .val (.ref fa3), .unset] [(.long (p2 &&& (9223372036854775807 : Int64))), (.int (1 : Int32)), (.ref fa1)])) rfl (by rw [hml]; rfl) (Steps.refl _) (argsL := [(.int (1 : Int32)), (.long (p2 &&& (9223372036854775807 : Int64)))]) (rest := []) (lenOf pd_7 rfl) rfl (by show 2 * 0 + _ ≤ _; exact Nat.le_of_eq rfl) (D at_51) (fun _ _ => ⟨rfl, ej4, (by decide : 13 + 0 ≤ _), (by decide : 66619 + 0 ≤ _)⟩)
      dsimp only [Pt.U, Pt.locs, Pt.cells, Pt.slots] at X95 l95 y95 z95 st95 hQ95
      subst l95 y95 z95
      obtain ⟨ve0_95, ve1_95, ve2_95, ve3_95, vp0_95, vp1_95, vp2_95, vp3_95, vz__95, vb__95, vi0_95, vi1_95, vi2_95, vi3_95, rfl, N95q, K95, Q95_0, Q95_1, Q95_2, Q95_3, Q95_4, Q95_5, Q95_6, Q95_7, Q95_8, Q95_9, Q95_10, Q95_11, Q95_12, Q95_13, Q95_14, Q95_15, Q95_16, Q95_17, Q95_18, Q95_19, Q95_20, Q95_21, Q95_22, Q95_23⟩ := hQ95
      have O95 := Oj4.keep K95 (allS gn_fa1 (allS gn_aB_2 (allS gn_aA_2 (allS gn_aI_2 (allS gn_aF_2 (allS gn_aO_2 (allS gn_aW_2 (allS gn_hp_2 (allS gn_aE_2 (allS gn_aP_2 (allS gn_aK_2 all0)))))))))))
      have KK95 : Keep h0 T95.heap [] := Kj4.trans K95 (allS (Or.inr gh_fa1) (allS (Or.inr gh_aB_2) (allS (Or.inr gh_aA_2) (allS (Or.inr gh_aI_2) (allS (Or.inr gh_aF_2) (allS (Or.inr gh_aO_2) (allS (Or.inr gh_aW_2) (allS (Or.inr gh_hp_2) (allS (Or.inr gh_aE_2) (allS (Or.inr gh_aP_2) (allS (Or.inr gh_aK_2) all0)))))))))))
      have N95 := Fr.app Nj4 N95q
      have KIs96 := own_ml1 Q95_23
      have f98 := (J4_26.keep K95 (ninS nx0 (ninS nx5 (ninS nx6 (ninS nx7 (ninS nx1 (ninS nx2 (ninS nx3 (ninS nx8 (ninS nx10 (ninS nx11 (ninS nx4 nin0))))))))))))
      obtain ⟨cl97, Ar97, q97, S97, Nn97, H97, G97⟩ := id f98
      have hin97 : ¬ ((1 : Int32) < 0 ∨ cl97.slots.size ≤ ((1 : Int32)).toNatClampNeg) := inb_of S97 ⟨by decide, by decide⟩
      obtain ⟨T97, h97, X97, e97, W97, st97⟩ := stZ X95 hx hZ rfl Ar97 (j := (1 : Int32)) hin97 (g := (mkF m 58 #[.val (.int p0), .val (.long p1), .second, .val (.long p2), .second, .val (.long p3), .second, .val (.long p4), .second, .val (.ref fa1), .val (.ref fa3), .unset] [(.int (1 : Int32)), (.int (1 : Int32)), (.ref fa3)])) rfl rfl (D at_58)
      have V97 : Arv Z h97 fa3 fk3 .boolean (4 : Int32) [(.int jm0_4), (.int (1 : Int32)), (.int jm2_4), (.int jm3_4)] (.int (0 : Int32)) := Arv.set Ar97 q97 S97 Nn97 H97 G97 (fits_nar_bool _) W97 1 rfl (Nat.le_of_ble_eq_true rfl)
      have N97 := Fr.snoc X97 N95 gn_fa3
      have Zn97 : n0 ≤ h97.size := Nat.le_trans (own_oldsz O95) (Keep.of_wr W97).1
      have K97 : Keep h0 h97 [] := KK95.wr W97 (Or.inr gh_fa3)
      have O97 := O95.wr W97 gn_fa3
      have cs99 : Steps p.tables e below (s₁.setTop (mkF m 0 #[.val (.int p0), .val (.long p1), .second, .val (.long p2), .second, .val (.long p3), .second, .val (.long p4), .second, .unset, .unset, .unset] [])) (T97.setTop (mkF m 59 #[.val (.int p0), .val (.long p1), .second, .val (.long p2), .second, .val (.long p3), .second, .val (.long p4), .second, .val (.ref fa1), .val (.ref fa3), .unset] [])) := cs92.trans (by
        refine s_ifNo Xj4 hx (D at_40) ((if0 _ _).trans (feq hc93).1) ?_
        refine s_aload Xj4 hx (D at_43) rfl rfl ?_
        refine s_iconst Xj4 hx (1 : Int32) (D at_45) rfl ?_
        refine s_lloadN Xj4 hx (D at_46) rfl ?_
        refine Xj4.ldc2Long hx hown (mvT hZ (wd 61 rfl)) (g := (mkF m 47 #[.val (.int p0), .val (.long p1), .second, .val (.long p2), .second, .val (.long p3), .second, .val (.long p4), .second, .val (.ref fa1), .val (.ref fa3), .unset] [(.long p2), (.int (1 : Int32)), (.ref fa1)])) rfl (D at_47) _ ?_
        refine s_land Xj4 hx (D at_50) rfl ?_
        refine st95.trans ?_
        refine s_aload X95 hx (D at_54) rfl rfl ?_
        refine s_iconst X95 hx (1 : Int32) (D at_56) rfl ?_
        refine s_iconst X95 hx (1 : Int32) (D at_57) rfl ?_
        refine st97 _ ?_
        exact Steps.refl _)
      have f100 := ((J4_0.keep K95).wr W97)
      have f101 := (Q95_0.other W97 (Or.inl (Ne.symm nx0)))
      have f102 := (Q95_1.other W97 (Or.inl (Ne.symm nx0)))
      have f103 := (Q95_2.other W97 (Or.inl (Ne.symm nx0)))
      have f104 := (Q95_3.other W97 (Or.inl (Ne.symm nx0)))
      have f105 := (Q95_4.other W97 (Or.inl (Ne.symm nx0)))
      have f106 := (Q95_5.other W97 (Or.inl (Ne.symm nx0)))
      have f107 := (Q95_6.other W97 (Or.inl (Ne.symm nx0)))
      have f108 := (Q95_7.other W97 (Or.inl (Ne.symm nx0)))
      have f109 := (Q95_8.other W97 (Or.inl (Ne.symm nx0)))
      have f110 := (Q95_9.other W97 (Or.inl (Ne.symm nx0)))
      have f111 := (Q95_10.other W97 (Ne.symm nx4))
      have f112 := (Q95_11.other W97 (Ne.symm nx5))
      have f113 := (Q95_12.other W97 (Ne.symm nx6))
      have f114 := (Q95_13.other W97 (Ne.symm nx7))
      have f115 := (Q95_14.other W97 (Ne.symm nx1))
      have f116 := (Q95_15.other W97 (Ne.symm nx2))
      have f117 := (Q95_16.other W97 (Ne.symm nx3))
      have f118 := ((J4_18.keep K95).wr W97)
      have f119 := (Q95_17.other W97 (Or.inl (Ne.symm nx8)))
      have f120 := (Q95_18.other W97 (Or.inl (Ne.symm nx8)))
      have f121 := (Q95_19.other W97 (Or.inl (Ne.symm nx8)))
      have f122 := (Q95_20.other W97 (Or.inl (Ne.symm nx8)))
      have f123 := (Q95_21.other W97 (Ne.symm nx10))
      have f124 := (Q95_22.other W97 (Ne.symm nx11))
      have f125 := ((J4_25.keep K95 (nn91 Q2_25)).other W97 (Ne.symm nx9))
      exact ⟨vb__95, vz__95, ve0_95, ve1_95, ve2_95, ve3_95, vp0_95, vp1_95, vp2_95, vp3_95, vi0_95, vi1_95, vi2_95, vi3_95, jm0_4, (1 : Int32), jm2_4, jm3_4, T97, _, _, X97, e97, N97, K97, O97, f100, f101, f102, f103, f104, f105, f106, f107, f108, f109, f110, f111, f112, f113, f114, f115, f116, f117, f118, f119, f120, f121, f122, f123, f124, f125, V97, KIs96, cs99⟩
  obtain ⟨jb_91, jz_91, je0_91, je1_91, je2_91, je3_91, jp0_91, jp1_91, jp2_91, jp3_91, ji0_91, ji1_91, ji2_91, ji3_91, jm0_91, jm1_91, jm2_91, jm3_91, Tj91, Lj91, hj91, Xj91, ej91, Nj91, Kj91, Oj91, J91_0, J91_1, J91_2, J91_3, J91_4, J91_5, J91_6, J91_7, J91_8, J91_9, J91_10, J91_11, J91_12, J91_13, J91_14, J91_15, J91_16, J91_17, J91_18, J91_19, J91_20, J91_21, J91_22, J91_23, J91_24, J91_25, J91_26, Jp91_0, cj91⟩ := jn91
  have cs127 : Steps p.tables e below (s₁.setTop (mkF m 0 #[.val (.int p0), .val (.long p1), .second, .val (.long p2), .second, .val (.long p3), .second, .val (.long p4), .second, .unset, .unset, .unset] [])) (Tj91.setTop (mkF m 62 #[.val (.int p0), .val (.long p1), .second, .val (.long p2), .second, .val (.long p3), .second, .val (.long p4), .second, .val (.ref fa1), .val (.ref fa3), .unset] [(.int (p0 &&& (4 : Int32)))])) := cj91.trans (by
    refine s_iloadN Xj91 hx (D at_59) rfl ?_
    refine s_iconst Xj91 hx (4 : Int32) (D at_60) rfl ?_
    refine s_iand Xj91 hx (D at_61) rfl ?_
    exact Steps.refl _)
  have jn126 : ∃ (jb_126 : Int32) (jz_126 : Int32) (je0_126 : Int32) (je1_126 : Int32) (je2_126 : Int32) (je3_126 : Int32) (jp0_126 : Int32) (jp1_126 : Int32) (jp2_126 : Int32) (jp3_126 : Int32) (ji0_126 : Int32) (ji1_126 : Int32) (ji2_126 : Int32) (ji3_126 : Int32) (jm0_126 : Int32) (jm1_126 : Int32) (jm2_126 : Int32) (jm3_126 : Int32) (T : State) (L : List Loc) (h : Heap), Stand p l e room_1 s m #[(.int p0), (.long p1), (.long p2), (.long p3), (.long p4)] below meth c T L 13 66619 ∧ T.heap = h ∧ Fr n0 L ∧ Keep h0 h [] ∧ Old Z n0 h ∧ Exa Z h fa1 "com/example/leasewise/leasewise/KilometreQueue" ∧ Fld Z h fa1 "com/example/leasewise/leasewise/KilometreQueue" "keys" "[J" (.ref aK_2) ∧ Fld Z h fa1 "com/example/leasewise/leasewise/KilometreQueue" "before" "[I" (.ref aB_2) ∧ Fld Z h fa1 "com/example/leasewise/leasewise/KilometreQueue" "after" "[I" (.ref aA_2) ∧ Fld Z h fa1 "com/example/leasewise/leasewise/KilometreQueue" "inBucket" "[Z" (.ref aI_2) ∧ Fld Z h fa1 "com/example/leasewise/leasewise/KilometreQueue" "firsts" "[I" (.ref aF_2) ∧ Fld Z h fa1 "com/example/leasewise/leasewise/KilometreQueue" "occupied" "[J" (.ref aO_2) ∧ Fld Z h fa1 "com/example/leasewise/leasewise/KilometreQueue" "occupiedWords" "[J" (.ref aW_2) ∧ Fld Z h fa1 "com/example/leasewise/leasewise/KilometreQueue" "further" "Lcom/example/leasewise/leasewise/IndexedHeap;" (.ref hp_2) ∧ Fld Z h fa1 "com/example/leasewise/leasewise/KilometreQueue" "bucketed" "I" (.int jb_126) ∧ Fld Z h fa1 "com/example/leasewise/leasewise/KilometreQueue" "floor" "J" (.long (0 : Int64)) ∧ Arp Z h aK_2 kK_2 .long (4 : Int32) PJ ∧ Arp Z h aB_2 kB_2 .int (4 : Int32) PI ∧ Arp Z h aA_2 kA_2 .int (4 : Int32) PI ∧ Arv Z h aI_2 kI_2 .boolean (4 : Int32) [(.int ji0_126), (.int ji1_126), (.int ji2_126), (.int ji3_126)] (.int (0 : Int32)) ∧ Arp Z h aF_2 kF_2 .int (65536 : Int32) PI ∧ Arp Z h aO_2 kO_2 .long (1024 : Int32) PJ ∧ Arp Z h aW_2 kW_2 .long (16 : Int32) PJ ∧ Exa Z h hp_2 "com/example/leasewise/leasewise/IndexedHeap" ∧ Fld Z h hp_2 "com/example/leasewise/leasewise/IndexedHeap" "order" "Lcom/example/leasewise/leasewise/IndexedHeap$Order;" (.ref lo_2) ∧ Fld Z h hp_2 "com/example/leasewise/leasewise/IndexedHeap" "entries" "[I" (.ref aE_2) ∧ Fld Z h hp_2 "com/example/leasewise/leasewise/IndexedHeap" "positions" "[I" (.ref aP_2) ∧ Fld Z h hp_2 "com/example/leasewise/leasewise/IndexedHeap" "size" "I" (.int jz_126) ∧ Arv Z h aE_2 kE_2 .int (4 : Int32) [(.int je0_126), (.int je1_126), (.int je2_126), (.int je3_126)] (.int (0 : Int32)) ∧ Arv Z h aP_2 kP_2 .int (4 : Int32) [(.int jp0_126), (.int jp1_126), (.int jp2_126), (.int jp3_126)] (.int (-1 : Int32)) ∧ LamO h lo_2 cK_2 fa1 ∧ Arv Z h fa3 fk3 .boolean (4 : Int32) [(.int jm0_126), (.int jm1_126), (.int jm2_126), (.int jm3_126)] (.int (0 : Int32)) ∧ KI jz_126 je0_126 je1_126 je2_126 je3_126 jp0_126 jp1_126 jp2_126 jp3_126 ji0_126 ji1_126 ji2_126 ji3_126 jm0_126 jm1_126 jm2_126 jm3_126 ∧ Steps p.tables e below (s₁.setTop (mkF m 0 #[.val (.int p0), .val (.long p1), .second, .val (.long p2), .second, .val (.long p3), .second, .val (.long p4), .second, .unset, .unset, .unset] [])) (T.setTop (mkF m 82 #[.val (.int p0), .val (.long p1), .second, .val (.long p2), .second, .val (.long p3), .second, .val (.long p4), .second, .val (.ref fa1), .val (.ref fa3), .unset] [])) := by
    by_cases hc128 : (p0 &&& (4 : Int32)) = (0 : Int32)
    · have cs129 : Steps p.tables e below (s₁.setTop (mkF m 0 #[.val (.int p0), .val (.long p1), .second, .val (.long p2), .second, .val (.long p3), .second, .val (.long p4), .second, .unset, .unset, .unset] [])) (Tj91.setTop (mkF m 82 #[.val (.int p0), .val (.long p1), .second, .val (.long p2), .second, .val (.long p3), .second, .val (.long p4), .second, .val (.ref fa1), .val (.ref fa3), .unset] [])) := cs127.trans (by
        refine s_ifYes Xj91 hx 82 (D at_62) ((if0 _ _).trans (teq hc128).1) (of_decide_eq_true rfl) rfl ?_
        exact Steps.refl _)
      exact ⟨jb_91, jz_91, je0_91, je1_91, je2_91, je3_91, jp0_91, jp1_91, jp2_91, jp3_91, ji0_91, ji1_91, ji2_91, ji3_91, jm0_91, jm1_91, jm2_91, jm3_91, Tj91, _, _, Xj91, ej91, Nj91, Kj91, Oj91, J91_0, J91_1, J91_2, J91_3, J91_4, J91_5, J91_6, J91_7, J91_8, J91_9, J91_10, J91_11, J91_12, J91_13, J91_14, J91_15, J91_16, J91_17, J91_18, J91_19, J91_20, J91_21, J91_22, J91_23, J91_24, J91_25, J91_26, Jp91_0, cs129⟩
    · obtain ⟨cq130, kq130, q130a, q130b, q130c⟩ := isOf hZ ej91 J91_0
      obtain ⟨_, _, ⟨T130, L130, k130, n130⟩, -, X130, ⟨Lc130, hQ130, l130, y130, z130⟩, st130⟩ := Xj91.virtualBack hx (y := (⟨"com/example/leasewise/leasewise/KilometreQueue", "put", "(IJ)V"⟩ : MethodName)) (z := (⟨"com/example/leasewise/leasewise/KilometreQueue", "put", "(IJ)V"⟩ : MethodName)) hown (mvT hZ (wd 62 rfl)) (mvT hZ (wd 63 rfl)) (notFace_of_selects (args := #[]) (mvT hZ (wd 65 rfl))) (mvT hZ (wd 65 rfl)) (mvT hZ (wd 64 rfl)) (by decide) (own_backH (W := 0) (rm_kput l Z a0 hw [] fa1 (2 : Int32) (p3 &&& (9223372036854775807 : Int64)) aF_2 aO_2 aW_2 aK_2 aB_2 aA_2 aI_2 hp_2 lo_2 aE_2 aP_2 cK_2 kK_2 kB_2 kA_2 kI_2 kF_2 kO_2 kW_2 kE_2 kP_2 jb_91 ji0_91 ji1_91 ji2_91 ji3_91 jz_91 je0_91 je1_91 je2_91 je3_91 jp0_91 jp1_91 jp2_91 jp3_91 jm0_91 jm1_91 jm2_91 jm3_91 hj91 n0 Oj91 J91_0 J91_1 J91_2 J91_3 J91_4 J91_5 J91_6 J91_7 J91_8 J91_9 J91_10 J91_14 J91_18 J91_19 J91_20 J91_21 J91_22 J91_23 J91_24 Q2_26 Q2_25 gn_fa1 gn_aB_2 gn_aA_2 gn_aI_2 gn_aF_2 gn_aO_2 gn_aW_2 gn_hp_2 gn_aE_2 gn_aP_2 gn_aK_2 Jp91_0 own_i2 (own_max _) J91_11 J91_12 J91_13 J91_15 J91_16 J91_17 J91_25) hZH (wd 66 rfl) (wd 2 rfl) (by decide) (by decide)) q130a q130c (g := (mkF m 74 #[.val (.int p0), .val (.long p1), .second, .val (.long p2), .second, .val (.long p3), .second, .val (.long p4), .second, .val (.ref fa1), .val (.ref fa3), .unset] [(.long (p3 &&& (9223372036854775807 : Int64))), (.int (2 : Int32)), (.ref fa1)])) rfl (by rw [hml]; rfl) (Steps.refl _) (argsL := [(.int (2 : Int32)), (.long (p3 &&& (9223372036854775807 : Int64)))]) (rest := []) (lenOf pd_7 rfl) rfl (by show 2 * 0 + _ ≤ _; exact Nat.le_of_eq rfl) (D at_74) (fun _ _ => ⟨rfl, ej91, (by decide : 13 + 0 ≤ _), (by decide : 66619 + 0 ≤ _)⟩)
      dsimp only [Pt.U, Pt.locs, Pt.cells, Pt.slots] at X130 l130 y130 z130 st130 hQ130
      subst l130 y130 z130
      obtain ⟨ve0_130, ve1_130, ve2_130, ve3_130, vp0_130, vp1_130, vp2_130, vp3_130, vz__130, vb__130, vi0_130, vi1_130, vi2_130, vi3_130, rfl, N130q, K130, Q130_0, Q130_1, Q130_2, Q130_3, Q130_4, Q130_5, Q130_6, Q130_7, Q130_8, Q130_9, Q130_10, Q130_11, Q130_12, Q130_13, Q130_14, Q130_15, Q130_16, Q130_17, Q130_18, Q130_19, Q130_20, Q130_21, Q130_22, Q130_23⟩ := hQ130
      have O130 := Oj91.keep K130 (allS gn_fa1 (allS gn_aB_2 (allS gn_aA_2 (allS gn_aI_2 (allS gn_aF_2 (allS gn_aO_2 (allS gn_aW_2 (allS gn_hp_2 (allS gn_aE_2 (allS gn_aP_2 (allS gn_aK_2 all0)))))))))))
      have KK130 : Keep h0 T130.heap [] := Kj91.trans K130 (allS (Or.inr gh_fa1) (allS (Or.inr gh_aB_2) (allS (Or.inr gh_aA_2) (allS (Or.inr gh_aI_2) (allS (Or.inr gh_aF_2) (allS (Or.inr gh_aO_2) (allS (Or.inr gh_aW_2) (allS (Or.inr gh_hp_2) (allS (Or.inr gh_aE_2) (allS (Or.inr gh_aP_2) (allS (Or.inr gh_aK_2) all0)))))))))))
      have N130 := Fr.app Nj91 N130q
      have KIs131 := own_ml2 Q130_23
      have f133 := (J91_26.keep K130 (ninS nx0 (ninS nx5 (ninS nx6 (ninS nx7 (ninS nx1 (ninS nx2 (ninS nx3 (ninS nx8 (ninS nx10 (ninS nx11 (ninS nx4 nin0))))))))))))
      obtain ⟨cl132, Ar132, q132, S132, Nn132, H132, G132⟩ := id f133
      have hin132 : ¬ ((2 : Int32) < 0 ∨ cl132.slots.size ≤ ((2 : Int32)).toNatClampNeg) := inb_of S132 ⟨by decide, by decide⟩
      obtain ⟨T132, h132, X132, e132, W132, st132⟩ := stZ X130 hx hZ rfl Ar132 (j := (2 : Int32)) hin132 (g := (mkF m 81 #[.val (.int p0), .val (.long p1), .second, .val (.long p2), .second, .val (.long p3), .second, .val (.long p4), .second, .val (.ref fa1), .val (.ref fa3), .unset] [(.int (1 : Int32)), (.int (2 : Int32)), (.ref fa3)])) rfl rfl (D at_81)
      have V132 : Arv Z h132 fa3 fk3 .boolean (4 : Int32) [(.int jm0_91), (.int jm1_91), (.int (1 : Int32)), (.int jm3_91)] (.int (0 : Int32)) := Arv.set Ar132 q132 S132 Nn132 H132 G132 (fits_nar_bool _) W132 2 rfl (Nat.le_of_ble_eq_true rfl)
      have N132 := Fr.snoc X132 N130 gn_fa3
      have Zn132 : n0 ≤ h132.size := Nat.le_trans (own_oldsz O130) (Keep.of_wr W132).1
      have K132 : Keep h0 h132 [] := KK130.wr W132 (Or.inr gh_fa3)
      have O132 := O130.wr W132 gn_fa3
      have cs134 : Steps p.tables e below (s₁.setTop (mkF m 0 #[.val (.int p0), .val (.long p1), .second, .val (.long p2), .second, .val (.long p3), .second, .val (.long p4), .second, .unset, .unset, .unset] [])) (T132.setTop (mkF m 82 #[.val (.int p0), .val (.long p1), .second, .val (.long p2), .second, .val (.long p3), .second, .val (.long p4), .second, .val (.ref fa1), .val (.ref fa3), .unset] [])) := cs127.trans (by
        refine s_ifNo Xj91 hx (D at_62) ((if0 _ _).trans (feq hc128).1) ?_
        refine s_aload Xj91 hx (D at_65) rfl rfl ?_
        refine s_iconst Xj91 hx (2 : Int32) (D at_67) rfl ?_
        refine s_lload Xj91 hx (D at_68) rfl ?_
        refine Xj91.ldc2Long hx hown (mvT hZ (wd 61 rfl)) (g := (mkF m 70 #[.val (.int p0), .val (.long p1), .second, .val (.long p2), .second, .val (.long p3), .second, .val (.long p4), .second, .val (.ref fa1), .val (.ref fa3), .unset] [(.long p3), (.int (2 : Int32)), (.ref fa1)])) rfl (D at_70) _ ?_
        refine s_land Xj91 hx (D at_73) rfl ?_
        refine st130.trans ?_
        refine s_aload X130 hx (D at_77) rfl rfl ?_
        refine s_iconst X130 hx (2 : Int32) (D at_79) rfl ?_
        refine s_iconst X130 hx (1 : Int32) (D at_80) rfl ?_
        refine st132 _ ?_
        exact Steps.refl _)
      have f135 := ((J91_0.keep K130).wr W132)
      have f136 := (Q130_0.other W132 (Or.inl (Ne.symm nx0)))
      have f137 := (Q130_1.other W132 (Or.inl (Ne.symm nx0)))
      have f138 := (Q130_2.other W132 (Or.inl (Ne.symm nx0)))
      have f139 := (Q130_3.other W132 (Or.inl (Ne.symm nx0)))
      have f140 := (Q130_4.other W132 (Or.inl (Ne.symm nx0)))
      have f141 := (Q130_5.other W132 (Or.inl (Ne.symm nx0)))
      have f142 := (Q130_6.other W132 (Or.inl (Ne.symm nx0)))
      have f143 := (Q130_7.other W132 (Or.inl (Ne.symm nx0)))
      have f144 := (Q130_8.other W132 (Or.inl (Ne.symm nx0)))
      have f145 := (Q130_9.other W132 (Or.inl (Ne.symm nx0)))
      have f146 := (Q130_10.other W132 (Ne.symm nx4))
      have f147 := (Q130_11.other W132 (Ne.symm nx5))
      have f148 := (Q130_12.other W132 (Ne.symm nx6))
      have f149 := (Q130_13.other W132 (Ne.symm nx7))
      have f150 := (Q130_14.other W132 (Ne.symm nx1))
      have f151 := (Q130_15.other W132 (Ne.symm nx2))
      have f152 := (Q130_16.other W132 (Ne.symm nx3))
      have f153 := ((J91_18.keep K130).wr W132)
      have f154 := (Q130_17.other W132 (Or.inl (Ne.symm nx8)))
      have f155 := (Q130_18.other W132 (Or.inl (Ne.symm nx8)))
      have f156 := (Q130_19.other W132 (Or.inl (Ne.symm nx8)))
      have f157 := (Q130_20.other W132 (Or.inl (Ne.symm nx8)))
      have f158 := (Q130_21.other W132 (Ne.symm nx10))
      have f159 := (Q130_22.other W132 (Ne.symm nx11))
      have f160 := ((J91_25.keep K130 (nn91 Q2_25)).other W132 (Ne.symm nx9))
      exact ⟨vb__130, vz__130, ve0_130, ve1_130, ve2_130, ve3_130, vp0_130, vp1_130, vp2_130, vp3_130, vi0_130, vi1_130, vi2_130, vi3_130, jm0_91, jm1_91, (1 : Int32), jm3_91, T132, _, _, X132, e132, N132, K132, O132, f135, f136, f137, f138, f139, f140, f141, f142, f143, f144, f145, f146, f147, f148, f149, f150, f151, f152, f153, f154, f155, f156, f157, f158, f159, f160, V132, KIs131, cs134⟩
  obtain ⟨jb_126, jz_126, je0_126, je1_126, je2_126, je3_126, jp0_126, jp1_126, jp2_126, jp3_126, ji0_126, ji1_126, ji2_126, ji3_126, jm0_126, jm1_126, jm2_126, jm3_126, Tj126, Lj126, hj126, Xj126, ej126, Nj126, Kj126, Oj126, J126_0, J126_1, J126_2, J126_3, J126_4, J126_5, J126_6, J126_7, J126_8, J126_9, J126_10, J126_11, J126_12, J126_13, J126_14, J126_15, J126_16, J126_17, J126_18, J126_19, J126_20, J126_21, J126_22, J126_23, J126_24, J126_25, J126_26, Jp126_0, cj126⟩ := jn126
  have cs162 : Steps p.tables e below (s₁.setTop (mkF m 0 #[.val (.int p0), .val (.long p1), .second, .val (.long p2), .second, .val (.long p3), .second, .val (.long p4), .second, .unset, .unset, .unset] [])) (Tj126.setTop (mkF m 86 #[.val (.int p0), .val (.long p1), .second, .val (.long p2), .second, .val (.long p3), .second, .val (.long p4), .second, .val (.ref fa1), .val (.ref fa3), .unset] [(.int (p0 &&& (32 : Int32)))])) := cj126.trans (by
    refine s_iloadN Xj126 hx (D at_82) rfl ?_
    refine s_bipush Xj126 hx (32 : Int32) (D at_83) rfl ?_
    refine s_iand Xj126 hx (D at_85) rfl ?_
    exact Steps.refl _)
  have jn161 : ∃ (jb_161 : Int32) (jz_161 : Int32) (je0_161 : Int32) (je1_161 : Int32) (je2_161 : Int32) (je3_161 : Int32) (jp0_161 : Int32) (jp1_161 : Int32) (jp2_161 : Int32) (jp3_161 : Int32) (ji0_161 : Int32) (ji1_161 : Int32) (ji2_161 : Int32) (ji3_161 : Int32) (jm0_161 : Int32) (jm1_161 : Int32) (jm2_161 : Int32) (jm3_161 : Int32) (zs11_161 : Slot) (T : State) (L : List Loc) (h : Heap), Stand p l e room_1 s m #[(.int p0), (.long p1), (.long p2), (.long p3), (.long p4)] below meth c T L 13 66619 ∧ T.heap = h ∧ Fr n0 L ∧ Keep h0 h [] ∧ Old Z n0 h ∧ Exa Z h fa1 "com/example/leasewise/leasewise/KilometreQueue" ∧ Fld Z h fa1 "com/example/leasewise/leasewise/KilometreQueue" "keys" "[J" (.ref aK_2) ∧ Fld Z h fa1 "com/example/leasewise/leasewise/KilometreQueue" "before" "[I" (.ref aB_2) ∧ Fld Z h fa1 "com/example/leasewise/leasewise/KilometreQueue" "after" "[I" (.ref aA_2) ∧ Fld Z h fa1 "com/example/leasewise/leasewise/KilometreQueue" "inBucket" "[Z" (.ref aI_2) ∧ Fld Z h fa1 "com/example/leasewise/leasewise/KilometreQueue" "firsts" "[I" (.ref aF_2) ∧ Fld Z h fa1 "com/example/leasewise/leasewise/KilometreQueue" "occupied" "[J" (.ref aO_2) ∧ Fld Z h fa1 "com/example/leasewise/leasewise/KilometreQueue" "occupiedWords" "[J" (.ref aW_2) ∧ Fld Z h fa1 "com/example/leasewise/leasewise/KilometreQueue" "further" "Lcom/example/leasewise/leasewise/IndexedHeap;" (.ref hp_2) ∧ Fld Z h fa1 "com/example/leasewise/leasewise/KilometreQueue" "bucketed" "I" (.int jb_161) ∧ Fld Z h fa1 "com/example/leasewise/leasewise/KilometreQueue" "floor" "J" (.long (0 : Int64)) ∧ Arp Z h aK_2 kK_2 .long (4 : Int32) PJ ∧ Arp Z h aB_2 kB_2 .int (4 : Int32) PI ∧ Arp Z h aA_2 kA_2 .int (4 : Int32) PI ∧ Arv Z h aI_2 kI_2 .boolean (4 : Int32) [(.int ji0_161), (.int ji1_161), (.int ji2_161), (.int ji3_161)] (.int (0 : Int32)) ∧ Arp Z h aF_2 kF_2 .int (65536 : Int32) PI ∧ Arp Z h aO_2 kO_2 .long (1024 : Int32) PJ ∧ Arp Z h aW_2 kW_2 .long (16 : Int32) PJ ∧ Exa Z h hp_2 "com/example/leasewise/leasewise/IndexedHeap" ∧ Fld Z h hp_2 "com/example/leasewise/leasewise/IndexedHeap" "order" "Lcom/example/leasewise/leasewise/IndexedHeap$Order;" (.ref lo_2) ∧ Fld Z h hp_2 "com/example/leasewise/leasewise/IndexedHeap" "entries" "[I" (.ref aE_2) ∧ Fld Z h hp_2 "com/example/leasewise/leasewise/IndexedHeap" "positions" "[I" (.ref aP_2) ∧ Fld Z h hp_2 "com/example/leasewise/leasewise/IndexedHeap" "size" "I" (.int jz_161) ∧ Arv Z h aE_2 kE_2 .int (4 : Int32) [(.int je0_161), (.int je1_161), (.int je2_161), (.int je3_161)] (.int (0 : Int32)) ∧ Arv Z h aP_2 kP_2 .int (4 : Int32) [(.int jp0_161), (.int jp1_161), (.int jp2_161), (.int jp3_161)] (.int (-1 : Int32)) ∧ LamO h lo_2 cK_2 fa1 ∧ Arv Z h fa3 fk3 .boolean (4 : Int32) [(.int jm0_161), (.int jm1_161), (.int jm2_161), (.int jm3_161)] (.int (0 : Int32)) ∧ KI jz_161 je0_161 je1_161 je2_161 je3_161 jp0_161 jp1_161 jp2_161 jp3_161 ji0_161 ji1_161 ji2_161 ji3_161 jm0_161 jm1_161 jm2_161 jm3_161 ∧ (zs11_161 = .unset ∨ ∃ a : Int32, zs11_161 = .val (.int a)) ∧ Steps p.tables e below (s₁.setTop (mkF m 0 #[.val (.int p0), .val (.long p1), .second, .val (.long p2), .second, .val (.long p3), .second, .val (.long p4), .second, .unset, .unset, .unset] [])) (T.setTop (mkF m 109 #[.val (.int p0), .val (.long p1), .second, .val (.long p2), .second, .val (.long p3), .second, .val (.long p4), .second, .val (.ref fa1), .val (.ref fa3), zs11_161] [])) := by
    by_cases hc163 : (p0 &&& (32 : Int32)) = (0 : Int32)
    · have cs164 : Steps p.tables e below (s₁.setTop (mkF m 0 #[.val (.int p0), .val (.long p1), .second, .val (.long p2), .second, .val (.long p3), .second, .val (.long p4), .second, .unset, .unset, .unset] [])) (Tj126.setTop (mkF m 109 #[.val (.int p0), .val (.long p1), .second, .val (.long p2), .second, .val (.long p3), .second, .val (.long p4), .second, .val (.ref fa1), .val (.ref fa3), .unset] [])) := cs162.trans (by
        refine s_ifYes Xj126 hx 109 (D at_86) ((if0 _ _).trans (teq hc163).1) (of_decide_eq_true rfl) rfl ?_
        exact Steps.refl _)
      exact ⟨jb_126, jz_126, je0_126, je1_126, je2_126, je3_126, jp0_126, jp1_126, jp2_126, jp3_126, ji0_126, ji1_126, ji2_126, ji3_126, jm0_126, jm1_126, jm2_126, jm3_126, _, Tj126, _, _, Xj126, ej126, Nj126, Kj126, Oj126, J126_0, J126_1, J126_2, J126_3, J126_4, J126_5, J126_6, J126_7, J126_8, J126_9, J126_10, J126_11, J126_12, J126_13, J126_14, J126_15, J126_16, J126_17, J126_18, J126_19, J126_20, J126_21, J126_22, J126_23, J126_24, J126_25, J126_26, Jp126_0, (Or.inl rfl), cs164⟩
    · obtain ⟨cq165, kq165, q165a, q165b, q165c⟩ := isOf hZ ej126 J126_0
      obtain ⟨_, _, ⟨T165, L165, k165, n165⟩, -, X165, ⟨Lc165, hQ165, l165, y165, z165⟩, st165⟩ := Xj126.virtualBack hx (y := (⟨"com/example/leasewise/leasewise/KilometreQueue", "remove", "(I)V"⟩ : MethodName)) (z := (⟨"com/example/leasewise/leasewise/KilometreQueue", "remove", "(I)V"⟩ : MethodName)) hown (mvT hZ (wd 102 rfl)) (mvT hZ (wd 70 rfl)) (notFace_of_selects (args := #[]) (mvT hZ (wd 72 rfl))) (mvT hZ (wd 72 rfl)) (mvT hZ (wd 71 rfl)) (by decide) (own_backH (W := 0) (rm_kremove l Z a0 hw [] fa1 (((p0.toUInt32 >>> ((3 : Int32) &&& 31).toUInt32).toInt32) &&& (3 : Int32)) aF_2 aO_2 aW_2 aK_2 aB_2 aA_2 aI_2 hp_2 lo_2 aE_2 aP_2 cK_2 kK_2 kB_2 kA_2 kI_2 kF_2 kO_2 kW_2 kE_2 kP_2 jb_126 ji0_126 ji1_126 ji2_126 ji3_126 jz_126 je0_126 je1_126 je2_126 je3_126 jp0_126 jp1_126 jp2_126 jp3_126 jm0_126 jm1_126 jm2_126 jm3_126 hj126 n0 Oj126 J126_0 J126_1 J126_2 J126_3 J126_4 J126_5 J126_6 J126_7 J126_8 J126_9 J126_10 J126_14 J126_18 J126_19 J126_20 J126_21 J126_22 J126_23 J126_24 Q2_26 Q2_25 gn_fa1 gn_aB_2 gn_aA_2 gn_aI_2 gn_aF_2 gn_aO_2 gn_aW_2 gn_hp_2 gn_aE_2 gn_aP_2 Jp126_0 (own_and3 _) J126_11 J126_12 J126_13 J126_15 J126_16 J126_17 J126_25) hZH (wd 73 rfl) (wd 2 rfl) (by decide) (by decide)) q165a q165c (g := (mkF m 100 #[.val (.int p0), .val (.long p1), .second, .val (.long p2), .second, .val (.long p3), .second, .val (.long p4), .second, .val (.ref fa1), .val (.ref fa3), .val (.int (((p0.toUInt32 >>> ((3 : Int32) &&& 31).toUInt32).toInt32) &&& (3 : Int32)))] [(.int (((p0.toUInt32 >>> ((3 : Int32) &&& 31).toUInt32).toInt32) &&& (3 : Int32))), (.ref fa1)])) rfl (by rw [hml]; rfl) (Steps.refl _) (argsL := [(.int (((p0.toUInt32 >>> ((3 : Int32) &&& 31).toUInt32).toInt32) &&& (3 : Int32)))]) (rest := []) (lenOf pd_4 rfl) rfl (by show 2 * 0 + _ ≤ _; exact Nat.le_of_eq rfl) (D at_100) (fun _ _ => ⟨rfl, ej126, (by decide : 13 + 0 ≤ _), (by decide : 66619 + 0 ≤ _)⟩)
      dsimp only [Pt.U, Pt.locs, Pt.cells, Pt.slots] at X165 l165 y165 z165 st165 hQ165
      subst l165 y165 z165
      obtain ⟨ve0_165, ve1_165, ve2_165, ve3_165, vp0_165, vp1_165, vp2_165, vp3_165, vz__165, vb__165, vi0_165, vi1_165, vi2_165, vi3_165, rfl, N165q, K165, Q165_0, Q165_1, Q165_2, Q165_3, Q165_4, Q165_5, Q165_6, Q165_7, Q165_8, Q165_9, Q165_10, Q165_11, Q165_12, Q165_13, Q165_14, Q165_15, Q165_16, Q165_17, Q165_18, Q165_19, Q165_20, Q165_21, Q165_22⟩ := hQ165
      have O165 := Oj126.keep K165 (allS gn_fa1 (allS gn_aB_2 (allS gn_aA_2 (allS gn_aI_2 (allS gn_aF_2 (allS gn_aO_2 (allS gn_aW_2 (allS gn_hp_2 (allS gn_aE_2 (allS gn_aP_2 all0))))))))))
      have KK165 : Keep h0 T165.heap [] := Kj126.trans K165 (allS (Or.inr gh_fa1) (allS (Or.inr gh_aB_2) (allS (Or.inr gh_aA_2) (allS (Or.inr gh_aI_2) (allS (Or.inr gh_aF_2) (allS (Or.inr gh_aO_2) (allS (Or.inr gh_aW_2) (allS (Or.inr gh_hp_2) (allS (Or.inr gh_aE_2) (allS (Or.inr gh_aP_2) all0))))))))))
      have N165 := Fr.app Nj126 N165q
      have f168 := (J126_26.keep K165 (ninS nx0 (ninS nx5 (ninS nx6 (ninS nx7 (ninS nx1 (ninS nx2 (ninS nx3 (ninS nx8 (ninS nx10 (ninS nx11 nin0)))))))))))
      obtain ⟨cl167, Ar167, q167, S167, Nn167, H167, G167⟩ := id f168
      have hin167 : ¬ ((((p0.toUInt32 >>> ((3 : Int32) &&& 31).toUInt32).toInt32) &&& (3 : Int32)) < 0 ∨ cl167.slots.size ≤ ((((p0.toUInt32 >>> ((3 : Int32) &&& 31).toUInt32).toInt32) &&& (3 : Int32))).toNatClampNeg) := inb_of S167 (own_in4 (own_and3 _))
      obtain ⟨T167, h167, X167, e167, W167, st167⟩ := stZ X165 hx hZ rfl Ar167 (j := (((p0.toUInt32 >>> ((3 : Int32) &&& 31).toUInt32).toInt32) &&& (3 : Int32))) hin167 (g := (mkF m 108 #[.val (.int p0), .val (.long p1), .second, .val (.long p2), .second, .val (.long p3), .second, .val (.long p4), .second, .val (.ref fa1), .val (.ref fa3), .val (.int (((p0.toUInt32 >>> ((3 : Int32) &&& 31).toUInt32).toInt32) &&& (3 : Int32)))] [(.int (0 : Int32)), (.int (((p0.toUInt32 >>> ((3 : Int32) &&& 31).toUInt32).toInt32) &&& (3 : Int32))), (.ref fa3)])) rfl rfl (D at_108)
      have V167 : Arv Z h167 fa3 fk3 .boolean (4 : Int32) [(.int (s4 (((p0.toUInt32 >>> ((3 : Int32) &&& 31).toUInt32).toInt32) &&& (3 : Int32)) 0 (0 : Int32) jm0_126)), (.int (s4 (((p0.toUInt32 >>> ((3 : Int32) &&& 31).toUInt32).toInt32) &&& (3 : Int32)) 1 (0 : Int32) jm1_126)), (.int (s4 (((p0.toUInt32 >>> ((3 : Int32) &&& 31).toUInt32).toInt32) &&& (3 : Int32)) 2 (0 : Int32) jm2_126)), (.int (s4 (((p0.toUInt32 >>> ((3 : Int32) &&& 31).toUInt32).toInt32) &&& (3 : Int32)) 3 (0 : Int32) jm3_126))] (.int (0 : Int32)) := own_set4 (w := (0 : Int32)) Ar167 q167 S167 Nn167 H167 G167 rfl W167 (own_and3 _)
      have N167 := Fr.snoc X167 N165 gn_fa3
      have Zn167 : n0 ≤ h167.size := Nat.le_trans (own_oldsz O165) (Keep.of_wr W167).1
      have K167 : Keep h0 h167 [] := KK165.wr W167 (Or.inr gh_fa3)
      have O167 := O165.wr W167 gn_fa3
      have cs169 : Steps p.tables e below (s₁.setTop (mkF m 0 #[.val (.int p0), .val (.long p1), .second, .val (.long p2), .second, .val (.long p3), .second, .val (.long p4), .second, .unset, .unset, .unset] [])) (T167.setTop (mkF m 109 #[.val (.int p0), .val (.long p1), .second, .val (.long p2), .second, .val (.long p3), .second, .val (.long p4), .second, .val (.ref fa1), .val (.ref fa3), .val (.int (((p0.toUInt32 >>> ((3 : Int32) &&& 31).toUInt32).toInt32) &&& (3 : Int32)))] [])) := cs162.trans (by
        refine s_ifNo Xj126 hx (D at_86) ((if0 _ _).trans (feq hc163).1) ?_
        refine s_iloadN Xj126 hx (D at_89) rfl ?_
        refine s_iconst Xj126 hx (3 : Int32) (D at_90) rfl ?_
        refine s_iushr Xj126 hx (D at_91) rfl ?_
        refine s_iconst Xj126 hx (3 : Int32) (D at_92) rfl ?_
        refine s_iand Xj126 hx (D at_93) rfl ?_
        refine s_istore Xj126 hx (D at_94) (l' := #[.val (.int p0), .val (.long p1), .second, .val (.long p2), .second, .val (.long p3), .second, .val (.long p4), .second, .val (.ref fa1), .val (.ref fa3), .val (.int (((p0.toUInt32 >>> ((3 : Int32) &&& 31).toUInt32).toInt32) &&& (3 : Int32)))]) rfl ?_
        refine s_aload Xj126 hx (D at_96) rfl rfl ?_
        refine s_iload Xj126 hx (D at_98) rfl ?_
        refine st165.trans ?_
        refine s_aload X165 hx (D at_103) rfl rfl ?_
        refine s_iload X165 hx (D at_105) rfl ?_
        refine s_iconst X165 hx (0 : Int32) (D at_107) rfl ?_
        refine st167 _ ?_
        exact Steps.refl _)
      have f170 := ((J126_0.keep K165).wr W167)
      have f171 := (Q165_0.other W167 (Or.inl (Ne.symm nx0)))
      have f172 := (Q165_1.other W167 (Or.inl (Ne.symm nx0)))
      have f173 := (Q165_2.other W167 (Or.inl (Ne.symm nx0)))
      have f174 := (Q165_3.other W167 (Or.inl (Ne.symm nx0)))
      have f175 := (Q165_4.other W167 (Or.inl (Ne.symm nx0)))
      have f176 := (Q165_5.other W167 (Or.inl (Ne.symm nx0)))
      have f177 := (Q165_6.other W167 (Or.inl (Ne.symm nx0)))
      have f178 := (Q165_7.other W167 (Or.inl (Ne.symm nx0)))
      have f179 := (Q165_8.other W167 (Or.inl (Ne.symm nx0)))
      have f180 := (Q165_9.other W167 (Or.inl (Ne.symm nx0)))
      have f181 := ((J126_11.keep K165 (nn76 Q2_25)).other W167 (Ne.symm nx4))
      have f182 := (Q165_10.other W167 (Ne.symm nx5))
      have f183 := (Q165_11.other W167 (Ne.symm nx6))
      have f184 := (Q165_12.other W167 (Ne.symm nx7))
      have f185 := (Q165_13.other W167 (Ne.symm nx1))
      have f186 := (Q165_14.other W167 (Ne.symm nx2))
      have f187 := (Q165_15.other W167 (Ne.symm nx3))
      have f188 := ((J126_18.keep K165).wr W167)
      have f189 := (Q165_16.other W167 (Or.inl (Ne.symm nx8)))
      have f190 := (Q165_17.other W167 (Or.inl (Ne.symm nx8)))
      have f191 := (Q165_18.other W167 (Or.inl (Ne.symm nx8)))
      have f192 := (Q165_19.other W167 (Or.inl (Ne.symm nx8)))
      have f193 := (Q165_20.other W167 (Ne.symm nx10))
      have f194 := (Q165_21.other W167 (Ne.symm nx11))
      have f195 := ((J126_25.keep K165 (nn88 Q2_25)).other W167 (Ne.symm nx9))
      exact ⟨vb__165, vz__165, ve0_165, ve1_165, ve2_165, ve3_165, vp0_165, vp1_165, vp2_165, vp3_165, vi0_165, vi1_165, vi2_165, vi3_165, (s4 (((p0.toUInt32 >>> ((3 : Int32) &&& 31).toUInt32).toInt32) &&& (3 : Int32)) 0 (0 : Int32) jm0_126), (s4 (((p0.toUInt32 >>> ((3 : Int32) &&& 31).toUInt32).toInt32) &&& (3 : Int32)) 1 (0 : Int32) jm1_126), (s4 (((p0.toUInt32 >>> ((3 : Int32) &&& 31).toUInt32).toInt32) &&& (3 : Int32)) 2 (0 : Int32) jm2_126), (s4 (((p0.toUInt32 >>> ((3 : Int32) &&& 31).toUInt32).toInt32) &&& (3 : Int32)) 3 (0 : Int32) jm3_126), _, T167, _, _, X167, e167, N167, K167, O167, f170, f171, f172, f173, f174, f175, f176, f177, f178, f179, f180, f181, f182, f183, f184, f185, f186, f187, f188, f189, f190, f191, f192, f193, f194, f195, V167, Q165_22, (Or.inr ⟨_, rfl⟩), cs169⟩
  obtain ⟨jb_161, jz_161, je0_161, je1_161, je2_161, je3_161, jp0_161, jp1_161, jp2_161, jp3_161, ji0_161, ji1_161, ji2_161, ji3_161, jm0_161, jm1_161, jm2_161, jm3_161, zs11_161, Tj161, Lj161, hj161, Xj161, ej161, Nj161, Kj161, Oj161, J161_0, J161_1, J161_2, J161_3, J161_4, J161_5, J161_6, J161_7, J161_8, J161_9, J161_10, J161_11, J161_12, J161_13, J161_14, J161_15, J161_16, J161_17, J161_18, J161_19, J161_20, J161_21, J161_22, J161_23, J161_24, J161_25, J161_26, Jp161_0, Jp161_1, cj161⟩ := jn161
  have cs197 : Steps p.tables e below (s₁.setTop (mkF m 0 #[.val (.int p0), .val (.long p1), .second, .val (.long p2), .second, .val (.long p3), .second, .val (.long p4), .second, .unset, .unset, .unset] [])) (Tj161.setTop (mkF m 114 #[.val (.int p0), .val (.long p1), .second, .val (.long p2), .second, .val (.long p3), .second, .val (.long p4), .second, .val (.ref fa1), .val (.ref fa3), zs11_161] [(.int (p0 &&& (256 : Int32)))])) := cj161.trans (by
    refine s_iloadN Xj161 hx (D at_109) rfl ?_
    refine s_sipush Xj161 hx (256 : Int32) (D at_110) rfl ?_
    refine s_iand Xj161 hx (D at_113) rfl ?_
    exact Steps.refl _)
  have jn196 : ∃ (jb_196 : Int32) (jz_196 : Int32) (je0_196 : Int32) (je1_196 : Int32) (je2_196 : Int32) (je3_196 : Int32) (jp0_196 : Int32) (jp1_196 : Int32) (jp2_196 : Int32) (jp3_196 : Int32) (ji0_196 : Int32) (ji1_196 : Int32) (ji2_196 : Int32) (ji3_196 : Int32) (jm0_196 : Int32) (jm1_196 : Int32) (jm2_196 : Int32) (jm3_196 : Int32) (zs11_196 : Slot) (T : State) (L : List Loc) (h : Heap), Stand p l e room_1 s m #[(.int p0), (.long p1), (.long p2), (.long p3), (.long p4)] below meth c T L 13 66619 ∧ T.heap = h ∧ Fr n0 L ∧ Keep h0 h [] ∧ Old Z n0 h ∧ Exa Z h fa1 "com/example/leasewise/leasewise/KilometreQueue" ∧ Fld Z h fa1 "com/example/leasewise/leasewise/KilometreQueue" "keys" "[J" (.ref aK_2) ∧ Fld Z h fa1 "com/example/leasewise/leasewise/KilometreQueue" "before" "[I" (.ref aB_2) ∧ Fld Z h fa1 "com/example/leasewise/leasewise/KilometreQueue" "after" "[I" (.ref aA_2) ∧ Fld Z h fa1 "com/example/leasewise/leasewise/KilometreQueue" "inBucket" "[Z" (.ref aI_2) ∧ Fld Z h fa1 "com/example/leasewise/leasewise/KilometreQueue" "firsts" "[I" (.ref aF_2) ∧ Fld Z h fa1 "com/example/leasewise/leasewise/KilometreQueue" "occupied" "[J" (.ref aO_2) ∧ Fld Z h fa1 "com/example/leasewise/leasewise/KilometreQueue" "occupiedWords" "[J" (.ref aW_2) ∧ Fld Z h fa1 "com/example/leasewise/leasewise/KilometreQueue" "further" "Lcom/example/leasewise/leasewise/IndexedHeap;" (.ref hp_2) ∧ Fld Z h fa1 "com/example/leasewise/leasewise/KilometreQueue" "bucketed" "I" (.int jb_196) ∧ Fld Z h fa1 "com/example/leasewise/leasewise/KilometreQueue" "floor" "J" (.long (0 : Int64)) ∧ Arp Z h aK_2 kK_2 .long (4 : Int32) PJ ∧ Arp Z h aB_2 kB_2 .int (4 : Int32) PI ∧ Arp Z h aA_2 kA_2 .int (4 : Int32) PI ∧ Arv Z h aI_2 kI_2 .boolean (4 : Int32) [(.int ji0_196), (.int ji1_196), (.int ji2_196), (.int ji3_196)] (.int (0 : Int32)) ∧ Arp Z h aF_2 kF_2 .int (65536 : Int32) PI ∧ Arp Z h aO_2 kO_2 .long (1024 : Int32) PJ ∧ Arp Z h aW_2 kW_2 .long (16 : Int32) PJ ∧ Exa Z h hp_2 "com/example/leasewise/leasewise/IndexedHeap" ∧ Fld Z h hp_2 "com/example/leasewise/leasewise/IndexedHeap" "order" "Lcom/example/leasewise/leasewise/IndexedHeap$Order;" (.ref lo_2) ∧ Fld Z h hp_2 "com/example/leasewise/leasewise/IndexedHeap" "entries" "[I" (.ref aE_2) ∧ Fld Z h hp_2 "com/example/leasewise/leasewise/IndexedHeap" "positions" "[I" (.ref aP_2) ∧ Fld Z h hp_2 "com/example/leasewise/leasewise/IndexedHeap" "size" "I" (.int jz_196) ∧ Arv Z h aE_2 kE_2 .int (4 : Int32) [(.int je0_196), (.int je1_196), (.int je2_196), (.int je3_196)] (.int (0 : Int32)) ∧ Arv Z h aP_2 kP_2 .int (4 : Int32) [(.int jp0_196), (.int jp1_196), (.int jp2_196), (.int jp3_196)] (.int (-1 : Int32)) ∧ LamO h lo_2 cK_2 fa1 ∧ Arv Z h fa3 fk3 .boolean (4 : Int32) [(.int jm0_196), (.int jm1_196), (.int jm2_196), (.int jm3_196)] (.int (0 : Int32)) ∧ KI jz_196 je0_196 je1_196 je2_196 je3_196 jp0_196 jp1_196 jp2_196 jp3_196 ji0_196 ji1_196 ji2_196 ji3_196 jm0_196 jm1_196 jm2_196 jm3_196 ∧ (zs11_196 = .unset ∨ ∃ a : Int32, zs11_196 = .val (.int a)) ∧ Steps p.tables e below (s₁.setTop (mkF m 0 #[.val (.int p0), .val (.long p1), .second, .val (.long p2), .second, .val (.long p3), .second, .val (.long p4), .second, .unset, .unset, .unset] [])) (T.setTop (mkF m 144 #[.val (.int p0), .val (.long p1), .second, .val (.long p2), .second, .val (.long p3), .second, .val (.long p4), .second, .val (.ref fa1), .val (.ref fa3), zs11_196] [])) := by
    by_cases hc198 : (p0 &&& (256 : Int32)) = (0 : Int32)
    · have cs199 : Steps p.tables e below (s₁.setTop (mkF m 0 #[.val (.int p0), .val (.long p1), .second, .val (.long p2), .second, .val (.long p3), .second, .val (.long p4), .second, .unset, .unset, .unset] [])) (Tj161.setTop (mkF m 144 #[.val (.int p0), .val (.long p1), .second, .val (.long p2), .second, .val (.long p3), .second, .val (.long p4), .second, .val (.ref fa1), .val (.ref fa3), zs11_161] [])) := cs197.trans (by
        refine s_ifYes Xj161 hx 144 (D at_114) ((if0 _ _).trans (teq hc198).1) (of_decide_eq_true rfl) rfl ?_
        exact Steps.refl _)
      exact ⟨jb_161, jz_161, je0_161, je1_161, je2_161, je3_161, jp0_161, jp1_161, jp2_161, jp3_161, ji0_161, ji1_161, ji2_161, ji3_161, jm0_161, jm1_161, jm2_161, jm3_161, _, Tj161, _, _, Xj161, ej161, Nj161, Kj161, Oj161, J161_0, J161_1, J161_2, J161_3, J161_4, J161_5, J161_6, J161_7, J161_8, J161_9, J161_10, J161_11, J161_12, J161_13, J161_14, J161_15, J161_16, J161_17, J161_18, J161_19, J161_20, J161_21, J161_22, J161_23, J161_24, J161_25, J161_26, Jp161_0, Jp161_1, cs199⟩
    · obtain ⟨cq200, kq200, q200a, q200b, q200c⟩ := isOf hZ ej161 J161_0
      obtain ⟨_, _, ⟨T200, L200, k200, n200⟩, -, X200, ⟨Lc200, hQ200, l200, y200, z200⟩, st200⟩ := Xj161.virtualBack hx (y := (⟨"com/example/leasewise/leasewise/KilometreQueue", "put", "(IJ)V"⟩ : MethodName)) (z := (⟨"com/example/leasewise/leasewise/KilometreQueue", "put", "(IJ)V"⟩ : MethodName)) hown (mvT hZ (wd 62 rfl)) (mvT hZ (wd 63 rfl)) (notFace_of_selects (args := #[]) (mvT hZ (wd 65 rfl))) (mvT hZ (wd 65 rfl)) (mvT hZ (wd 64 rfl)) (by decide) (own_backH (W := 0) (rm_kput l Z a0 hw [] fa1 (((p0.toUInt32 >>> ((6 : Int32) &&& 31).toUInt32).toInt32) &&& (3 : Int32)) (p4 &&& (9223372036854775807 : Int64)) aF_2 aO_2 aW_2 aK_2 aB_2 aA_2 aI_2 hp_2 lo_2 aE_2 aP_2 cK_2 kK_2 kB_2 kA_2 kI_2 kF_2 kO_2 kW_2 kE_2 kP_2 jb_161 ji0_161 ji1_161 ji2_161 ji3_161 jz_161 je0_161 je1_161 je2_161 je3_161 jp0_161 jp1_161 jp2_161 jp3_161 jm0_161 jm1_161 jm2_161 jm3_161 hj161 n0 Oj161 J161_0 J161_1 J161_2 J161_3 J161_4 J161_5 J161_6 J161_7 J161_8 J161_9 J161_10 J161_14 J161_18 J161_19 J161_20 J161_21 J161_22 J161_23 J161_24 Q2_26 Q2_25 gn_fa1 gn_aB_2 gn_aA_2 gn_aI_2 gn_aF_2 gn_aO_2 gn_aW_2 gn_hp_2 gn_aE_2 gn_aP_2 gn_aK_2 Jp161_0 (own_and3 _) (own_max _) J161_11 J161_12 J161_13 J161_15 J161_16 J161_17 J161_25) hZH (wd 66 rfl) (wd 2 rfl) (by decide) (by decide)) q200a q200c (g := (mkF m 135 #[.val (.int p0), .val (.long p1), .second, .val (.long p2), .second, .val (.long p3), .second, .val (.long p4), .second, .val (.ref fa1), .val (.ref fa3), .val (.int (((p0.toUInt32 >>> ((6 : Int32) &&& 31).toUInt32).toInt32) &&& (3 : Int32)))] [(.long (p4 &&& (9223372036854775807 : Int64))), (.int (((p0.toUInt32 >>> ((6 : Int32) &&& 31).toUInt32).toInt32) &&& (3 : Int32))), (.ref fa1)])) rfl (by rw [hml]; rfl) (Steps.refl _) (argsL := [(.int (((p0.toUInt32 >>> ((6 : Int32) &&& 31).toUInt32).toInt32) &&& (3 : Int32))), (.long (p4 &&& (9223372036854775807 : Int64)))]) (rest := []) (lenOf pd_7 rfl) rfl (by show 2 * 0 + _ ≤ _; exact Nat.le_of_eq rfl) (D at_135) (fun _ _ => ⟨rfl, ej161, (by decide : 13 + 0 ≤ _), (by decide : 66619 + 0 ≤ _)⟩)
      dsimp only [Pt.U, Pt.locs, Pt.cells, Pt.slots] at X200 l200 y200 z200 st200 hQ200
      subst l200 y200 z200
      obtain ⟨ve0_200, ve1_200, ve2_200, ve3_200, vp0_200, vp1_200, vp2_200, vp3_200, vz__200, vb__200, vi0_200, vi1_200, vi2_200, vi3_200, rfl, N200q, K200, Q200_0, Q200_1, Q200_2, Q200_3, Q200_4, Q200_5, Q200_6, Q200_7, Q200_8, Q200_9, Q200_10, Q200_11, Q200_12, Q200_13, Q200_14, Q200_15, Q200_16, Q200_17, Q200_18, Q200_19, Q200_20, Q200_21, Q200_22, Q200_23⟩ := hQ200
      have O200 := Oj161.keep K200 (allS gn_fa1 (allS gn_aB_2 (allS gn_aA_2 (allS gn_aI_2 (allS gn_aF_2 (allS gn_aO_2 (allS gn_aW_2 (allS gn_hp_2 (allS gn_aE_2 (allS gn_aP_2 (allS gn_aK_2 all0)))))))))))
      have KK200 : Keep h0 T200.heap [] := Kj161.trans K200 (allS (Or.inr gh_fa1) (allS (Or.inr gh_aB_2) (allS (Or.inr gh_aA_2) (allS (Or.inr gh_aI_2) (allS (Or.inr gh_aF_2) (allS (Or.inr gh_aO_2) (allS (Or.inr gh_aW_2) (allS (Or.inr gh_hp_2) (allS (Or.inr gh_aE_2) (allS (Or.inr gh_aP_2) (allS (Or.inr gh_aK_2) all0)))))))))))
      have N200 := Fr.app Nj161 N200q
      have f203 := (J161_26.keep K200 (ninS nx0 (ninS nx5 (ninS nx6 (ninS nx7 (ninS nx1 (ninS nx2 (ninS nx3 (ninS nx8 (ninS nx10 (ninS nx11 (ninS nx4 nin0))))))))))))
      obtain ⟨cl202, Ar202, q202, S202, Nn202, H202, G202⟩ := id f203
      have hin202 : ¬ ((((p0.toUInt32 >>> ((6 : Int32) &&& 31).toUInt32).toInt32) &&& (3 : Int32)) < 0 ∨ cl202.slots.size ≤ ((((p0.toUInt32 >>> ((6 : Int32) &&& 31).toUInt32).toInt32) &&& (3 : Int32))).toNatClampNeg) := inb_of S202 (own_in4 (own_and3 _))
      obtain ⟨T202, h202, X202, e202, W202, st202⟩ := stZ X200 hx hZ rfl Ar202 (j := (((p0.toUInt32 >>> ((6 : Int32) &&& 31).toUInt32).toInt32) &&& (3 : Int32))) hin202 (g := (mkF m 143 #[.val (.int p0), .val (.long p1), .second, .val (.long p2), .second, .val (.long p3), .second, .val (.long p4), .second, .val (.ref fa1), .val (.ref fa3), .val (.int (((p0.toUInt32 >>> ((6 : Int32) &&& 31).toUInt32).toInt32) &&& (3 : Int32)))] [(.int (1 : Int32)), (.int (((p0.toUInt32 >>> ((6 : Int32) &&& 31).toUInt32).toInt32) &&& (3 : Int32))), (.ref fa3)])) rfl rfl (D at_143)
      have V202 : Arv Z h202 fa3 fk3 .boolean (4 : Int32) [(.int (s4 (((p0.toUInt32 >>> ((6 : Int32) &&& 31).toUInt32).toInt32) &&& (3 : Int32)) 0 (1 : Int32) jm0_161)), (.int (s4 (((p0.toUInt32 >>> ((6 : Int32) &&& 31).toUInt32).toInt32) &&& (3 : Int32)) 1 (1 : Int32) jm1_161)), (.int (s4 (((p0.toUInt32 >>> ((6 : Int32) &&& 31).toUInt32).toInt32) &&& (3 : Int32)) 2 (1 : Int32) jm2_161)), (.int (s4 (((p0.toUInt32 >>> ((6 : Int32) &&& 31).toUInt32).toInt32) &&& (3 : Int32)) 3 (1 : Int32) jm3_161))] (.int (0 : Int32)) := own_set4 (w := (1 : Int32)) Ar202 q202 S202 Nn202 H202 G202 rfl W202 (own_and3 _)
      have N202 := Fr.snoc X202 N200 gn_fa3
      have Zn202 : n0 ≤ h202.size := Nat.le_trans (own_oldsz O200) (Keep.of_wr W202).1
      have K202 : Keep h0 h202 [] := KK200.wr W202 (Or.inr gh_fa3)
      have O202 := O200.wr W202 gn_fa3
      have cs204 : Steps p.tables e below (s₁.setTop (mkF m 0 #[.val (.int p0), .val (.long p1), .second, .val (.long p2), .second, .val (.long p3), .second, .val (.long p4), .second, .unset, .unset, .unset] [])) (T202.setTop (mkF m 144 #[.val (.int p0), .val (.long p1), .second, .val (.long p2), .second, .val (.long p3), .second, .val (.long p4), .second, .val (.ref fa1), .val (.ref fa3), .val (.int (((p0.toUInt32 >>> ((6 : Int32) &&& 31).toUInt32).toInt32) &&& (3 : Int32)))] [])) := cs197.trans (by
        refine s_ifNo Xj161 hx (D at_114) ((if0 _ _).trans (feq hc198).1) ?_
        refine s_iloadN Xj161 hx (D at_117) rfl ?_
        refine s_bipush Xj161 hx (6 : Int32) (D at_118) rfl ?_
        refine s_iushr Xj161 hx (D at_120) rfl ?_
        refine s_iconst Xj161 hx (3 : Int32) (D at_121) rfl ?_
        refine s_iand Xj161 hx (D at_122) rfl ?_
        refine s_istore Xj161 hx (D at_123) (l' := #[.val (.int p0), .val (.long p1), .second, .val (.long p2), .second, .val (.long p3), .second, .val (.long p4), .second, .val (.ref fa1), .val (.ref fa3), .val (.int (((p0.toUInt32 >>> ((6 : Int32) &&& 31).toUInt32).toInt32) &&& (3 : Int32)))]) (by rcases Jp161_1 with h | ⟨a, h⟩ <;> subst h <;> rfl) ?_
        refine s_aload Xj161 hx (D at_125) rfl rfl ?_
        refine s_iload Xj161 hx (D at_127) rfl ?_
        refine s_lload Xj161 hx (D at_129) rfl ?_
        refine Xj161.ldc2Long hx hown (mvT hZ (wd 61 rfl)) (g := (mkF m 131 #[.val (.int p0), .val (.long p1), .second, .val (.long p2), .second, .val (.long p3), .second, .val (.long p4), .second, .val (.ref fa1), .val (.ref fa3), .val (.int (((p0.toUInt32 >>> ((6 : Int32) &&& 31).toUInt32).toInt32) &&& (3 : Int32)))] [(.long p4), (.int (((p0.toUInt32 >>> ((6 : Int32) &&& 31).toUInt32).toInt32) &&& (3 : Int32))), (.ref fa1)])) rfl (D at_131) _ ?_
        refine s_land Xj161 hx (D at_134) rfl ?_
        refine st200.trans ?_
        refine s_aload X200 hx (D at_138) rfl rfl ?_
        refine s_iload X200 hx (D at_140) rfl ?_
        refine s_iconst X200 hx (1 : Int32) (D at_142) rfl ?_
        refine st202 _ ?_
        exact Steps.refl _)
      have f205 := ((J161_0.keep K200).wr W202)
      have f206 := (Q200_0.other W202 (Or.inl (Ne.symm nx0)))
      have f207 := (Q200_1.other W202 (Or.inl (Ne.symm nx0)))
      have f208 := (Q200_2.other W202 (Or.inl (Ne.symm nx0)))
      have f209 := (Q200_3.other W202 (Or.inl (Ne.symm nx0)))
      have f210 := (Q200_4.other W202 (Or.inl (Ne.symm nx0)))
      have f211 := (Q200_5.other W202 (Or.inl (Ne.symm nx0)))
      have f212 := (Q200_6.other W202 (Or.inl (Ne.symm nx0)))
      have f213 := (Q200_7.other W202 (Or.inl (Ne.symm nx0)))
      have f214 := (Q200_8.other W202 (Or.inl (Ne.symm nx0)))
      have f215 := (Q200_9.other W202 (Or.inl (Ne.symm nx0)))
      have f216 := (Q200_10.other W202 (Ne.symm nx4))
      have f217 := (Q200_11.other W202 (Ne.symm nx5))
      have f218 := (Q200_12.other W202 (Ne.symm nx6))
      have f219 := (Q200_13.other W202 (Ne.symm nx7))
      have f220 := (Q200_14.other W202 (Ne.symm nx1))
      have f221 := (Q200_15.other W202 (Ne.symm nx2))
      have f222 := (Q200_16.other W202 (Ne.symm nx3))
      have f223 := ((J161_18.keep K200).wr W202)
      have f224 := (Q200_17.other W202 (Or.inl (Ne.symm nx8)))
      have f225 := (Q200_18.other W202 (Or.inl (Ne.symm nx8)))
      have f226 := (Q200_19.other W202 (Or.inl (Ne.symm nx8)))
      have f227 := (Q200_20.other W202 (Or.inl (Ne.symm nx8)))
      have f228 := (Q200_21.other W202 (Ne.symm nx10))
      have f229 := (Q200_22.other W202 (Ne.symm nx11))
      have f230 := ((J161_25.keep K200 (nn91 Q2_25)).other W202 (Ne.symm nx9))
      exact ⟨vb__200, vz__200, ve0_200, ve1_200, ve2_200, ve3_200, vp0_200, vp1_200, vp2_200, vp3_200, vi0_200, vi1_200, vi2_200, vi3_200, (s4 (((p0.toUInt32 >>> ((6 : Int32) &&& 31).toUInt32).toInt32) &&& (3 : Int32)) 0 (1 : Int32) jm0_161), (s4 (((p0.toUInt32 >>> ((6 : Int32) &&& 31).toUInt32).toInt32) &&& (3 : Int32)) 1 (1 : Int32) jm1_161), (s4 (((p0.toUInt32 >>> ((6 : Int32) &&& 31).toUInt32).toInt32) &&& (3 : Int32)) 2 (1 : Int32) jm2_161), (s4 (((p0.toUInt32 >>> ((6 : Int32) &&& 31).toUInt32).toInt32) &&& (3 : Int32)) 3 (1 : Int32) jm3_161), _, T202, _, _, X202, e202, N202, K202, O202, f205, f206, f207, f208, f209, f210, f211, f212, f213, f214, f215, f216, f217, f218, f219, f220, f221, f222, f223, f224, f225, f226, f227, f228, f229, f230, V202, Q200_23, (Or.inr ⟨_, rfl⟩), cs204⟩
  obtain ⟨jb_196, jz_196, je0_196, je1_196, je2_196, je3_196, jp0_196, jp1_196, jp2_196, jp3_196, ji0_196, ji1_196, ji2_196, ji3_196, jm0_196, jm1_196, jm2_196, jm3_196, zs11_196, Tj196, Lj196, hj196, Xj196, ej196, Nj196, Kj196, Oj196, J196_0, J196_1, J196_2, J196_3, J196_4, J196_5, J196_6, J196_7, J196_8, J196_9, J196_10, J196_11, J196_12, J196_13, J196_14, J196_15, J196_16, J196_17, J196_18, J196_19, J196_20, J196_21, J196_22, J196_23, J196_24, J196_25, J196_26, Jp196_0, Jp196_1, cj196⟩ := jn196
  obtain ⟨cq231, kq231, q231a, q231b, q231c⟩ := isOf hZ ej196 J196_0
  obtain ⟨_, _, ⟨T231, L231, k231, n231⟩, -, X231, ⟨Lc231, hQ231, l231, y231, z231⟩, st231⟩ := Xj196.virtualBack hx (y := (⟨"com/example/leasewise/leasewise/KilometreQueue", "contains", "(I)Z"⟩ : MethodName)) (z := (⟨"com/example/leasewise/leasewise/KilometreQueue", "contains", "(I)Z"⟩ : MethodName)) hown (mvT hZ (wd 51 rfl)) (mvT hZ (wd 52 rfl)) (notFace_of_selects (args := #[]) (mvT hZ (wd 54 rfl))) (mvT hZ (wd 54 rfl)) (mvT hZ (wd 53 rfl)) (by decide) (own_backH (W := 0) (rm_kcontains l Z a0 hw [] fa1 (0 : Int32) aF_2 aO_2 aW_2 aK_2 aB_2 aA_2 aI_2 hp_2 lo_2 aE_2 aP_2 kI_2 kE_2 kP_2 jb_196 ji0_196 ji1_196 ji2_196 ji3_196 jz_196 je0_196 je1_196 je2_196 je3_196 jp0_196 jp1_196 jp2_196 jp3_196 jm0_196 jm1_196 jm2_196 jm3_196 hj196 n0 Oj196 J196_0 J196_1 J196_2 J196_3 J196_4 J196_5 J196_6 J196_7 J196_8 J196_9 J196_10 J196_14 J196_18 J196_19 J196_20 J196_21 J196_22 J196_23 J196_24 Jp196_0 own_i0) hZH (wd 55 rfl) (wd 2 rfl) (by decide) (by decide)) q231a q231c (g := (mkF m 147 #[.val (.int p0), .val (.long p1), .second, .val (.long p2), .second, .val (.long p3), .second, .val (.long p4), .second, .val (.ref fa1), .val (.ref fa3), zs11_196] [(.int (0 : Int32)), (.ref fa1)])) rfl (by rw [hml]; rfl) (Steps.refl _) (argsL := [(.int (0 : Int32))]) (rest := []) (lenOf pd_2 rfl) rfl (by show 2 * 0 + _ ≤ _; exact Nat.le_of_eq rfl) (D at_147) (fun _ _ => ⟨rfl, ej196, (by decide : 13 + 0 ≤ _), (by decide : 66619 + 0 ≤ _)⟩)
  dsimp only [Pt.U, Pt.locs, Pt.cells, Pt.slots] at X231 l231 y231 z231 st231 hQ231
  subst l231 y231 z231
  obtain ⟨rfl, N231q, e231⟩ := hQ231
  have N231 := Fr.app Nj196 N231q
  obtain ⟨cl232, Ar232, q232, S232, Nn232, H232, G232⟩ := id J196_26
  have hin232 : ¬ ((0 : Int32) < 0 ∨ cl232.slots.size ≤ ((0 : Int32)).toNatClampNeg) := inb_of S232 ⟨by decide, by decide⟩
  obtain ⟨cq233, kq233, q233a, q233b, q233c⟩ := isOf hZ e231 J196_0
  obtain ⟨_, _, ⟨T233, L233, k233, n233⟩, -, X233, ⟨Lc233, hQ233, l233, y233, z233⟩, st233⟩ := X231.virtualBack hx (y := (⟨"com/example/leasewise/leasewise/KilometreQueue", "contains", "(I)Z"⟩ : MethodName)) (z := (⟨"com/example/leasewise/leasewise/KilometreQueue", "contains", "(I)Z"⟩ : MethodName)) hown (mvT hZ (wd 51 rfl)) (mvT hZ (wd 52 rfl)) (notFace_of_selects (args := #[]) (mvT hZ (wd 54 rfl))) (mvT hZ (wd 54 rfl)) (mvT hZ (wd 53 rfl)) (by decide) (own_backH (W := 0) (rm_kcontains l Z a0 hw [] fa1 (1 : Int32) aF_2 aO_2 aW_2 aK_2 aB_2 aA_2 aI_2 hp_2 lo_2 aE_2 aP_2 kI_2 kE_2 kP_2 jb_196 ji0_196 ji1_196 ji2_196 ji3_196 jz_196 je0_196 je1_196 je2_196 je3_196 jp0_196 jp1_196 jp2_196 jp3_196 jm0_196 jm1_196 jm2_196 jm3_196 hj196 n0 Oj196 J196_0 J196_1 J196_2 J196_3 J196_4 J196_5 J196_6 J196_7 J196_8 J196_9 J196_10 J196_14 J196_18 J196_19 J196_20 J196_21 J196_22 J196_23 J196_24 Jp196_0 own_i1) hZH (wd 55 rfl) (wd 2 rfl) (by decide) (by decide)) q233a q233c (g := (mkF m 160 #[.val (.int p0), .val (.long p1), .second, .val (.long p2), .second, .val (.long p3), .second, .val (.long p4), .second, .val (.ref fa1), .val (.ref fa3), zs11_196] [(.int (1 : Int32)), (.ref fa1)])) rfl (by rw [hml]; rfl) (Steps.refl _) (argsL := [(.int (1 : Int32))]) (rest := []) (lenOf pd_2 rfl) rfl (by show 2 * 0 + _ ≤ _; exact Nat.le_of_eq rfl) (D at_160) (fun _ _ => ⟨rfl, e231, (by decide : 13 + 0 ≤ _), (by decide : 66619 + 0 ≤ _)⟩)
  dsimp only [Pt.U, Pt.locs, Pt.cells, Pt.slots] at X233 l233 y233 z233 st233 hQ233
  subst l233 y233 z233
  obtain ⟨rfl, N233q, e233⟩ := hQ233
  have N233 := Fr.app N231 N233q
  obtain ⟨cl234, Ar234, q234, S234, Nn234, H234, G234⟩ := id J196_26
  have hin234 : ¬ ((1 : Int32) < 0 ∨ cl234.slots.size ≤ ((1 : Int32)).toNatClampNeg) := inb_of S234 ⟨by decide, by decide⟩
  obtain ⟨cq235, kq235, q235a, q235b, q235c⟩ := isOf hZ e233 J196_0
  obtain ⟨_, _, ⟨T235, L235, k235, n235⟩, -, X235, ⟨Lc235, hQ235, l235, y235, z235⟩, st235⟩ := X233.virtualBack hx (y := (⟨"com/example/leasewise/leasewise/KilometreQueue", "contains", "(I)Z"⟩ : MethodName)) (z := (⟨"com/example/leasewise/leasewise/KilometreQueue", "contains", "(I)Z"⟩ : MethodName)) hown (mvT hZ (wd 51 rfl)) (mvT hZ (wd 52 rfl)) (notFace_of_selects (args := #[]) (mvT hZ (wd 54 rfl))) (mvT hZ (wd 54 rfl)) (mvT hZ (wd 53 rfl)) (by decide) (own_backH (W := 0) (rm_kcontains l Z a0 hw [] fa1 (2 : Int32) aF_2 aO_2 aW_2 aK_2 aB_2 aA_2 aI_2 hp_2 lo_2 aE_2 aP_2 kI_2 kE_2 kP_2 jb_196 ji0_196 ji1_196 ji2_196 ji3_196 jz_196 je0_196 je1_196 je2_196 je3_196 jp0_196 jp1_196 jp2_196 jp3_196 jm0_196 jm1_196 jm2_196 jm3_196 hj196 n0 Oj196 J196_0 J196_1 J196_2 J196_3 J196_4 J196_5 J196_6 J196_7 J196_8 J196_9 J196_10 J196_14 J196_18 J196_19 J196_20 J196_21 J196_22 J196_23 J196_24 Jp196_0 own_i2) hZH (wd 55 rfl) (wd 2 rfl) (by decide) (by decide)) q235a q235c (g := (mkF m 173 #[.val (.int p0), .val (.long p1), .second, .val (.long p2), .second, .val (.long p3), .second, .val (.long p4), .second, .val (.ref fa1), .val (.ref fa3), zs11_196] [(.int (2 : Int32)), (.ref fa1)])) rfl (by rw [hml]; rfl) (Steps.refl _) (argsL := [(.int (2 : Int32))]) (rest := []) (lenOf pd_2 rfl) rfl (by show 2 * 0 + _ ≤ _; exact Nat.le_of_eq rfl) (D at_173) (fun _ _ => ⟨rfl, e233, (by decide : 13 + 0 ≤ _), (by decide : 66619 + 0 ≤ _)⟩)
  dsimp only [Pt.U, Pt.locs, Pt.cells, Pt.slots] at X235 l235 y235 z235 st235 hQ235
  subst l235 y235 z235
  obtain ⟨rfl, N235q, e235⟩ := hQ235
  have N235 := Fr.app N233 N235q
  obtain ⟨cl236, Ar236, q236, S236, Nn236, H236, G236⟩ := id J196_26
  have hin236 : ¬ ((2 : Int32) < 0 ∨ cl236.slots.size ≤ ((2 : Int32)).toNatClampNeg) := inb_of S236 ⟨by decide, by decide⟩
  obtain ⟨cq237, kq237, q237a, q237b, q237c⟩ := isOf hZ e235 J196_0
  obtain ⟨_, _, ⟨T237, L237, k237, n237⟩, -, X237, ⟨Lc237, hQ237, l237, y237, z237⟩, st237⟩ := X235.virtualBack hx (y := (⟨"com/example/leasewise/leasewise/KilometreQueue", "contains", "(I)Z"⟩ : MethodName)) (z := (⟨"com/example/leasewise/leasewise/KilometreQueue", "contains", "(I)Z"⟩ : MethodName)) hown (mvT hZ (wd 51 rfl)) (mvT hZ (wd 52 rfl)) (notFace_of_selects (args := #[]) (mvT hZ (wd 54 rfl))) (mvT hZ (wd 54 rfl)) (mvT hZ (wd 53 rfl)) (by decide) (own_backH (W := 0) (rm_kcontains l Z a0 hw [] fa1 (3 : Int32) aF_2 aO_2 aW_2 aK_2 aB_2 aA_2 aI_2 hp_2 lo_2 aE_2 aP_2 kI_2 kE_2 kP_2 jb_196 ji0_196 ji1_196 ji2_196 ji3_196 jz_196 je0_196 je1_196 je2_196 je3_196 jp0_196 jp1_196 jp2_196 jp3_196 jm0_196 jm1_196 jm2_196 jm3_196 hj196 n0 Oj196 J196_0 J196_1 J196_2 J196_3 J196_4 J196_5 J196_6 J196_7 J196_8 J196_9 J196_10 J196_14 J196_18 J196_19 J196_20 J196_21 J196_22 J196_23 J196_24 Jp196_0 own_i3) hZH (wd 55 rfl) (wd 2 rfl) (by decide) (by decide)) q237a q237c (g := (mkF m 186 #[.val (.int p0), .val (.long p1), .second, .val (.long p2), .second, .val (.long p3), .second, .val (.long p4), .second, .val (.ref fa1), .val (.ref fa3), zs11_196] [(.int (3 : Int32)), (.ref fa1)])) rfl (by rw [hml]; rfl) (Steps.refl _) (argsL := [(.int (3 : Int32))]) (rest := []) (lenOf pd_2 rfl) rfl (by show 2 * 0 + _ ≤ _; exact Nat.le_of_eq rfl) (D at_186) (fun _ _ => ⟨rfl, e235, (by decide : 13 + 0 ≤ _), (by decide : 66619 + 0 ≤ _)⟩)
  dsimp only [Pt.U, Pt.locs, Pt.cells, Pt.slots] at X237 l237 y237 z237 st237 hQ237
  subst l237 y237 z237
  obtain ⟨rfl, N237q, e237⟩ := hQ237
  have N237 := Fr.app N235 N237q
  obtain ⟨cl238, Ar238, q238, S238, Nn238, H238, G238⟩ := id J196_26
  have hin238 : ¬ ((3 : Int32) < 0 ∨ cl238.slots.size ≤ ((3 : Int32)).toNatClampNeg) := inb_of S238 ⟨by decide, by decide⟩
  obtain ⟨fs, hr, hrun, hended, hW, hsame⟩ := X237.leave (v := some (.int (1 : Int32))) (fun h => by rw [Bd.returns] at h; cases h)
  refine ⟨_, _, pre0 _ ?_, hrun, hended, _, _, rfl, ?_, ⟨_, rfl⟩, hW, hsame.mono (by decide) (by decide)⟩
  · refine cj196.trans ?_
    refine s_aload Xj196 hx (D at_144) rfl rfl ?_
    refine s_iconst Xj196 hx (0 : Int32) (D at_146) rfl ?_
    refine st231.trans ?_
    refine s_aload X231 hx (D at_150) rfl rfl ?_
    refine s_iconst X231 hx (0 : Int32) (D at_152) rfl ?_
    refine X231.baloadBooleans hx (j := (0 : Int32)) (v := (.int jm0_196)) (by rw [e231]; exact (Ar232).1) (State.isArrayOf_alike hZ.alike (Ar232).2.1) (Ar232).2.2 hin232 (H232.at hin232 rfl) (g := (mkF m 153 #[.val (.int p0), .val (.long p1), .second, .val (.long p2), .second, .val (.long p3), .second, .val (.long p4), .second, .val (.ref fa1), .val (.ref fa3), zs11_196] [(.int (0 : Int32)), (.ref fa3), (.int (g4 (0 : Int32) jm0_196 jm1_196 jm2_196 jm3_196))])) rfl rfl (D at_153) _ ?_
    refine s_icmpNo X231 hx (D at_154) (teq (own_g0 _ _ _ _ : (g4 (0 : Int32) jm0_196 jm1_196 jm2_196 jm3_196) = jm0_196)).2 ?_
    refine s_aload X231 hx (D at_157) rfl rfl ?_
    refine s_iconst X231 hx (1 : Int32) (D at_159) rfl ?_
    refine st233.trans ?_
    refine s_aload X233 hx (D at_163) rfl rfl ?_
    refine s_iconst X233 hx (1 : Int32) (D at_165) rfl ?_
    refine X233.baloadBooleans hx (j := (1 : Int32)) (v := (.int jm1_196)) (by rw [e233]; exact (Ar234).1) (State.isArrayOf_alike hZ.alike (Ar234).2.1) (Ar234).2.2 hin234 (H234.at hin234 rfl) (g := (mkF m 166 #[.val (.int p0), .val (.long p1), .second, .val (.long p2), .second, .val (.long p3), .second, .val (.long p4), .second, .val (.ref fa1), .val (.ref fa3), zs11_196] [(.int (1 : Int32)), (.ref fa3), (.int (g4 (1 : Int32) jm0_196 jm1_196 jm2_196 jm3_196))])) rfl rfl (D at_166) _ ?_
    refine s_icmpNo X233 hx (D at_167) (teq (own_g1 _ _ _ _ : (g4 (1 : Int32) jm0_196 jm1_196 jm2_196 jm3_196) = jm1_196)).2 ?_
    refine s_aload X233 hx (D at_170) rfl rfl ?_
    refine s_iconst X233 hx (2 : Int32) (D at_172) rfl ?_
    refine st235.trans ?_
    refine s_aload X235 hx (D at_176) rfl rfl ?_
    refine s_iconst X235 hx (2 : Int32) (D at_178) rfl ?_
    refine X235.baloadBooleans hx (j := (2 : Int32)) (v := (.int jm2_196)) (by rw [e235]; exact (Ar236).1) (State.isArrayOf_alike hZ.alike (Ar236).2.1) (Ar236).2.2 hin236 (H236.at hin236 rfl) (g := (mkF m 179 #[.val (.int p0), .val (.long p1), .second, .val (.long p2), .second, .val (.long p3), .second, .val (.long p4), .second, .val (.ref fa1), .val (.ref fa3), zs11_196] [(.int (2 : Int32)), (.ref fa3), (.int (g4 (2 : Int32) jm0_196 jm1_196 jm2_196 jm3_196))])) rfl rfl (D at_179) _ ?_
    refine s_icmpNo X235 hx (D at_180) (teq (own_g2 _ _ _ _ : (g4 (2 : Int32) jm0_196 jm1_196 jm2_196 jm3_196) = jm2_196)).2 ?_
    refine s_aload X235 hx (D at_183) rfl rfl ?_
    refine s_iconst X235 hx (3 : Int32) (D at_185) rfl ?_
    refine st237.trans ?_
    refine s_aload X237 hx (D at_189) rfl rfl ?_
    refine s_iconst X237 hx (3 : Int32) (D at_191) rfl ?_
    refine X237.baloadBooleans hx (j := (3 : Int32)) (v := (.int jm3_196)) (by rw [e237]; exact (Ar238).1) (State.isArrayOf_alike hZ.alike (Ar238).2.1) (Ar238).2.2 hin238 (H238.at hin238 rfl) (g := (mkF m 192 #[.val (.int p0), .val (.long p1), .second, .val (.long p2), .second, .val (.long p3), .second, .val (.long p4), .second, .val (.ref fa1), .val (.ref fa3), zs11_196] [(.int (3 : Int32)), (.ref fa3), (.int (g4 (3 : Int32) jm0_196 jm1_196 jm2_196 jm3_196))])) rfl rfl (D at_192) _ ?_
    refine s_icmpNo X237 hx (D at_193) (teq (own_g3 _ _ _ _ : (g4 (3 : Int32) jm0_196 jm1_196 jm2_196 jm3_196) = jm3_196)).2 ?_
    refine s_iconst X237 hx (1 : Int32) (D at_196) rfl ?_
    refine s_goto X237 hx 201 (D at_197) (of_decide_eq_true rfl) rfl ?_
    exact retN X237 hx (t := .boolean) Bd.returns (by simp) (D at_201) hr
  · show Q_rm0 Z p0 p1 p2 p3 p4 h0 n0 _ T237.heap _
    rw [e237]
    exact ⟨rfl, N237, Kj196⟩
set_option maxRecDepth 65536 in
set_option maxHeartbeats 40000000 in
theorem comes_1 {Post : Tables → Env → Array Value → State → Outcome → State → Prop} (hpost : ∀ tb e args s v u, (limb_1_1.after args s (.returned v) u = true ∧ limb_1_2.after args s (.returned v) u = true ∧ True) → FrameEnd s (.returned v) u (Jvm.fieldLocs frame_1_writes args s ++ Jvm.arrayLocs frame_1_arrays args s ++ Jvm.staticLocs frame_1_statics s) 40 133312 → Post tb e args s (.returned v) u) :
    ArmFor flags0 classFile x code maxLocals ret World_1 tables_1 room_1 Calls_1 rest_1 Pre_1 Post := by
  intro l hfl _ _ p e ha hc hk s m args below hf hA hF happ hP
  obtain ⟨hcalls, hrest, hpre⟩ := hP
  obtain ⟨-, -, -, hnamed, -, -, -, hat⟩ := (Spec.applies_iff hf).mp happ
  obtain ⟨hg, hn⟩ := and_e (Cond.before_iff.mp (show (Jvm.Cond.and given_1 narrow_1).before args s = true from hpre))
  obtain ⟨hg1a, hg1b⟩ := and_e hg
  obtain ⟨hg2a, hg2b⟩ := and_e hg1b
  obtain ⟨hg3a, hg3b⟩ := and_e hg2b
  obtain ⟨hg4a, hg4b⟩ := and_e hg3b
  obtain ⟨hg5a, hg5b⟩ := and_e hg4b
  obtain ⟨w0, w1, w2, w3, w4, rfl⟩ : ∃ w0 w1 w2 w3 w4 : Value, args = #[w0, w1, w2, w3, w4] := by
    have hs : args.size = 5 := by simpa [Cond.value, given_1] using hg1a
    obtain ⟨L⟩ := args
    match L, hs with
    | [w0, w1, w2, w3, w4], _ => exact ⟨w0, w1, w2, w3, w4, rfl⟩
  have hw := fun d (hd : d ∈ tables_1) => atoms_spec (ws := Jvm.Cond.code x code maxLocals ret :: tables_1) hat d (List.mem_cons_of_mem _ hd)
  have hfit : Fit s := fun {y c} hc i hi => by
    obtain ⟨ha, rfl⟩ := Array.getElem?_eq_some_iff.mp hc
    have q := List.all_eq_true.mp ((Array.all_eq_true_iff_forall_mem.mp hF) _ (Array.getElem_mem ha)) i (List.mem_range.mpr hi)
    simpa [Array.getElem?_eq_getElem hi] using q
  obtain ⟨i0, ei0⟩ := is_v hg2a
  obtain rfl : w0 = (.int i0) := Option.some.inj ei0
  obtain ⟨i1, ei1⟩ := isL_v hg3a
  obtain rfl : w1 = (.long i1) := Option.some.inj ei1
  obtain ⟨i2, ei2⟩ := isL_v hg4a
  obtain rfl : w2 = (.long i2) := Option.some.inj ei2
  obtain ⟨i3, ei3⟩ := isL_v hg5a
  obtain rfl : w3 = (.long i3) := Option.some.inj ei3
  obtain ⟨i4, ei4⟩ := isL_v hg5b
  obtain rfl : w4 = (.long i4) := Option.some.inj ei4
  obtain ⟨n, o, h1, h2, h3, _, L, rfl, ⟨rfl, N, -⟩, hq⟩ := rm0 l s _ hw tables_1 i0 i1 i2 i3 i4 s.heap s.heap.size (Old.start s) p e ha hc hk s m _ below hf ((Spec.applies_iff_loose hf).mp happ).1 ⟨rfl, State.WarmedH.refl s, rfl⟩ trivial
  refine ⟨n, _, h1, h2, h3, hpost _ _ _ _ _ _ ⟨Cond.after_iff.mpr rfl, Cond.after_iff.mpr (eq_i res_at (Term.int_eval (1)) rfl), trivial⟩ ⟨hq.1, hq.2.1, (hq.2.2.sift fun y hy => Or.inr (N y hy)).mono (by decide) (by decide)⟩⟩
theorem main_1_1 : Claimed_1_1 := comes_1 fun _ _ _ _ _ _ h hF => ⟨h.1, Jvm.LamKit.wideOf hF⟩
theorem main_1_2 : Claimed_1_2 := comes_1 fun _ _ _ _ _ _ h hF => ⟨h.2.1, Jvm.LamKit.wideOf hF⟩
end Jvm.Pilot.@@N@@
namespace Jvm.Pilot.@@N@@
open Jvm Jvm.ClassFile Sem Op Lib Jvm.Free Jvm.Stand Jvm.Pilot.@@N@@.Jvm.D
/-! MADE BY PROGRAM (witnessworld.py) out of the Statement's table words and the real class files: 17 classes; the members and pool entries that the words name. The judged class is class 1, her method 1. -/
namespace start1
open Jvm.ClassFile
def u (s : String) : CpInfo := .utf8 (stringToUtf16 s)
/-- a pool by its gaps: so many unusable entries, then the entry; so many at the end -/
def gap : Nat → List CpInfo → List CpInfo
  | 0, r => r
  | n + 1, r => .unusable :: gap n r
def poolList (es : List (Nat × CpInfo)) (last : Nat) : List CpInfo := es.foldr (fun e r => gap e.1 (e.2 :: r)) (gap last [])
def pool (es : List (Nat × CpInfo)) (last : Nat) : Array CpInfo := ⟨poolList es last⟩
def fileOf (pool : Array CpInfo) (this : Nat) (attrs : Array Attribute := #[]) (ms : Array MethodInfo := #[]) (fl : Nat := 33) (sup : Nat := 0) (ifs : Array Nat := #[]) (fds : Array FieldInfo := #[]) : ClassFile where
  minorVersion := 0
  majorVersion := 65
  constantPool := pool
  accessFlags := fl
  thisClass := this
  superClass := sup
  interfaces := ifs
  fields := fds
  methods := ms
  attributes := attrs
def plain (name : String) (sup : Option ClassId) : Class where
  name := name
  kind := .ordinary
  loader := none
  accessFlags := 33
  super := sup
  interfaces := #[]
  cf := none
  fields := #[]
  methods := #[]
  instanceTypes := #[]
  staticTypes := #[]
  resolved := #[]
  callSites := []
  init := .initialized
  statics := none
  mirror := none

def pool0 : Array CpInfo := pool [(5, u "<init>"), (0, u "()V"), (1, .class_ 10), (1, u "java/lang/Object")] 113

def k0c0 : Code := { maxStack := 0, maxLocals := 1, code := object_method_1_code, exceptionTable := #[], attributes := #[] }
def k0m0 : Method := { name := "<init>", desc := "()V", sig := { parameters := [], returnType := none }, accessFlags := 1, code := some k0c0 }
/-- java/lang/Object -/
def k0 : Class := { plain "java/lang/Object" none with
  accessFlags := 33
  interfaces := #[]
  cf := some (fileOf pool0 8 #[] #[{ accessFlags := 1, nameIndex := 5, descriptorIndex := 6, attributes := #[] }] 33 0 #[] #[])
  fields := #[]
  methods := #[k0m0]
  instanceTypes := #[]
  staticTypes := #[]
  resolved := Array.replicate 124 none
  statics := none }

def pool1 : Array CpInfo := pool [(2, .class_ 4), (1, u "java/lang/Object"), (0, u "<init>"), (0, u "()V"), (0, .class_ 8), (0, u "com/example/leasewise/leasewise/KilometreQueue"), (0, .methodref 7 10), (0, .nameAndType 5 11), (0, u "(I)V"), (2, .long 9223372036854775807), (1, .methodref 7 17), (0, .nameAndType 18 19), (0, u "put"), (0, u "(IJ)V"), (0, .methodref 7 21), (0, .nameAndType 22 11), (0, u "remove"), (0, .methodref 7 24), (0, .nameAndType 25 26), (0, u "contains"), (0, u "(I)Z"), (0, .class_ 28), (0, u "com/example/leasewise/leasewise/KilometreQueueContainsPinLaw"), (2, u "law"), (0, u "(IJJJJ)Z")] 5

def k1m0 : Method := { name := "<init>", desc := "()V", sig := { parameters := [], returnType := none }, accessFlags := 1, code := none }
def k1c1 : Code := { maxStack := 6, maxLocals := 12, code := code, exceptionTable := #[], attributes := #[] }
def k1m1 : Method := { name := "law", desc := "(IJJJJ)Z", sig := { parameters := [.int, .long, .long, .long, .long], returnType := some .boolean }, accessFlags := 9, code := some k1c1 }
/-- com/example/leasewise/leasewise/KilometreQueueContainsPinLaw -/
def k1 : Class := { plain "com/example/leasewise/leasewise/KilometreQueueContainsPinLaw" (some 0) with
  accessFlags := 49
  interfaces := #[]
  cf := some (fileOf pool1 27 #[] #[{ accessFlags := 1, nameIndex := 5, descriptorIndex := 6, attributes := #[] }, { accessFlags := 9, nameIndex := 31, descriptorIndex := 32, attributes := #[] }] 49 2 #[] #[])
  fields := #[]
  methods := #[k1m0, k1m1]
  instanceTypes := #[]
  staticTypes := #[]
  resolved := Array.replicate 38 none
  statics := none }

def pool2 : Array CpInfo := pool [(1, .class_ 2), (0, u "com/example/leasewise/leasewise/KilometreQueue"), (0, .methodref 4 5), (0, .class_ 6), (0, .nameAndType 7 8), (0, u "java/lang/Object"), (0, u "<init>"), (0, u "()V"), (0, .integer 65536), (0, .fieldref 1 11), (0, .nameAndType 12 13), (0, u "firsts"), (0, u "[I"), (2, .fieldref 1 17), (0, .nameAndType 18 19), (0, u "occupied"), (0, u "[J"), (0, .fieldref 1 21), (0, .nameAndType 22 19), (0, u "occupiedWords"), (0, .fieldref 1 24), (0, .nameAndType 25 19), (0, u "keys"), (0, .fieldref 1 27), (0, .nameAndType 28 13), (0, u "before"), (0, .fieldref 1 30), (0, .nameAndType 31 13), (0, u "after"), (0, .fieldref 1 33), (0, .nameAndType 34 35), (0, u "inBucket"), (0, u "[Z"), (0, .methodref 37 38), (0, .class_ 39), (0, .nameAndType 40 41), (0, u "java/util/Arrays"), (0, u "fill"), (0, u "([II)V"), (0, .class_ 43), (0, u "com/example/leasewise/leasewise/IndexedHeap"), (0, .invokeDynamic 0 45), (0, .nameAndType 28 46), (0, u "(Lcom/example/leasewise/leasewise/KilometreQueue;)Lcom/example/leasewise/leasewise/IndexedHeap$Order;"), (0, .methodref 42 48), (0, .nameAndType 7 49), (0, u "(ILcom/example/leasewise/leasewise/IndexedHeap$Order;)V"), (0, .fieldref 1 51), (0, .nameAndType 52 53), (0, u "further"), (0, u "Lcom/example/leasewise/leasewise/IndexedHeap;"), (0, .fieldref 1 55), (0, .nameAndType 56 57), (0, u "bucketed"), (0, u "I"), (4, .methodref 42 63), (0, .nameAndType 64 65), (0, u "contains"), (0, u "(I)Z"), (0, .fieldref 1 67), (0, .nameAndType 68 69), (0, u "floor"), (0, u "J"), (9, .methodref 1 80), (0, .nameAndType 81 82), (0, u "remove"), (0, u "(I)V"), (0, .long 65536), (1, .methodref 1 86), (0, .nameAndType 87 82), (0, u "link"), (0, .methodref 42 89), (0, .nameAndType 90 82), (0, u "put"), (0, .methodref 1 92), (0, .nameAndType 93 82), (0, u "unlink"), (0, .methodref 42 80), (22, .long 65535), (5, .long 18446744073709551615), (8, u "SPAN"), (1, u "BUCKET_MASK"), (1, u "NONE"), (6, u "(IJ)V"), (2, u "lambda$new$0"), (0, u "(II)Z"), (3, .methodType 147), (0, .methodHandle 5 153), (0, .methodref 1 154), (0, .nameAndType 146 147), (4, .methodHandle 6 160), (0, .methodref 161 162), (0, .class_ 163), (0, .nameAndType 164 165), (0, u "java/lang/invoke/LambdaMetafactory"), (0, u "metafactory"), (0, u "(Ljava/lang/invoke/MethodHandles$Lookup;Ljava/lang/String;Ljava/lang/invoke/MethodType;Ljava/lang/invoke/MethodType;Ljava/lang/invoke/MethodHandle;Ljava/lang/invoke/MethodType;)Ljava/lang/invoke/CallSite;")] 15

def k2c0 : Code := { maxStack := 5, maxLocals := 2, code := prog_39_method_1_code, exceptionTable := #[], attributes := #[] }
def k2m0 : Method := { name := "<init>", desc := "(I)V", sig := { parameters := [.int], returnType := none }, accessFlags := 0, code := some k2c0 }
def k2c1 : Code := { maxStack := 2, maxLocals := 2, code := prog_39_method_3_code, exceptionTable := #[], attributes := #[] }
def k2m1 : Method := { name := "contains", desc := "(I)Z", sig := { parameters := [.int], returnType := some .boolean }, accessFlags := 0, code := some k2c1 }
def k2c2 : Code := { maxStack := 6, maxLocals := 4, code := prog_39_method_5_code, exceptionTable := #[], attributes := #[] }
def k2m2 : Method := { name := "put", desc := "(IJ)V", sig := { parameters := [.int, .long], returnType := none }, accessFlags := 0, code := some k2c2 }
def k2c3 : Code := { maxStack := 2, maxLocals := 2, code := prog_39_method_6_code, exceptionTable := #[], attributes := #[] }
def k2m3 : Method := { name := "remove", desc := "(I)V", sig := { parameters := [.int], returnType := none }, accessFlags := 0, code := some k2c3 }
def k2c4 : Code := { maxStack := 8, maxLocals := 4, code := prog_39_method_13_code, exceptionTable := #[], attributes := #[] }
def k2m4 : Method := { name := "link", desc := "(I)V", sig := { parameters := [.int], returnType := none }, accessFlags := 2, code := some k2c4 }
def k2c5 : Code := { maxStack := 8, maxLocals := 4, code := prog_39_method_14_code, exceptionTable := #[], attributes := #[] }
def k2m5 : Method := { name := "unlink", desc := "(I)V", sig := { parameters := [.int], returnType := none }, accessFlags := 2, code := some k2c5 }
def k2c6 : Code := { maxStack := 4, maxLocals := 3, code := prog_39_method_15_code, exceptionTable := #[], attributes := #[] }
def k2m6 : Method := { name := "lambda$new$0", desc := "(II)Z", sig := { parameters := [.int, .int], returnType := some .boolean }, accessFlags := 4098, code := some k2c6 }
/-- com/example/leasewise/leasewise/KilometreQueue -/
def k2 : Class := { plain "com/example/leasewise/leasewise/KilometreQueue" (some 0) with
  accessFlags := 48
  interfaces := #[]
  cf := some (fileOf pool2 1 #[.bootstrapMethods #[⟨159, #[151, 152, 151]⟩, ⟨0, #[]⟩, ⟨0, #[]⟩]] #[{ accessFlags := 0, nameIndex := 7, descriptorIndex := 82, attributes := #[] }, { accessFlags := 0, nameIndex := 64, descriptorIndex := 65, attributes := #[] }, { accessFlags := 0, nameIndex := 90, descriptorIndex := 143, attributes := #[] }, { accessFlags := 0, nameIndex := 81, descriptorIndex := 82, attributes := #[] }, { accessFlags := 2, nameIndex := 87, descriptorIndex := 82, attributes := #[] }, { accessFlags := 2, nameIndex := 93, descriptorIndex := 82, attributes := #[] }, { accessFlags := 4098, nameIndex := 146, descriptorIndex := 147, attributes := #[] }] 48 4 #[] #[{ accessFlags := 26, nameIndex := 132, descriptorIndex := 57, attributes := #[] }, { accessFlags := 26, nameIndex := 134, descriptorIndex := 57, attributes := #[] }, { accessFlags := 26, nameIndex := 136, descriptorIndex := 57, attributes := #[] }, { accessFlags := 18, nameIndex := 25, descriptorIndex := 19, attributes := #[] }, { accessFlags := 18, nameIndex := 28, descriptorIndex := 13, attributes := #[] }, { accessFlags := 18, nameIndex := 31, descriptorIndex := 13, attributes := #[] }, { accessFlags := 18, nameIndex := 34, descriptorIndex := 35, attributes := #[] }, { accessFlags := 18, nameIndex := 12, descriptorIndex := 13, attributes := #[] }, { accessFlags := 18, nameIndex := 18, descriptorIndex := 19, attributes := #[] }, { accessFlags := 18, nameIndex := 22, descriptorIndex := 19, attributes := #[] }, { accessFlags := 2, nameIndex := 56, descriptorIndex := 57, attributes := #[] }, { accessFlags := 18, nameIndex := 52, descriptorIndex := 53, attributes := #[] }, { accessFlags := 2, nameIndex := 68, descriptorIndex := 69, attributes := #[] }])
  fields := #[{ name := "SPAN", type := .int, accessFlags := 26, slot := 0, constantValue := 0 }, { name := "BUCKET_MASK", type := .int, accessFlags := 26, slot := 1, constantValue := 0 }, { name := "NONE", type := .int, accessFlags := 26, slot := 2, constantValue := 0 }, { name := "keys", type := (.array .long), accessFlags := 18, slot := 0, constantValue := 0 }, { name := "before", type := (.array .int), accessFlags := 18, slot := 1, constantValue := 0 }, { name := "after", type := (.array .int), accessFlags := 18, slot := 2, constantValue := 0 }, { name := "inBucket", type := (.array .boolean), accessFlags := 18, slot := 3, constantValue := 0 }, { name := "firsts", type := (.array .int), accessFlags := 18, slot := 4, constantValue := 0 }, { name := "occupied", type := (.array .long), accessFlags := 18, slot := 5, constantValue := 0 }, { name := "occupiedWords", type := (.array .long), accessFlags := 18, slot := 6, constantValue := 0 }, { name := "bucketed", type := .int, accessFlags := 2, slot := 7, constantValue := 0 }, { name := "further", type := (.object "com/example/leasewise/leasewise/IndexedHeap"), accessFlags := 18, slot := 8, constantValue := 0 }, { name := "floor", type := .long, accessFlags := 2, slot := 9, constantValue := 0 }]
  methods := #[k2m0, k2m1, k2m2, k2m3, k2m4, k2m5, k2m6]
  instanceTypes := #[(.array .long), (.array .int), (.array .int), (.array .boolean), (.array .int), (.array .long), (.array .long), .int, (.object "com/example/leasewise/leasewise/IndexedHeap"), .long]
  staticTypes := #[.int, .int, .int]
  resolved := Array.replicate 181 none
  callSites := [(0, 72, .makes 16)]
  statics := none }

def pool3 : Array CpInfo := pool [(2, .class_ 4), (1, u "java/lang/Object"), (0, u "<init>"), (0, u "()V"), (7, .class_ 16), (1, u "java/util/Arrays"), (57, .class_ 76), (1, u "java/util/Arrays$NaturalOrder"), (36, .class_ 115), (1, u "java/util/Arrays$LegacyMergeSort"), (1, u "Z"), (257, .class_ 376), (0, u "java/util/Arrays$ArrayList"), (68, u "$assertionsDisabled"), (269, u "MIN_ARRAY_SORT_GRAN"), (0, u "I"), (2, u "INSERTIONSORT_THRESHOLD"), (120, u "fill"), (4, u "([II)V"), (129, .class_ 976), (0, u "java/util/Arrays$ArrayItr")] 52

def k3m0 : Method := { name := "<init>", desc := "()V", sig := { parameters := [], returnType := none }, accessFlags := 2, code := none }
def k3c1 : Code := { maxStack := 3, maxLocals := 4, code := jdk_65_method_103_code, exceptionTable := #[], attributes := #[] }
def k3m1 : Method := { name := "fill", desc := "([II)V", sig := { parameters := [(.array .int), .int], returnType := none }, accessFlags := 9, code := some k3c1 }
/-- java/util/Arrays -/
def k3 : Class := { plain "java/util/Arrays" (some 0) with
  accessFlags := 49
  interfaces := #[]
  cf := some (fileOf pool3 14 #[.nestMembers #[975, 375, 113, 74]] #[{ accessFlags := 2, nameIndex := 5, descriptorIndex := 6, attributes := #[] }, { accessFlags := 9, nameIndex := 840, descriptorIndex := 845, attributes := #[] }] 49 2 #[] #[{ accessFlags := 26, nameIndex := 715, descriptorIndex := 716, attributes := #[] }, { accessFlags := 26, nameIndex := 719, descriptorIndex := 716, attributes := #[] }, { accessFlags := 4120, nameIndex := 445, descriptorIndex := 117, attributes := #[] }])
  fields := #[{ name := "MIN_ARRAY_SORT_GRAN", type := .int, accessFlags := 26, slot := 0, constantValue := 0 }, { name := "INSERTIONSORT_THRESHOLD", type := .int, accessFlags := 26, slot := 1, constantValue := 0 }, { name := "$assertionsDisabled", type := .boolean, accessFlags := 4120, slot := 2, constantValue := 0 }]
  methods := #[k3m0, k3m1]
  instanceTypes := #[]
  staticTypes := #[.int, .int, .boolean]
  resolved := Array.replicate 1029 none
  statics := none }

def pool4 : Array CpInfo := pool [(1, .methodref 2 3), (0, .class_ 4), (0, .nameAndType 5 6), (0, u "java/lang/Object"), (0, u "<init>"), (0, u "()V"), (0, .fieldref 8 9), (0, .class_ 10), (0, .nameAndType 11 12), (0, u "com/example/leasewise/leasewise/IndexedHeap"), (0, u "order"), (0, u "Lcom/example/leasewise/leasewise/IndexedHeap$Order;"), (0, .fieldref 8 14), (0, .nameAndType 15 16), (0, u "entries"), (0, u "[I"), (0, .fieldref 8 18), (0, .nameAndType 19 16), (0, u "positions"), (0, .methodref 21 22), (0, .class_ 23), (0, .nameAndType 24 25), (0, u "java/util/Arrays"), (0, u "fill"), (0, u "([II)V"), (0, .fieldref 8 27), (0, .nameAndType 28 29), (0, u "size"), (0, u "I"), (13, u "remove"), (0, u "(I)V"), (0, .methodref 8 46), (0, .nameAndType 47 48), (0, u "contains"), (0, u "(I)Z"), (0, .methodref 8 50), (0, .nameAndType 51 52), (0, u "siftUp"), (0, u "(I)I"), (0, .methodref 8 54), (0, .nameAndType 55 44), (0, u "siftDown"), (0, .interfaceMethodref 57 58), (0, .class_ 59), (0, .nameAndType 60 61), (0, u "com/example/leasewise/leasewise/IndexedHeap$Order"), (0, u "before"), (0, u "(II)Z"), (0, .methodref 8 63), (0, .nameAndType 64 65), (0, u "place"), (0, u "(II)V"), (0, u "ABSENT"), (2, u "(ILcom/example/leasewise/leasewise/IndexedHeap$Order;)V"), (6, u "put")] 5

def k4c0 : Code := { maxStack := 2, maxLocals := 3, code := prog_35_method_1_code, exceptionTable := #[], attributes := #[] }
def k4m0 : Method := { name := "<init>", desc := "(ILcom/example/leasewise/leasewise/IndexedHeap$Order;)V", sig := { parameters := [.int, (.object "com/example/leasewise/leasewise/IndexedHeap$Order")], returnType := none }, accessFlags := 0, code := some k4c0 }
def k4c1 : Code := { maxStack := 2, maxLocals := 2, code := prog_35_method_3_code, exceptionTable := #[], attributes := #[] }
def k4m1 : Method := { name := "contains", desc := "(I)Z", sig := { parameters := [.int], returnType := some .boolean }, accessFlags := 0, code := some k4c1 }
def k4c2 : Code := { maxStack := 3, maxLocals := 3, code := prog_35_method_6_code, exceptionTable := #[], attributes := #[] }
def k4m2 : Method := { name := "put", desc := "(I)V", sig := { parameters := [.int], returnType := none }, accessFlags := 0, code := some k4c2 }
def k4c3 : Code := { maxStack := 3, maxLocals := 4, code := prog_35_method_7_code, exceptionTable := #[], attributes := #[] }
def k4m3 : Method := { name := "remove", desc := "(I)V", sig := { parameters := [.int], returnType := none }, accessFlags := 0, code := some k4c3 }
def k4c4 : Code := { maxStack := 4, maxLocals := 5, code := prog_35_method_8_code, exceptionTable := #[], attributes := #[] }
def k4m4 : Method := { name := "siftUp", desc := "(I)I", sig := { parameters := [.int], returnType := some .int }, accessFlags := 2, code := some k4c4 }
def k4c5 : Code := { maxStack := 4, maxLocals := 5, code := prog_35_method_9_code, exceptionTable := #[], attributes := #[] }
def k4m5 : Method := { name := "siftDown", desc := "(I)V", sig := { parameters := [.int], returnType := none }, accessFlags := 2, code := some k4c5 }
def k4c6 : Code := { maxStack := 3, maxLocals := 3, code := prog_35_method_10_code, exceptionTable := #[], attributes := #[] }
def k4m6 : Method := { name := "place", desc := "(II)V", sig := { parameters := [.int, .int], returnType := none }, accessFlags := 2, code := some k4c6 }
/-- com/example/leasewise/leasewise/IndexedHeap -/
def k4 : Class := { plain "com/example/leasewise/leasewise/IndexedHeap" (some 0) with
  accessFlags := 48
  interfaces := #[]
  cf := some (fileOf pool4 8 #[.nestMembers #[57]] #[{ accessFlags := 0, nameIndex := 5, descriptorIndex := 69, attributes := #[] }, { accessFlags := 0, nameIndex := 47, descriptorIndex := 48, attributes := #[] }, { accessFlags := 0, nameIndex := 76, descriptorIndex := 44, attributes := #[] }, { accessFlags := 0, nameIndex := 43, descriptorIndex := 44, attributes := #[] }, { accessFlags := 2, nameIndex := 51, descriptorIndex := 52, attributes := #[] }, { accessFlags := 2, nameIndex := 55, descriptorIndex := 44, attributes := #[] }, { accessFlags := 2, nameIndex := 64, descriptorIndex := 65, attributes := #[] }] 48 2 #[] #[{ accessFlags := 26, nameIndex := 66, descriptorIndex := 29, attributes := #[] }, { accessFlags := 18, nameIndex := 11, descriptorIndex := 12, attributes := #[] }, { accessFlags := 18, nameIndex := 15, descriptorIndex := 16, attributes := #[] }, { accessFlags := 18, nameIndex := 19, descriptorIndex := 16, attributes := #[] }, { accessFlags := 2, nameIndex := 28, descriptorIndex := 29, attributes := #[] }])
  fields := #[{ name := "ABSENT", type := .int, accessFlags := 26, slot := 0, constantValue := 0 }, { name := "order", type := (.object "com/example/leasewise/leasewise/IndexedHeap$Order"), accessFlags := 18, slot := 0, constantValue := 0 }, { name := "entries", type := (.array .int), accessFlags := 18, slot := 1, constantValue := 0 }, { name := "positions", type := (.array .int), accessFlags := 18, slot := 2, constantValue := 0 }, { name := "size", type := .int, accessFlags := 2, slot := 3, constantValue := 0 }]
  methods := #[k4m0, k4m1, k4m2, k4m3, k4m4, k4m5, k4m6]
  instanceTypes := #[(.object "com/example/leasewise/leasewise/IndexedHeap$Order"), (.array .int), (.array .int), .int]
  staticTypes := #[.int]
  resolved := Array.replicate 82 none
  statics := none }

def pool5 : Array CpInfo := pool [(1, .class_ 2), (0, u "com/example/leasewise/leasewise/IndexedHeap$Order"), (0, .class_ 4), (0, u "java/lang/Object"), (0, u "before"), (0, u "(II)Z"), (3, .class_ 11), (0, u "com/example/leasewise/leasewise/IndexedHeap")] 2

def k5m0 : Method := { name := "before", desc := "(II)Z", sig := { parameters := [.int, .int], returnType := some .boolean }, accessFlags := 1025, code := none }
/-- com/example/leasewise/leasewise/IndexedHeap$Order -/
def k5 : Class := { plain "com/example/leasewise/leasewise/IndexedHeap$Order" (some 0) with
  accessFlags := 1536
  interfaces := #[]
  cf := some (fileOf pool5 1 #[.nestHost 10] #[{ accessFlags := 1025, nameIndex := 5, descriptorIndex := 6, attributes := #[] }] 1536 3 #[] #[])
  fields := #[]
  methods := #[k5m0]
  instanceTypes := #[]
  staticTypes := #[]
  resolved := Array.replicate 14 none
  statics := none }

def pool6 : Array CpInfo := pool [(1, u "java/lang/Cloneable"), (0, .class_ 1), (0, u "java/lang/Object"), (0, .class_ 3)] 3

/-- java/lang/Cloneable -/
def k6 : Class := { plain "java/lang/Cloneable" (some 0) with
  accessFlags := 1537
  interfaces := #[]
  cf := some (fileOf pool6 2 #[] #[] 1537 4 #[] #[])
  fields := #[]
  methods := #[]
  instanceTypes := #[]
  staticTypes := #[]
  resolved := Array.replicate 8 none
  statics := none }

def pool7 : Array CpInfo := pool [(1, u "java/io/Serializable"), (0, .class_ 1), (0, u "java/lang/Object"), (0, .class_ 3)] 3

/-- java/io/Serializable -/
def k7 : Class := { plain "java/io/Serializable" (some 0) with
  accessFlags := 1537
  interfaces := #[]
  cf := some (fileOf pool7 2 #[] #[] 1537 4 #[] #[])
  fields := #[]
  methods := #[]
  instanceTypes := #[]
  staticTypes := #[]
  resolved := Array.replicate 8 none
  statics := none }

/-- the primitive boolean -/
def k8 : Class := { plain "boolean" none with kind := .primitive 'Z', accessFlags := 0x411 }
/-- [Z -/
def k9 : Class := { plain "[Z" (some 0) with kind := .array 8 .boolean, interfaces := #[6, 7], accessFlags := 1041 }

/-- the primitive byte -/
def k10 : Class := { plain "byte" none with kind := .primitive 'B', accessFlags := 0x411 }
/-- [B -/
def k11 : Class := { plain "[B" (some 0) with kind := .array 10 .byte, interfaces := #[6, 7], accessFlags := 1041 }

/-- the primitive int -/
def k12 : Class := { plain "int" none with kind := .primitive 'I', accessFlags := 0x411 }
/-- [I -/
def k13 : Class := { plain "[I" (some 0) with kind := .array 12 .int, interfaces := #[6, 7], accessFlags := 1041 }

/-- the primitive long -/
def k14 : Class := { plain "long" none with kind := .primitive 'J', accessFlags := 0x411 }
/-- [J -/
def k15 : Class := { plain "[J" (some 0) with kind := .array 14 .long, interfaces := #[6, 7], accessFlags := 1041 }

def classes0 : Array Class := #[k0, k1, k2, k3, k4, k5, k6, k7, k8, k9, k10, k11, k12, k13, k14, k15]
/-- the class that the rule has made for the site at 72 of com/example/leasewise/leasewise/KilometreQueue.<init> -/
def k16 : Class := Jvm.LamKit.madeRec { classes := classes0 } "com/example/leasewise/leasewise/KilometreQueue" (Jvm.Lambda.Shape.mk "com/example/leasewise/leasewise/IndexedHeap$Order" "before" (Jvm.ClassFile.MethodDescriptor.mk ([Jvm.ClassFile.FieldType.int, Jvm.ClassFile.FieldType.int] : List Jvm.ClassFile.FieldType) (Option.some Jvm.ClassFile.FieldType.boolean)) ([(Jvm.ClassFile.FieldType.object "com/example/leasewise/leasewise/KilometreQueue")] : List Jvm.ClassFile.FieldType) (5 : Nat) "com/example/leasewise/leasewise/KilometreQueue" "lambda$new$0" (Jvm.ClassFile.MethodDescriptor.mk ([Jvm.ClassFile.FieldType.int, Jvm.ClassFile.FieldType.int] : List Jvm.ClassFile.FieldType) (Option.some Jvm.ClassFile.FieldType.boolean)) false (Jvm.ClassFile.MethodDescriptor.mk ([Jvm.ClassFile.FieldType.int, Jvm.ClassFile.FieldType.int] : List Jvm.ClassFile.FieldType) (Option.some Jvm.ClassFile.FieldType.boolean))) 16

def heap : Heap := #[]
def classes : Array Class := #[k0, k1, k2, k3, k4, k5, k6, k7, k8, k9, k10, k11, k12, k13, k14, k15, k16]
def interned : List (Array UInt16 × Addr) := []
def slotsUsed : Nat := 0
def theMethod : MethodId := ⟨1, 1⟩
def args0 : Array Value := #[.int 5, .long 6, .long 7, .long 8, .long 9]
def aboutOver (below : List Frame) : State where
  vm := { classes := classes, interned := interned.toArray }
  heap := heap
  slotsUsed := slotsUsed
  threads := #[{ frames := .invoking theMethod args0 :: below }]
def below0 : List Frame := [.native { method := ⟨0, 0⟩, args := #[] }]
def about1 : State := aboutOver below0
def p0 : Program := .bare "" "" ""
def e0 : Env := launch0.env 0 0 0
theorem w_frames : about1.frames = Frame.invoking theMethod args0 :: below0 := rfl
set_option maxRecDepth 65536 in
theorem w_args : argsFit about1.vm theMethod args0 = true := by decide +kernel
set_option maxRecDepth 65536 in
theorem w_heap : heapFits about1 = true := by decide +kernel
set_option maxRecDepth 65536 in
theorem w_runnable : about1.curStatus? = some .runnable := by decide +kernel
set_option maxRecDepth 65536 in
theorem w_alone : about1.alone = true := by decide +kernel
set_option maxRecDepth 65536 in
theorem w_named : about1.methodNamed? x = some theMethod := by decide +kernel
set_option maxRecDepth 65536 in
theorem w_hears : about1.hears theMethod below0 = true := by decide +kernel
set_option maxRecDepth 65536 in
theorem w_ripe : about1.ripe theMethod args0 below0 = true := by decide +kernel
theorem w_running : about1.status = .running := rfl
set_option maxRecDepth 65536 in
theorem w_room : about1.hasRoom e0.platform room_1 = true :=
  launch0.hasRoom_least _ room_1 (by decide +kernel) (by decide +kernel) (by decide +kernel) (by decide +kernel) (by decide +kernel) (by decide +kernel)
theorem allAtoms_all (ts : List Jvm.Cond) (a : Array Jvm.Value) (st : Jvm.State) : (allAtoms ts).before a st = ts.all (fun c => c.before a st) := by
  induction ts with
  | nil => rfl
  | cons c t ih =>
    show (Jvm.Cond.and c (allAtoms t)).before a st = _
    rw [Jvm.Cond.before_and, ih, List.all_cons]
def words1 : List Jvm.Cond := Jvm.Cond.code x code maxLocals ret :: tables_1
/-- a 'code' word, met by the world's own term for the bytes: nothing is compared byte by byte -/
theorem code_word {y : MethodName} {bytes : ByteArray} {mx : Nat} {rt : Option FieldType} {a : Array Value} {s : State} {m : MethodId} {meth : Method} {c : Code} (h1 : s.methodNamed? y = some m) (h2 : s.vm.method? m = some meth) (h3 : meth.code = some c) (h4 : c.code = bytes)
    (h5 : (c.maxLocals == mx && c.exceptionTable.isEmpty && decide (c.maxStack ≤ mostOperands) && decide (meth.sig.returnType = rt) && !meth.locks && decide (parseMethodDescriptor y.desc = some meth.sig)) = true) : (Jvm.Cond.code y bytes mx rt).before a s = true := by
  simp only [Bool.and_eq_true, beq_iff_eq, Bool.not_eq_true', decide_eq_true_eq] at h5
  obtain ⟨⟨⟨⟨⟨g1, g2⟩, g3⟩, g4⟩, g5⟩, g6⟩ := h5
  simp [Cond.before, Cond.holds, Cond.value, h1, h2, h3, h4, g1, g2, g3, g4, g5, g6]
def isCode : Jvm.Cond → Bool
  | .code _ _ _ _ => true
  | _ => false
theorem all_split {L : List Jvm.Cond} {P : Jvm.Cond → Bool} (h1 : L.all (fun c => isCode c || P c) = true) (h2 : ∀ c ∈ L.filter isCode, P c = true) : L.all P = true := by
  refine List.all_eq_true.mpr fun c hc => ?_
  have h := List.all_eq_true.mp h1 c hc
  rcases Bool.eq_false_or_eq_true (isCode c) with hi | hi
  · exact h2 c (List.mem_filter.mpr ⟨hc, hi⟩)
  · simpa [hi] using h
set_option maxRecDepth 65536 in
theorem w_c0 : (Jvm.Cond.code x code maxLocals ret).before args0 about1 = true := code_word (m := ⟨1, 1⟩) (meth := k1m1) (c := k1c1) (by decide +kernel) rfl rfl rfl (by decide +kernel)
set_option maxRecDepth 65536 in
theorem w_c1 : (Jvm.Cond.code ({ cls := "com/example/leasewise/leasewise/KilometreQueue", name := "<init>", desc := "(I)V" } : Jvm.MethodName) prog_39_method_1_code (2 : Nat) (Option.none : Option Jvm.ClassFile.FieldType)).before args0 about1 = true := code_word (m := ⟨2, 0⟩) (meth := k2m0) (c := k2c0) (by decide +kernel) rfl rfl rfl (by decide +kernel)
set_option maxRecDepth 65536 in
theorem w_c2 : (Jvm.Cond.code ({ cls := "java/lang/Object", name := "<init>", desc := "()V" } : Jvm.MethodName) object_method_1_code (1 : Nat) (Option.none : Option Jvm.ClassFile.FieldType)).before args0 about1 = true := code_word (m := ⟨0, 0⟩) (meth := k0m0) (c := k0c0) (by decide +kernel) rfl rfl rfl (by decide +kernel)
set_option maxRecDepth 65536 in
theorem w_c3 : (Jvm.Cond.code ({ cls := "java/util/Arrays", name := "fill", desc := "([II)V" } : Jvm.MethodName) jdk_65_method_103_code (4 : Nat) (Option.none : Option Jvm.ClassFile.FieldType)).before args0 about1 = true := code_word (m := ⟨3, 1⟩) (meth := k3m1) (c := k3c1) (by decide +kernel) rfl rfl rfl (by decide +kernel)
set_option maxRecDepth 65536 in
theorem w_c4 : (Jvm.Cond.code ({ cls := "com/example/leasewise/leasewise/IndexedHeap", name := "<init>", desc := "(ILcom/example/leasewise/leasewise/IndexedHeap$Order;)V" } : Jvm.MethodName) prog_35_method_1_code (3 : Nat) (Option.none : Option Jvm.ClassFile.FieldType)).before args0 about1 = true := code_word (m := ⟨4, 0⟩) (meth := k4m0) (c := k4c0) (by decide +kernel) rfl rfl rfl (by decide +kernel)
set_option maxRecDepth 65536 in
theorem w_c5 : (Jvm.Cond.code ({ cls := "com/example/leasewise/leasewise/KilometreQueue", name := "contains", desc := "(I)Z" } : Jvm.MethodName) prog_39_method_3_code (2 : Nat) (Option.some Jvm.ClassFile.FieldType.boolean)).before args0 about1 = true := code_word (m := ⟨2, 1⟩) (meth := k2m1) (c := k2c1) (by decide +kernel) rfl rfl rfl (by decide +kernel)
set_option maxRecDepth 65536 in
theorem w_c6 : (Jvm.Cond.code ({ cls := "com/example/leasewise/leasewise/IndexedHeap", name := "contains", desc := "(I)Z" } : Jvm.MethodName) prog_35_method_3_code (2 : Nat) (Option.some Jvm.ClassFile.FieldType.boolean)).before args0 about1 = true := code_word (m := ⟨4, 1⟩) (meth := k4m1) (c := k4c1) (by decide +kernel) rfl rfl rfl (by decide +kernel)
set_option maxRecDepth 65536 in
theorem w_c7 : (Jvm.Cond.code ({ cls := "com/example/leasewise/leasewise/KilometreQueue", name := "put", desc := "(IJ)V" } : Jvm.MethodName) prog_39_method_5_code (4 : Nat) (Option.none : Option Jvm.ClassFile.FieldType)).before args0 about1 = true := code_word (m := ⟨2, 2⟩) (meth := k2m2) (c := k2c2) (by decide +kernel) rfl rfl rfl (by decide +kernel)
set_option maxRecDepth 65536 in
theorem w_c8 : (Jvm.Cond.code ({ cls := "com/example/leasewise/leasewise/KilometreQueue", name := "remove", desc := "(I)V" } : Jvm.MethodName) prog_39_method_6_code (2 : Nat) (Option.none : Option Jvm.ClassFile.FieldType)).before args0 about1 = true := code_word (m := ⟨2, 3⟩) (meth := k2m3) (c := k2c3) (by decide +kernel) rfl rfl rfl (by decide +kernel)
set_option maxRecDepth 65536 in
theorem w_c9 : (Jvm.Cond.code ({ cls := "com/example/leasewise/leasewise/IndexedHeap", name := "remove", desc := "(I)V" } : Jvm.MethodName) prog_35_method_7_code (4 : Nat) (Option.none : Option Jvm.ClassFile.FieldType)).before args0 about1 = true := code_word (m := ⟨4, 3⟩) (meth := k4m3) (c := k4c3) (by decide +kernel) rfl rfl rfl (by decide +kernel)
set_option maxRecDepth 65536 in
theorem w_c10 : (Jvm.Cond.code ({ cls := "com/example/leasewise/leasewise/IndexedHeap", name := "put", desc := "(I)V" } : Jvm.MethodName) prog_35_method_6_code (3 : Nat) (Option.none : Option Jvm.ClassFile.FieldType)).before args0 about1 = true := code_word (m := ⟨4, 2⟩) (meth := k4m2) (c := k4c2) (by decide +kernel) rfl rfl rfl (by decide +kernel)
set_option maxRecDepth 65536 in
theorem w_c11 : (Jvm.Cond.code ({ cls := "com/example/leasewise/leasewise/IndexedHeap", name := "siftUp", desc := "(I)I" } : Jvm.MethodName) prog_35_method_8_code (5 : Nat) (Option.some Jvm.ClassFile.FieldType.int)).before args0 about1 = true := code_word (m := ⟨4, 4⟩) (meth := k4m4) (c := k4c4) (by decide +kernel) rfl rfl rfl (by decide +kernel)
set_option maxRecDepth 65536 in
theorem w_c12 : (Jvm.Cond.code ({ cls := "com/example/leasewise/leasewise/IndexedHeap", name := "place", desc := "(II)V" } : Jvm.MethodName) prog_35_method_10_code (3 : Nat) (Option.none : Option Jvm.ClassFile.FieldType)).before args0 about1 = true := code_word (m := ⟨4, 6⟩) (meth := k4m6) (c := k4c6) (by decide +kernel) rfl rfl rfl (by decide +kernel)
set_option maxRecDepth 65536 in
theorem w_c13 : (Jvm.Cond.code ({ cls := "com/example/leasewise/leasewise/KilometreQueue", name := "lambda$new$0", desc := "(II)Z" } : Jvm.MethodName) prog_39_method_15_code (3 : Nat) (Option.some Jvm.ClassFile.FieldType.boolean)).before args0 about1 = true := code_word (m := ⟨2, 6⟩) (meth := k2m6) (c := k2c6) (by decide +kernel) rfl rfl rfl (by decide +kernel)
set_option maxRecDepth 65536 in
theorem w_c14 : (Jvm.Cond.code ({ cls := "com/example/leasewise/leasewise/KilometreQueue", name := "link", desc := "(I)V" } : Jvm.MethodName) prog_39_method_13_code (4 : Nat) (Option.none : Option Jvm.ClassFile.FieldType)).before args0 about1 = true := code_word (m := ⟨2, 4⟩) (meth := k2m4) (c := k2c4) (by decide +kernel) rfl rfl rfl (by decide +kernel)
set_option maxRecDepth 65536 in
theorem w_c15 : (Jvm.Cond.code ({ cls := "com/example/leasewise/leasewise/KilometreQueue", name := "unlink", desc := "(I)V" } : Jvm.MethodName) prog_39_method_14_code (4 : Nat) (Option.none : Option Jvm.ClassFile.FieldType)).before args0 about1 = true := code_word (m := ⟨2, 5⟩) (meth := k2m5) (c := k2c5) (by decide +kernel) rfl rfl rfl (by decide +kernel)
set_option maxRecDepth 65536 in
theorem w_c16 : (Jvm.Cond.code ({ cls := "com/example/leasewise/leasewise/IndexedHeap", name := "siftDown", desc := "(I)V" } : Jvm.MethodName) prog_35_method_9_code (5 : Nat) (Option.none : Option Jvm.ClassFile.FieldType)).before args0 about1 = true := code_word (m := ⟨4, 5⟩) (meth := k4m5) (c := k4c5) (by decide +kernel) rfl rfl rfl (by decide +kernel)
def codes1 : List Jvm.Cond := [Jvm.Cond.code x code maxLocals ret, Jvm.Cond.code ({ cls := "com/example/leasewise/leasewise/KilometreQueue", name := "<init>", desc := "(I)V" } : Jvm.MethodName) prog_39_method_1_code (2 : Nat) (Option.none : Option Jvm.ClassFile.FieldType), Jvm.Cond.code ({ cls := "java/lang/Object", name := "<init>", desc := "()V" } : Jvm.MethodName) object_method_1_code (1 : Nat) (Option.none : Option Jvm.ClassFile.FieldType), Jvm.Cond.code ({ cls := "java/util/Arrays", name := "fill", desc := "([II)V" } : Jvm.MethodName) jdk_65_method_103_code (4 : Nat) (Option.none : Option Jvm.ClassFile.FieldType), Jvm.Cond.code ({ cls := "com/example/leasewise/leasewise/IndexedHeap", name := "<init>", desc := "(ILcom/example/leasewise/leasewise/IndexedHeap$Order;)V" } : Jvm.MethodName) prog_35_method_1_code (3 : Nat) (Option.none : Option Jvm.ClassFile.FieldType), Jvm.Cond.code ({ cls := "com/example/leasewise/leasewise/KilometreQueue", name := "contains", desc := "(I)Z" } : Jvm.MethodName) prog_39_method_3_code (2 : Nat) (Option.some Jvm.ClassFile.FieldType.boolean), Jvm.Cond.code ({ cls := "com/example/leasewise/leasewise/IndexedHeap", name := "contains", desc := "(I)Z" } : Jvm.MethodName) prog_35_method_3_code (2 : Nat) (Option.some Jvm.ClassFile.FieldType.boolean), Jvm.Cond.code ({ cls := "com/example/leasewise/leasewise/KilometreQueue", name := "put", desc := "(IJ)V" } : Jvm.MethodName) prog_39_method_5_code (4 : Nat) (Option.none : Option Jvm.ClassFile.FieldType), Jvm.Cond.code ({ cls := "com/example/leasewise/leasewise/KilometreQueue", name := "remove", desc := "(I)V" } : Jvm.MethodName) prog_39_method_6_code (2 : Nat) (Option.none : Option Jvm.ClassFile.FieldType), Jvm.Cond.code ({ cls := "com/example/leasewise/leasewise/IndexedHeap", name := "remove", desc := "(I)V" } : Jvm.MethodName) prog_35_method_7_code (4 : Nat) (Option.none : Option Jvm.ClassFile.FieldType), Jvm.Cond.code ({ cls := "com/example/leasewise/leasewise/IndexedHeap", name := "put", desc := "(I)V" } : Jvm.MethodName) prog_35_method_6_code (3 : Nat) (Option.none : Option Jvm.ClassFile.FieldType), Jvm.Cond.code ({ cls := "com/example/leasewise/leasewise/IndexedHeap", name := "siftUp", desc := "(I)I" } : Jvm.MethodName) prog_35_method_8_code (5 : Nat) (Option.some Jvm.ClassFile.FieldType.int), Jvm.Cond.code ({ cls := "com/example/leasewise/leasewise/IndexedHeap", name := "place", desc := "(II)V" } : Jvm.MethodName) prog_35_method_10_code (3 : Nat) (Option.none : Option Jvm.ClassFile.FieldType), Jvm.Cond.code ({ cls := "com/example/leasewise/leasewise/KilometreQueue", name := "lambda$new$0", desc := "(II)Z" } : Jvm.MethodName) prog_39_method_15_code (3 : Nat) (Option.some Jvm.ClassFile.FieldType.boolean), Jvm.Cond.code ({ cls := "com/example/leasewise/leasewise/KilometreQueue", name := "link", desc := "(I)V" } : Jvm.MethodName) prog_39_method_13_code (4 : Nat) (Option.none : Option Jvm.ClassFile.FieldType), Jvm.Cond.code ({ cls := "com/example/leasewise/leasewise/KilometreQueue", name := "unlink", desc := "(I)V" } : Jvm.MethodName) prog_39_method_14_code (4 : Nat) (Option.none : Option Jvm.ClassFile.FieldType), Jvm.Cond.code ({ cls := "com/example/leasewise/leasewise/IndexedHeap", name := "siftDown", desc := "(I)V" } : Jvm.MethodName) prog_35_method_9_code (5 : Nat) (Option.none : Option Jvm.ClassFile.FieldType)]
set_option maxRecDepth 65536 in
theorem codes_eq : words1.filter isCode = codes1 := rfl
theorem w_codes : ∀ c ∈ words1.filter isCode, c.before args0 about1 = true := by
  rw [codes_eq]
  intro c hc
  simp only [codes1, List.mem_cons, List.not_mem_nil, or_false] at hc
  rcases hc with rfl | rfl | rfl | rfl | rfl | rfl | rfl | rfl | rfl | rfl | rfl | rfl | rfl | rfl | rfl | rfl | rfl
  · exact w_c0
  · exact w_c1
  · exact w_c2
  · exact w_c3
  · exact w_c4
  · exact w_c5
  · exact w_c6
  · exact w_c7
  · exact w_c8
  · exact w_c9
  · exact w_c10
  · exact w_c11
  · exact w_c12
  · exact w_c13
  · exact w_c14
  · exact w_c15
  · exact w_c16
set_option maxRecDepth 65536 in
theorem w_t1 : (words1.take 24).all (fun c => isCode c || c.before args0 about1) = true := by decide +kernel
set_option maxRecDepth 65536 in
theorem w_t2 : ((words1.drop 24).take 24).all (fun c => isCode c || c.before args0 about1) = true := by decide +kernel
set_option maxRecDepth 65536 in
theorem w_t3 : (((words1.drop 24).drop 24).take 24).all (fun c => isCode c || c.before args0 about1) = true := by decide +kernel
set_option maxRecDepth 65536 in
theorem w_t4 : ((((words1.drop 24).drop 24).drop 24).take 24).all (fun c => isCode c || c.before args0 about1) = true := by decide +kernel
set_option maxRecDepth 65536 in
theorem w_t5 : ((((words1.drop 24).drop 24).drop 24).drop 24).all (fun c => isCode c || c.before args0 about1) = true := by decide +kernel
theorem w_tables : (allAtoms (Jvm.Cond.code x code maxLocals ret :: tables_1)).before args0 about1 = true := by
  rw [allAtoms_all]
  show words1.all (fun c => c.before args0 about1) = true
  refine all_split ?_ w_codes
  rw [← List.take_append_drop 24 words1, List.all_append, w_t1, ← List.take_append_drop 24 (words1.drop 24), List.all_append, w_t2, ← List.take_append_drop 24 ((words1.drop 24).drop 24), List.all_append, w_t3, ← List.take_append_drop 24 (((words1.drop 24).drop 24).drop 24), List.all_append, w_t4, w_t5]
  rfl
set_option maxRecDepth 65536 in
theorem w_case : (Jvm.Cond.and given_1 narrow_1).before args0 about1 = true := by decide +kernel
theorem w_applies : (headSpec (Jvm.Cond.code x code maxLocals ret :: tables_1) room_1).applies x e0.platform about1 = true :=
  (Spec.applies_iff w_frames).mpr ⟨w_running, w_runnable, w_alone, w_named, w_hears, w_ripe, w_room, w_tables⟩
theorem atStart : AtStart classFile x code maxLocals ret World_1 tables_1 room_1 Calls_1 rest_1 Pre_1 launch0 p0 e0 about1 theMethod args0 below0 :=
  ⟨lists_1, trivial, launch0.admits_env _ _ _, launch0.least_env, fairChoices_fair.cas, fairChoices_fair.clock, w_frames, w_args, w_heap, w_applies, trivial, trivial, w_case⟩
end start1
theorem witness_1 : WitnessClaimed_1 := ⟨start1.p0, start1.e0, start1.about1, start1.theMethod, start1.args0, start1.below0, start1.atStart⟩
end Jvm.Pilot.@@N@@
