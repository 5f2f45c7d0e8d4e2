import JvmDerived
import JvmDerived.Pilot.@@N@@Statement
import JvmDerived.Pilot.@@N@@Code
set_option linter.unusedVariables false
set_option linter.unusedSimpArgs false
@@BLOCK:LamKit.lean.txt@@
namespace Jvm.RoadKit
open Sem ClassFile Op Lib Jvm.Stand Jvm.Free Jvm.LawKit
section New
variable {p : Program} {l : Launch} {e : Env} {R : Room} {s : State} {m : MethodId} {args : Array Value} {below : List Frame} {meth : Method} {c : Code} {T : State} {locs : List Loc} {cells slots : Nat}
theorem retI (X : Stand p l e R s m args below meth c T locs cells slots) (hx : p.tables.exec = Jvm.exec) {pc : Nat} {Ls : Array Slot} {z : Int32} {rest : List Value} (hret : meth.sig.returnType = some .int) (hd : decode c.code pc = .ok (.ireturn, 1)) {fs : List Frame}
    (hl : ∀ (f : JFrame) (acts : List Action), f.method = m → f.locked = none → f.entered = [] → (doReturn e (T.setTop f) acts (some (.int z))).1 = T.setFrames fs) : Steps p.tables e below (T.setTop (mkF m pc Ls (.int z :: rest))) (T.setFrames fs) := by
  have hm' : T.vm.method? m = some meth := X.method'
  have hn : narrow .int (.int z) = .int z := rfl
  show Steps p.tables e below (T.setTop { method := m, pc := pc, locals := Ls, stack := _ :: rest, locked := none }) _
  jvm_step X.here [X.here.top, hx, hd, hm', hret, hn]
  first | (intro acts; rw [hl _ acts rfl rfl rfl]) | rw [hl _ _ rfl rfl rfl]
  exact Steps.refl _
end New
end Jvm.RoadKit
namespace Jvm.RoadKit
open Sem ClassFile Op Lib Jvm.Stand Jvm.Free Jvm.LawKit Jvm.LamKit Jvm.Lambda
section OwnLam
variable {p : Program} {l : Launch} {e : Env} {R : Room} {s : State} {m : MethodId} {args : Array Value} {below : List Frame} {meth : Method} {c : Code} {T : State} {locs : List Loc} {cells slots : Nat} {Z : State} {a0 : Array Value} {h : Heap}
/-- backOf, the tables warmed in the narrow sense -/
theorem own_backH {y : MethodName} {bytes : ByteArray} {maxL : Nat} {ret : Option FieldType} {rm : Room} {len W : Nat} {as' : Array Value} {Q : Option Value → Heap → List Loc → Prop}
    (hM : MetFree l y (head1 [Cond.code y bytes maxL ret] rm) (fun a U => a = as' ∧ Z.WarmedH U.vm ∧ U.heap = h) (fun _ _ _ _ _ => True) (fun _ U o U' => ∃ v L, o = .returned v ∧ Q v U'.heap L ∧ FrameEnd U o U' L rm.cells rm.slots))
    (hZ : Z.WarmedH s.vm) (wc : (Cond.code y bytes maxL ret).before a0 Z = true) (wz : (Cond.initialized y.cls).before a0 Z = true) (hf : rm.frames + 1 ≤ R.frames) (hl : W + (maxL + 11) + rm.locals ≤ R.locals) :
    Back l R p e below s args y len W (fun A a => a = as' ∧ A.U.heap = h ∧ A.cells + rm.cells ≤ R.cells ∧ A.slots + rm.slots ≤ R.slots)
      (fun A _ v B => ∃ L, Q v B.U.heap L ∧ B.locs = A.locs ++ L ∧ B.cells = A.cells + rm.cells ∧ B.slots = A.slots + rm.slots) :=
  Back.of_free (bytes := bytes) (maxL := maxL) (ret := ret) (E := fun _ _ o t L k n => k = rm.cells ∧ n = rm.slots ∧ ∃ v, o = .returned v ∧ Q v t.heap L) hM hf hl
    (fun m meth c A a Y hp => have hU : Z.Warmed39 A.U.vm := wtrans hZ.wide Y.warmed
      ⟨by show (Cond.and _ .tt).before a A.U = true; rw [Cond.before_and, mv hU wc]; rfl, mv hU wc, mv hU wz, hp.2.2.1, hp.2.2.2⟩)
    (fun m meth c A a g mk Y hp => ⟨hp.1, State.WarmedH.trans hZ Y.warmed, hp.2.1⟩) (fun _ _ _ _ _ _ _ _ _ => trivial)
    (fun _ _ _ _ ⟨v, L, h1, h2, h3⟩ => ⟨L, _, _, h3, rfl, rfl, v, h1, h2⟩)
    (fun m meth c A a g mk v t L k n Y hp _ _ ⟨e1, e2, v', e3, e4⟩ => by cases e3; subst e1 e2; exact ⟨L, e4, rfl, rfl, rfl⟩)
theorem own_made {host : String} {σ : Lambda.Shape} {cK : ClassId} (hZ : Z.WarmedH s.vm) (hm : LamKit.Made Z host σ cK) : LamKit.Made s host σ cK := by
  obtain ⟨d, dk, hd, hn, hmade, hcan⟩ := hm
  obtain ⟨dk', hd', he⟩ := hZ.alike.2.2 _ _ hd
  refine ⟨d, dk', hd', by rw [he]; exact hn, isMade_warmer hZ hmade, ?_⟩
  have hA := hZ.alike
  simp only [State.lambdaCallable, hA.findClass, hA.assignable, hA.superclasses, hA.declaredIn] at hcan ⊢
  exact hcan
/-- an interface call on a function object: into its forwarder, and out of it -/
theorem own_enter (X : Stand p l e R s m args below meth c T locs cells slots) (hexec : p.tables.exec = Jvm.exec) (hZ : Z.WarmedH s.vm) {own host : String} {index count : Nat} {xi : MethodName} {σ : Lambda.Shape}
    (hown : s.vm.findClass own = some m.cls) (hlink : (Cond.methodLink own index xi).before a0 Z = true) (hdecl : (Cond.declares xi).before a0 Z = true) (hface' : (Cond.interfaceMethod xi.cls xi.cls xi.name xi.desc).before args s = true)
    (hxi : xi.cls = σ.iface ∧ xi.name = σ.name ∧ xi.desc = σ.sam.toString) (hpoly : xi.cls ≠ "java/lang/invoke/MethodHandle" ∧ xi.cls ≠ "java/lang/invoke/VarHandle")
    {a : Addr} {cK : ClassId} (hmdZ : LamKit.Made Z host σ cK) (hfn : FnAt T.heap a cK)
    {fcode : ByteArray} {fml idx ci : Nat} {fret : Option FieldType} (hok : fwdOK σ host fcode fml fret idx ci = true)
    {g : JFrame} (hg : g.method = m) (hsize : g.locals.size = c.maxLocals) {argsL rest : List Value} {L0 : Array Slot}
    (hlen : ∀ sig, parseMethodDescriptor xi.desc = some sig → argsL.length = sig.parameters.length)
    (hstack : g.stack = argsL.reverse ++ .ref a :: rest) (hdg : decode c.code g.pc = .ok (.invokeinterface index count, 5))
    (hL0 : ∀ mk, entryFrame mk (Value.ref a :: argsL).toArray fml = mkF mk 0 L0 [])
    {R' : Room} (hfr : R'.frames + 1 ≤ R.frames) (hlo : 2 * g.monitorRoom + (rest.map fun v => v.category).sum + (fml + 11) + R'.locals ≤ R.locals) (hcells : cells + R'.cells ≤ R.cells) (hslots : slots + R'.slots ≤ R.slots) :
    ∃ (methk : Method) (ck : Code) (U s' : State), Stand p l e R' s' ⟨cK, 1⟩ (Value.ref a :: argsL).toArray (.java { g with stack := rest } :: below) methk ck U [] 0 0 ∧ ck.code = fcode ∧ ck.maxLocals = fml ∧ methk.sig.returnType = fret ∧ Z.WarmedH s'.vm ∧ U.heap = T.heap ∧
      ∀ (U' : State) (ls : List Loc) (cc sl : Nat) (v : Option Value) (pcR : Nat) (Ls : Array Slot) (op : Instr), Stand p l e R' s' ⟨cK, 1⟩ (Value.ref a :: argsL).toArray (.java { g with stack := rest } :: below) methk ck U' ls cc sl →
        decode ck.code pcR = .ok (op, 1) → RetOK fret op v → Steps p.tables e (.java { g with stack := rest } :: below) (U.setTop (mkF ⟨cK, 1⟩ 0 L0 [])) (U'.setTop (mkF ⟨cK, 1⟩ pcR Ls v.toList)) →
        ∃ T', Stand p l e R s m args below meth c T' (locs ++ ls) (cells + cc) (slots + sl) ∧ T'.heap = U'.heap ∧
          ∀ target, Steps p.tables e below (T'.setTop { g with pc := g.pc + 5, stack := v.toList ++ rest }) target → Steps p.tables e below (T.setTop g) target := by
  have hZs : Z.Warmed39 s.vm := hZ.wide
  have hmd : LamKit.Made s host σ cK := own_made hZ hmdZ
  have hlink' : (Cond.methodLink own index xi).before args s = true := mv hZs hlink
  have hdecl' : (Cond.declares xi).before args s = true := mv hZs hdecl
  obtain ⟨cell, hcell, rfl, hvmc⟩ := hfn
  obtain ⟨kK, methk, hkK, hmk, hpub, habs, hsel⟩ := madeSelects hmd hok hface' hxi
  obtain ⟨r0, r, hn, hrm, hstR, hsigR⟩ := Cond.declares_spec hdecl'
  obtain ⟨cL, kL, r1, hcL, hkL, hiL, -, -⟩ := Cond.interfaceMethod_spec hface'
  have hr0cls : r0.cls = cL := Option.some.inj ((findClass_of_methodNamed hn).symm.trans hcL)
  obtain ⟨hasg, hsel', hway⟩ := hsel r0 r hn hrm
  obtain ⟨vm₁, X₁, hstep₁⟩ := X.invokeinterface hexec hown hlink' hn hrm hstR (by rw [hr0cls]; exact hkL) hiL hpoly (a := a) (cell := cell) (kcell := kK) hcell (fun z h => by rw [hvmc] at h; cases h) hkK hasg
    (m' := ⟨cell.cls, 1⟩) (meth' := methk) (by rw [Launch.admits_selectMethod X.admits]; exact hsel') hmk hway hpub habs hg (hlen _ hsigR) hstack hdg
  obtain ⟨d, dk, hd, hdn, hmade, -⟩ := id hmd
  have hW₁ : s.WarmedH (T.setVm vm₁).vm := X₁.warmed
  obtain ⟨kD₁, hkD₁, heD₁⟩ := hW₁.alike.2.2 _ _ hd
  obtain ⟨kK₁, tk₁, file₁, methk₁, ck₁, toy₁, t₁, nt, hkK₁, hpn₁, hfile₁, hidx₁, hnt₁, hmk₁, hck₁, hbytes₁, hml₁, hlk₁, -, hretk₁, -⟩ := made_static hok hkD₁ (by rw [heD₁]; exact hdn) (Lambda.isMade_warmer hW₁ hmade)
  have hpk : (T.setVm vm₁).plainMethod ⟨cell.cls, 1⟩ := State.plainMethod.of_name (fun k' hk' => by cases hkK₁.symm.trans hk'; exact hpn₁)
  obtain ⟨Y₀, hin⟩ := X₁.into (g := { g with stack := rest }) hg hsize hdg (Value.ref a :: argsL).toArray (R' := R') hmk₁ hck₁ hlk₁ hpk hfr (by rw [hml₁]; exact hlo) hcells hslots
  rw [hml₁, hL0] at Y₀ hin
  refine ⟨methk₁, ck₁, _, _, Y₀, hbytes₁, hml₁, hretk₁, State.WarmedH.trans hZ hW₁, rfl, ?_⟩
  intro U' ls cc sl v pcR Ls op Y₁ hdR hro hsteps
  obtain ⟨fs, hleave, -, hended, hWe, hsame⟩ := Y₁.leave (v := v) (fun h => by
    rw [hretk₁] at h
    rcases hro with ⟨t, w, e', -⟩ | ⟨w, e', -⟩ | ⟨t, w, e', -⟩ | ⟨-, -, e'⟩
    · rw [e'] at h; cases h
    · rw [e'] at h; cases h
    · rw [e'] at h; cases h
    · exact e') hlk₁
  obtain ⟨T', X', -, -, ht⟩ := X₁.outOf (g := { g with stack := rest }) hg hdg hended hWe hsame
  have hheap' : T'.heap = U'.heap := by
    have q : (U'.setFrames fs).heap = (T'.setTop { g with pc := g.pc + 5, stack := v.toList ++ rest }).heap := congrArg State.heap ht
    exact (show T'.heap = U'.heap from q.symm)
  refine ⟨T', X', hheap', fun target k => hstep₁ _ fun acts => ?_⟩
  rw [hin acts]
  refine Steps.trans ?_ k
  have hfin := Jvm.LamKit.retOut Y₁ hexec (pc := pcR) (Ls := Ls) hretk₁ hro hdR hleave
  have ht' : U'.setFrames fs = T'.setTop { g with pc := g.pc + 5, stack := v.toList ++ rest } := ht
  rw [← ht']
  exact Steps.weaken (mid := [.java { g with stack := rest }]) (hsteps.trans hfin)
/-- the entry idx of the class that the rule makes names the method y -/
def refOK (σ : Lambda.Shape) (host : String) (idx ci : Nat) (y : MethodName) : Bool :=
  match σ.file host with
  | none => false
  | some D =>
    match D.constantPool[idx]?, D.constantPool[ci]? with
    | some (.methodref ci' nt), some (.class_ n) =>
      decide (ci' = ci) && decide (D.constantPool.className? ci = some y.cls) && decide (D.constantPool.nameAndType? nt = some (y.name, y.desc)) && decide (D.constantPool.string? n = some y.cls) && decide (ci ≠ D.thisClass)
    | _, _ => false
theorem made_ref {vm : Vm} {host : String} {d cK : ClassId} {dk : Class} {σ : Lambda.Shape} {idx ci : Nat} {y : MethodName} {toy : ClassId} {tk : Class} {t : MethodId} (hok : refOK σ host idx ci y = true) (hd : vm.classes[d]? = some dk) (hname : dk.name = host)
    (hm : isMade { classPath := fun _ => none } vm d σ cK = true) (htoy : vm.findClass y.cls = some toy) (htk : vm.classes[toy]? = some tk) (hlook : ((methodIn toy y.name y.desc tk.isInterface none).ask { classPath := fun _ => none } vm).1 = .ok t) :
    ∃ (k : Class) (file : ClassFile) (nt : Nat), vm.classes[cK]? = some k ∧ k.cf = some file ∧ file.constantPool[idx]? = some (.methodref ci nt) ∧ file.constantPool.nameAndType? nt = some (y.name, y.desc) ∧ vm.methodReady cK idx t ∧ vm.classReady cK ci toy := by
  obtain ⟨dk', k, ok, tk', file, cf, object, iface, toy', lay, methods, target, found, hd', hk, hfile, hcf, -, -, -, -, -, -, -, -, -, -, -, -, -, -, hpool, -, -, -, hres, -⟩ := isMade_spec hm
  cases hd.symm.trans hd'
  rw [hname] at hcf
  unfold refOK at hok
  rw [hcf] at hok
  dsimp only at hok
  split at hok
  · rename_i ci' nt n hidx hci
    simp only [Bool.and_eq_true, decide_eq_true_eq] at hok
    obtain ⟨⟨⟨⟨rfl, hcn⟩, hnt⟩, hs⟩, hne⟩ := hok
    exact ⟨k, file, nt, hk, hfile, by rw [hpool.2.1]; exact hidx, by rw [hpool.2.1]; exact hnt, ⟨k, hk, hres idx _ (resolvedOf_method hidx hcn htoy htk hnt hlook)⟩, ⟨k, hk, hres ci' _ (resolvedOf_class hci hne hs htoy)⟩⟩
  · cases hok
theorem own_look {y : MethodName} {r0 : MethodId} {tk : Class} (hn : T.methodNamed? y = some r0) (hy : y.cls ≠ "java/lang/invoke/MethodHandle" ∧ y.cls ≠ "java/lang/invoke/VarHandle") (htk : T.vm.classes[r0.cls]? = some tk) :
    T.vm.findClass y.cls = some r0.cls ∧ ((methodIn r0.cls y.name y.desc tk.isInterface none).ask { classPath := fun _ => none } T.vm).1 = .ok r0 := by
  have hf := findClass_of_methodNamed hn
  have h1 : T.methodFound? y.cls y.name y.desc = some r0 := State.methodFound?_of_named hn hy
  simp only [State.methodFound?, hf, htk, Option.bind_eq_bind, Option.bind_some] at h1
  refine ⟨hf, ?_⟩
  cases hq : ((methodIn r0.cls y.name y.desc tk.isInterface none).ask { classPath := fun _ => none } T.vm).1 with
  | ok t => rw [hq] at h1; simp [Except.toOption] at h1; rw [h1]
  | error x => rw [hq] at h1; simp [Except.toOption] at h1
end OwnLam
end Jvm.RoadKit
namespace Jvm.RoadKit
open Sem ClassFile Op Lib Jvm.Stand Jvm.Free Jvm.LawKit Jvm.LamKit Jvm.Lambda
section OwnLam2
variable {p : Program} {l : Launch} {e : Env} {R : Room} {s : State} {m : MethodId} {args : Array Value} {below : List Frame} {meth : Method} {c : Code} {T : State} {locs : List Loc} {cells slots : Nat} {Z : State} {a0 : Array Value} {h h' : Heap}
theorem own_selpriv {y z w : MethodName} {C : String} (hs : (Jvm.Cond.selects C w z).before args s = true) (hz : z.cls = y.cls) (hp : s.PrivateAt y) (hi : (Jvm.Cond.instanceMethod y).before args s = true) (hy : y.cls ≠ "java/lang/invoke/MethodHandle" ∧ y.cls ≠ "java/lang/invoke/VarHandle") : (Jvm.Cond.selects y.cls y y).before args s = true := by
  obtain ⟨c2, r2, m2, -, -, q3, -, kP, hkP, hkPi⟩ := Cond.selects_spec hs
  have hc := findClass_of_methodNamed q3
  rw [hz] at hc
  exact selects_self_of_private hc hkP hkPi hp hi hy
/-- 'invokevirtual' of a private method in a forwarder -/
theorem own_fvp (X : Stand p l e R s m args below meth c T locs cells slots) (hexec : p.tables.exec = Jvm.exec) (hZ : Z.WarmedH s.vm) {host : String} {σ : Lambda.Shape} {cK : ClassId} (hmd : LamKit.Made Z host σ cK) (hm : m = ⟨cK, 1⟩) {idx ci : Nat} {y : MethodName} (hok : refOK σ host idx ci y = true)
    (hy : y.cls ≠ "java/lang/invoke/MethodHandle" ∧ y.cls ≠ "java/lang/invoke/VarHandle") {bytes : ByteArray} {maxL : Nat} {ret : Option FieldType} (hcode : (Cond.code y bytes maxL ret).before a0 Z = true) (hsel : (Cond.selects y.cls y y).before a0 Z = true) (hinst : (Cond.instanceMethod y).before a0 Z = true)
    {W : Nat} {Pre : Pt → Array Value → Prop} {Post : Pt → Array Value → Option Value → Pt → Prop} (hK : Back l R p e below s args y 3 W Pre Post)
    (eT : T.heap = h) {b : Addr} (E : Exa Z h b y.cls) {g : JFrame} (hg : g.method = m) (hsize : g.locals.size = c.maxLocals) {argsL rest : List Value}
    (hlen : ∀ sig, parseMethodDescriptor y.desc = some sig → argsL.length = sig.parameters.length) (hstack : g.stack = argsL.reverse ++ .ref b :: rest) (hW : 2 * g.monitorRoom + (rest.map fun v => v.category).sum ≤ W)
    (hdg : decode c.code g.pc = .ok (.invokevirtual idx, 3)) (hpre : Pre ⟨T, locs, cells, slots⟩ (.ref b :: argsL).toArray) :
    ∃ (v : Option Value) (B : Pt), Stand p l e R s m args below meth c B.U B.locs B.cells B.slots ∧ Post ⟨T, locs, cells, slots⟩ (.ref b :: argsL).toArray v B ∧
      ∀ target, Steps p.tables e below (B.U.setTop { g with pc := g.pc + 3, stack := v.toList ++ rest }) target → Steps p.tables e below (T.setTop g) target := by
  subst hm
  have hWT : Z.WarmedH T.vm := State.WarmedH.trans hZ X.warmed
  have hT : Z.Warmed39 T.vm := hWT.wide
  obtain ⟨mk, methM, hnamed, hmethM, hstR, habM⟩ := Cond.instanceMethod_spec (mv (args := args) (s := T) hT hinst)
  obtain ⟨methM', cM, hmethM', -, -, -, -, -, -, hsigR⟩ := Cond.code_spec hnamed (mv (args := args) (s := T) hT hcode)
  cases hmethM.symm.trans hmethM'
  obtain ⟨c2, r2, m2, q1, q2, q3, q4, kP, hkP, hkPi⟩ := Cond.selects_spec (mv (args := args) (s := T) hT hsel)
  cases (State.methodFound?_of_named hnamed hy).symm.trans q2
  cases hnamed.symm.trans q3
  obtain ⟨tk, htk, hnm⟩ := className_of_methodNamed hnamed
  have htkP : kP = tk := Option.some.inj (hkP.symm.trans htk)
  subst htkP
  obtain ⟨hfy, hlook⟩ := own_look hnamed hy htk
  obtain ⟨d, dk, hd, hdn, hmade, -⟩ := hmd
  obtain ⟨dk', hd', he⟩ := hWT.alike.2.2 _ _ hd
  obtain ⟨k, file, nt, hk, hfile, hidx, hnt, hready, hclsR⟩ := made_ref hok hd' (by rw [he]; exact hdn) (isMade_warmer hWT hmade) hfy htk hlook
  obtain ⟨cell, kc, hcell, hfc, hkc, hst, -⟩ := E
  have hcellT : T.heap[b]? = some cell := by rw [eT]; exact hcell
  have hc2 : c2 = cell.cls := by
    rw [hT.alike.findClass] at q1
    exact Option.some.inj (q1.symm.trans hfc)
  subst hc2
  have hsp : signaturePolymorphic kP methM = false := by simp [signaturePolymorphic, hnm, hy.1, hy.2]
  obtain ⟨v, B, X', hpost, hsteps⟩ := hK _ meth c ⟨T, locs, cells, slots⟩ { g with stack := rest } (.invokevirtual idx) mk (.ref b :: argsL).toArray X hg hsize hdg hW hnamed hpre
  refine ⟨v, B, X', hpost, fun target q => ?_⟩
  have hU' : At T g.method c below := by rw [hg]; exact X.here
  jvm_step hU' [hexec, hdg, invokevirtual.wp_ready (e := e) (s := T) (f := g) (r := mk) (m := mk) (k := kP) (mk := kP) (rmeth := methM) (meth := methM) (a := b) (args := argsL) (rest := rest) (cell := cell) X.here.top
    (by rw [hg]; exact ⟨k, file, ci, nt, mk.cls, kP, hk, hfile, hidx, hclsR, htk, hkPi⟩) (by rw [hg]; exact hready) htk hmethM hsp hstR (hlen _ hsigR) hstack hcellT (fun z q => by rw [q] at hst; cases hst) (by rw [Launch.admits_selectMethod X.admits]; exact q4) hmethM habM htk hkPi]
  intro acts
  rw [doInvoke_state]
  exact hsteps.trans q
/-- the function object L: of the made class, it holds q -/
def LamO (h : Heap) (L : Addr) (cK : ClassId) (q : Addr) : Prop := ∃ cell : Cell, h[L]? = some cell ∧ cell.cls = cK ∧ cell.vm = .none ∧ cell.slots[0]? = some (.ref q)
theorem LamO.lt {L q : Addr} {cK : ClassId} (F : LamO h L cK q) : L < h.size := by obtain ⟨c, h1, -⟩ := F; exact (Array.getElem?_eq_some_iff.mp h1).1
theorem LamO.ext {L q : Addr} {cK : ClassId} (F : LamO h L cK q) (E : Ext h h') : LamO h' L cK q := by obtain ⟨c, h1, r⟩ := F; exact ⟨c, E.2 _ _ h1, r⟩
theorem LamO.keep {L q : Addr} {cK : ClassId} {ws : List Addr} (F : LamO h L cK q) (K : Keep h h' ws) (n : L ∉ ws) : LamO h' L cK q := by obtain ⟨c, h1, r⟩ := F; exact ⟨c, K.2.1 _ _ h1 n, r⟩
theorem LamO.other {L q a : Addr} {cK : ClassId} {sl : Nat} {v : Value} (F : LamO h L cK q) (W : Wr h h' a sl v) (n : L ≠ a) : LamO h' L cK q := F.keep (Keep.of_wr W) (ninS n nin0)
theorem LamO.fn {L q : Addr} {cK : ClassId} (F : LamO h L cK q) (eT : T.heap = h) : FnAt T.heap L cK := by obtain ⟨c, h1, h2, h3, -⟩ := F; exact ⟨c, by rw [eT]; exact h1, h2, h3⟩
/-- 'invokedynamic' at a site that captures one reference -/
theorem own_siteM (X : Stand p l e R s m args below meth c T locs cells slots) (hexec : p.tables.exec = Jvm.exec) (hZ : Z.WarmedH s.vm) {x : MethodName} {pc index fi : Nat} {σ : Lambda.Shape} (hnamed : s.methodNamed? x = some m)
    (hsite : (Cond.lambdaSite x pc index σ).before a0 Z = true) {t : FieldType} (hcap : σ.captured = [t]) (ht : t.isReference = true) (hok : capOK σ x.cls fi 0 = true) (hO : (Cond.instantiable "java/lang/Object" 0).before a0 Z = true)
    (eT : T.heap = h) {g : JFrame} (hg : g.method = m) (hpc : g.pc = pc) (hsize : g.locals.size = c.maxLocals) (hdg : decode c.code g.pc = .ok (.invokedynamic index, 5))
    {q : Addr} {rest : List Value} (hstack : g.stack = .ref q :: rest)
    (hwords : 2 * g.monitorRoom + (g.stack.map fun v => v.category).sum + 3072 ≤ R.locals) (hcells : cells + 1 ≤ R.cells) (hslots : slots + 1 ≤ R.slots) :
    ∃ (cK : ClassId) (T' : State) (h' : Heap), LamKit.Made Z x.cls σ cK ∧ Stand p l e R s m args below meth c T' locs (cells + 1) (slots + 1) ∧ T'.heap = h' ∧ Ext h h' ∧ LamO h' h.size cK q ∧
      ∀ target, Steps p.tables e below (T'.setTop { g with pc := g.pc + 5, stack := .ref h.size :: rest }) target → Steps p.tables e below (T.setTop g) target := by
  obtain ⟨cK, one, hat⟩ := Cond.lambdaSite_spec hsite
  obtain ⟨mD, kD, cfD, i0, p0, lk, hmD, hkD, hcfD, hsh, -, hfind, hmade, hcan, hl⟩ := State.lambdaAt?_spec hat
  have hn' : s.methodNamed? x = some mD := by
    have q := State.methodNamed?_setVm (s := Z) hZ.alike x
    rw [hmD] at q
    exact q
  cases hnamed.symm.trans hn'
  obtain ⟨kD', hkD', hnameD⟩ := className_of_methodNamed hmD
  cases hkD.symm.trans hkD'
  rcases hl with ⟨a, cell, -, -, hc0, -⟩ | ⟨rfl, -, -⟩
  · rw [hcap] at hc0; cases hc0
  · obtain ⟨b, nt, desc, site, h1, h2, h3, h4⟩ := shapeOf?_site hsh
    obtain ⟨kS, hkS, heS⟩ := hZ.alike.2.2 _ _ hkD
    obtain ⟨kc, f, hkc, hkind, hty, -⟩ := made_cap hok hkS (by rw [heS]; exact hnameD) (isMade_warmer hZ hmade) (noFields hO hZ)
    have hty' : kc.instanceTypes = #[t] := by rw [hty, hcap]
    have hna : narrow t (.ref q) = .ref q := by cases t <;> first | rfl | cases ht
    have hfi : fits t (.ref q) = true := by cases t <;> first | rfl | cases ht
    have hz : ((kc.instanceTypes.toList.zip [Value.ref q]).map fun (t, v) => narrow t v) = [.ref q] := by rw [hty']; simp [hna]
    have hw : e.platform.lambdaLinkWords = 3072 := by rw [X.admits.platform]
    have r := X.lambdaMakes hexec hg hsize hdg (vals := [.ref q]) (rest := rest) hkS (by rw [heS, hpc]; exact hfind) (by rw [heS]; exact hcfD) h1 h2 (parseLong_of_parse h3) (by rw [h4, hcap]; rfl) hstack hkc (by rw [hw]; exact hwords) hcells (by rw [hz]; exact hslots)
      (fun i v hv => by
        rw [hz] at hv
        have hv' : [Value.ref q][i]? = some v := by simpa using hv
        cases i with
        | zero => cases hv'; simp [State.fitsSlot, State.slotType?, hkc, hkind, hty', hfi]
        | succ i => simp at hv')
    rw [hz] at r
    subst eT
    exact ⟨cK, _, _, ⟨_, kD, hkD, hnameD, hmade, hcan⟩, by simpa using r.1, rfl, ⟨by show T.heap.size ≤ (T.heap.push _).size; simp, fun a c h => by show (T.heap.push _)[a]? = _; rw [Array.getElem?_push_lt (Array.getElem?_eq_some_iff.mp h).1]; exact (Array.getElem?_eq_getElem _).symm.trans h⟩,
      ⟨_, by show (T.heap.push _)[T.heap.size]? = _; simp; rfl, rfl, rfl, rfl⟩, r.2⟩
/-- an array of which every place has a property -/
def Arp (Z : State) (h : Heap) (a : Addr) (k : ClassId) (ty : FieldType) (n : Int32) (P : Value → Prop) : Prop := ∃ c : Cell, Arr Z h a c ty ∧ c.cls = k ∧ c.slots.size = n.toNatClampNeg ∧ ¬ n < 0 ∧ (∀ (i : Nat) v, c.slots[i]? = some v → P v) ∧ True
variable {a b : Addr} {k : ClassId} {ty : FieldType} {n j : Int32} {P : Value → Prop}
theorem Arp.lt (F : Arp Z h a k ty n P) : a < h.size := by obtain ⟨c, A, -⟩ := F; exact A.lt
theorem Arp.ext (F : Arp Z h a k ty n P) (E : Ext h h') : Arp Z h' a k ty n P := by obtain ⟨c, A, r⟩ := F; exact ⟨c, A.ext E, r⟩
theorem Arp.other {sl : Nat} {v : Value} (F : Arp Z h b k ty n P) (W : Wr h h' a sl v) (q : b ≠ a) : Arp Z h' b k ty n P := by obtain ⟨c, A, r⟩ := F; exact ⟨c, A.other W q, r⟩
theorem Arp.keep {ws : List Addr} (F : Arp Z h a k ty n P) (K : Keep h h' ws) (q : a ∉ ws) : Arp Z h' a k ty n P := by obtain ⟨c, A, r⟩ := F; exact ⟨c, ⟨K.2.1 a c A.1 q, A.2⟩, r⟩
theorem Arp.of {vs : List Value} {d : Value} (F : Arv Z h a k ty n vs d) (hP : ∀ i, P (vs.getD i d)) : Arp Z h a k ty n P := by
  obtain ⟨c, A, q1, q2, q3, H, -⟩ := F
  refine ⟨c, A, q1, q2, q3, fun i v hv => ?_, trivial⟩
  have hi := (Array.getElem?_eq_some_iff.mp hv).1
  cases (H i hi).symm.trans hv
  exact hP i
theorem Arp.get {cl : Cell} (H : ∀ (i : Nat) v, cl.slots[i]? = some v → P v) (hin : ¬ (j < 0 ∨ cl.slots.size ≤ j.toNatClampNeg)) : ∃ v, cl.slots[j.toNatClampNeg]? = some v ∧ P v := by
  have hlt : j.toNatClampNeg < cl.slots.size := Nat.lt_of_not_le fun q => hin (Or.inr q)
  exact ⟨_, Array.getElem?_eq_getElem hlt, H _ _ (Array.getElem?_eq_getElem hlt)⟩
theorem Arp.set {cl : Cell} {v : Value} {i : Nat} (A : Arr Z h a cl ty) (q1 : cl.cls = k) (S : cl.slots.size = n.toNatClampNeg) (q3 : ¬ n < 0) (H : ∀ (i : Nat) v, cl.slots[i]? = some v → P v) (hv : P v) (W : Wr h h' a i v) : Arp Z h' a k ty n P := by
  refine ⟨_, A.same W, q1, by rw [sz_set]; exact S, q3, fun x w hx => ?_, trivial⟩
  by_cases u : i = x
  · subst u
    have hi : i < cl.slots.size := by
      have := (Array.getElem?_eq_some_iff.mp hx).1
      simpa [Cell.setSlot] using this
    rw [Cell.slots_setSlot_self v hi] at hx
    cases hx; exact hv
  · rw [Cell.slots_setSlot_ne v u] at hx
    exact H _ _ hx
def PI (v : Value) : Prop := ∃ y : Int32, v = .int y ∧ (y = -1 ∨ y = 0 ∨ y = 1)
def PJ (v : Value) : Prop := ∃ y : Int64, v = .long y
theorem own_PI {y : Int32} (h : y = -1 ∨ y = 0 ∨ y = 1) : PI (.int y) := ⟨y, rfl, h⟩
theorem own_PJ (y : Int64) : PJ (.long y) := ⟨y, rfl⟩
theorem own_set2I {cl : Cell} {w x0 x1 dw : Int32} (A : Arr Z h a cl ty) (q1 : cl.cls = k) (S : cl.slots.size = (2 : Int32).toNatClampNeg) (q3 : ¬ (2 : Int32) < 0) (H : Has cl [.int x0, .int x1] (.int dw)) (G : ∀ i, i < cl.slots.size → fits ty (([.int x0, .int x1] : List Value).getD i (.int dw)) = true)
    (hv : fits ty (.int w) = true) (W : Wr h h' a j.toNatClampNeg (.int w)) (hj : j = 0 ∨ j = 1) : Arv Z h' a k ty 2 [.int (if j = 0 then w else x0), .int (if j = 1 then w else x1)] (.int dw) := by
  rcases hj with rfl | rfl
  · exact Arv.set A q1 S q3 H G hv W 0 rfl (Nat.le_of_ble_eq_true rfl)
  · exact Arv.set A q1 S q3 H G hv W 1 rfl (Nat.le_of_ble_eq_true rfl)
theorem own_set2J {cl : Cell} {w x0 x1 dw : Int64} (A : Arr Z h a cl ty) (q1 : cl.cls = k) (S : cl.slots.size = (2 : Int32).toNatClampNeg) (q3 : ¬ (2 : Int32) < 0) (H : Has cl [.long x0, .long x1] (.long dw)) (G : ∀ i, i < cl.slots.size → fits ty (([.long x0, .long x1] : List Value).getD i (.long dw)) = true)
    (hv : fits ty (.long w) = true) (W : Wr h h' a j.toNatClampNeg (.long w)) (hj : j = 0 ∨ j = 1) : Arv Z h' a k ty 2 [.long (if j = 0 then w else x0), .long (if j = 1 then w else x1)] (.long dw) := by
  rcases hj with rfl | rfl
  · exact Arv.set A q1 S q3 H G hv W 0 rfl (Nat.le_of_ble_eq_true rfl)
  · exact Arv.set A q1 S q3 H G hv W 1 rfl (Nat.le_of_ble_eq_true rfl)
theorem own_nd {D : List Addr} (hD : D.Nodup) (i j : Nat) {x y : Addr} (hx : D[i]? = some x) (hy : D[j]? = some y) (hne : i ≠ j) : x ≠ y := fun q => by
  subst q
  have hi := (List.getElem?_eq_some_iff.mp hx).1
  exact hne ((List.getElem?_inj hi hD).mp (hx.trans hy.symm))
theorem own_dup2 {tb : Tables} [Ours tb] {e : Env} {below : List Frame} {T target : State} {m : MethodId} {c : Code} {g : JFrame} (h : At T m c below) (hx : tb.exec = Jvm.exec) (hg : g.method = m) {x y : Value} {rest : List Value} (hd : decode c.code g.pc = .ok (.dup2, 1)) (hs : g.stack = x :: y :: rest) (h1 : x.category = 1) (h2 : y.category = 1)
    (hr : Steps tb e below (T.setTop { g with pc := g.pc + 1, stack := x :: y :: x :: y :: rest }) target) : Steps tb e below (T.setTop g) target := by
  subst hg
  jvm_step h [h.top, hx, hd, hs, h1, h2]
  exact hr
/-- one place of an array -/
def Elt (h : Heap) (a : Addr) (i : Nat) (v : Value) : Prop := ∃ cl : Cell, h[a]? = some cl ∧ cl.slots[i]? = some v
theorem Elt.ext {i : Nat} {v : Value} (F : Elt h a i v) (E : Ext h h') : Elt h' a i v := by obtain ⟨c, h1, r⟩ := F; exact ⟨c, E.2 _ _ h1, r⟩
theorem Elt.keep {i : Nat} {v : Value} {ws : List Addr} (F : Elt h a i v) (K : Keep h h' ws) (q : a ∉ ws) : Elt h' a i v := by obtain ⟨c, h1, r⟩ := F; exact ⟨c, K.2.1 _ _ h1 q, r⟩
theorem Elt.other {i sl : Nat} {v w : Value} (F : Elt h a i v) (W : Wr h h' b sl w) (q : a ≠ b) : Elt h' a i v := F.keep (Keep.of_wr W) (ninS q nin0)
theorem Elt.at {i : Nat} {v : Value} {cl : Cell} (F : Elt h a i v) (hc : h[a]? = some cl) : cl.slots[i]? = some v := by obtain ⟨c, h1, r⟩ := F; cases hc.symm.trans h1; exact r
/-- an array as a function of its places -/
def ArfI (Z : State) (h : Heap) (a : Addr) (k : ClassId) (n : Int32) (F : Nat → Int32) : Prop := ∃ c : Cell, Arr Z h a c .int ∧ c.cls = k ∧ c.slots.size = n.toNatClampNeg ∧ ¬ n < 0 ∧ (∀ i : Nat, i < c.slots.size → c.slots[i]? = some (.int (F i))) ∧ True
theorem ArfI.lt {F : Nat → Int32} (A : ArfI Z h a k n F) : a < h.size := by obtain ⟨c, A, -⟩ := A; exact A.lt
theorem ArfI.ext {F : Nat → Int32} (A : ArfI Z h a k n F) (E : Ext h h') : ArfI Z h' a k n F := by obtain ⟨c, A, r⟩ := A; exact ⟨c, A.ext E, r⟩
theorem ArfI.other {F : Nat → Int32} {sl : Nat} {v : Value} (A : ArfI Z h b k n F) (W : Wr h h' a sl v) (q : b ≠ a) : ArfI Z h' b k n F := by obtain ⟨c, A, r⟩ := A; exact ⟨c, A.other W q, r⟩
theorem ArfI.keep {F : Nat → Int32} {ws : List Addr} (A : ArfI Z h a k n F) (K : Keep h h' ws) (q : a ∉ ws) : ArfI Z h' a k n F := by obtain ⟨c, A, r⟩ := A; exact ⟨c, ⟨K.2.1 a c A.1 q, A.2⟩, r⟩
theorem ArfI.of {x : Int32} (A : Arv Z h a k .int n [] (.int x)) : ArfI Z h a k n (fun _ => x) := by
  obtain ⟨c, A, q1, q2, q3, H, -⟩ := A
  exact ⟨c, A, q1, q2, q3, fun i hi => H i hi, trivial⟩
theorem ArfI.prop {F : Nat → Int32} {P : Value → Prop} (A : ArfI Z h a k n F) (hP : ∀ i, P (.int (F i))) : Arp Z h a k .int n P := by
  obtain ⟨c, A, q1, q2, q3, H, -⟩ := A
  refine ⟨c, A, q1, q2, q3, fun i v hv => ?_, trivial⟩
  have hi := (Array.getElem?_eq_some_iff.mp hv).1
  cases (H i hi).symm.trans hv
  exact hP i
theorem ArfI.get {F : Nat → Int32} {cl : Cell} {y : Int32} (H : ∀ i : Nat, i < cl.slots.size → cl.slots[i]? = some (.int (F i))) (hin : ¬ (j < 0 ∨ cl.slots.size ≤ j.toNatClampNeg)) (hy : y = F j.toNatClampNeg) : cl.slots[j.toNatClampNeg]? = some (.int y) := by
  subst hy
  exact H _ (Nat.lt_of_not_le fun q => hin (Or.inr q))
theorem ArfI.set {F : Nat → Int32} {cl : Cell} {v : Int32} {i : Nat} (A : Arr Z h a cl .int) (q1 : cl.cls = k) (S : cl.slots.size = n.toNatClampNeg) (q3 : ¬ n < 0) (H : ∀ i : Nat, i < cl.slots.size → cl.slots[i]? = some (.int (F i))) (W : Wr h h' a i (.int v)) : ArfI Z h' a k n (fun j => if j = i then v else F j) := by
  refine ⟨_, A.same W, q1, by rw [sz_set]; exact S, q3, fun x hx => ?_, trivial⟩
  rw [sz_set] at hx
  by_cases u : i = x
  · subst u
    rw [Cell.slots_setSlot_self _ hx]
    show some (Value.int v) = some (Value.int (if i = i then v else F i))
    rw [if_pos rfl]
  · rw [Cell.slots_setSlot_ne _ u, H x hx]
    show some (Value.int (F x)) = some (Value.int (if x = i then v else F x))
    rw [if_neg (fun e => u e.symm)]
/-- an array as a function of its places -/
def ArfJ (Z : State) (h : Heap) (a : Addr) (k : ClassId) (n : Int32) (F : Nat → Int64) : Prop := ∃ c : Cell, Arr Z h a c .long ∧ c.cls = k ∧ c.slots.size = n.toNatClampNeg ∧ ¬ n < 0 ∧ (∀ i : Nat, i < c.slots.size → c.slots[i]? = some (.long (F i))) ∧ True
theorem ArfJ.lt {F : Nat → Int64} (A : ArfJ Z h a k n F) : a < h.size := by obtain ⟨c, A, -⟩ := A; exact A.lt
theorem ArfJ.ext {F : Nat → Int64} (A : ArfJ Z h a k n F) (E : Ext h h') : ArfJ Z h' a k n F := by obtain ⟨c, A, r⟩ := A; exact ⟨c, A.ext E, r⟩
theorem ArfJ.other {F : Nat → Int64} {sl : Nat} {v : Value} (A : ArfJ Z h b k n F) (W : Wr h h' a sl v) (q : b ≠ a) : ArfJ Z h' b k n F := by obtain ⟨c, A, r⟩ := A; exact ⟨c, A.other W q, r⟩
theorem ArfJ.keep {F : Nat → Int64} {ws : List Addr} (A : ArfJ Z h a k n F) (K : Keep h h' ws) (q : a ∉ ws) : ArfJ Z h' a k n F := by obtain ⟨c, A, r⟩ := A; exact ⟨c, ⟨K.2.1 a c A.1 q, A.2⟩, r⟩
theorem ArfJ.of {x : Int64} (A : Arv Z h a k .long n [] (.long x)) : ArfJ Z h a k n (fun _ => x) := by
  obtain ⟨c, A, q1, q2, q3, H, -⟩ := A
  exact ⟨c, A, q1, q2, q3, fun i hi => H i hi, trivial⟩
theorem ArfJ.prop {F : Nat → Int64} {P : Value → Prop} (A : ArfJ Z h a k n F) (hP : ∀ i, P (.long (F i))) : Arp Z h a k .long n P := by
  obtain ⟨c, A, q1, q2, q3, H, -⟩ := A
  refine ⟨c, A, q1, q2, q3, fun i v hv => ?_, trivial⟩
  have hi := (Array.getElem?_eq_some_iff.mp hv).1
  cases (H i hi).symm.trans hv
  exact hP i
theorem ArfJ.get {F : Nat → Int64} {cl : Cell} {y : Int64} (H : ∀ i : Nat, i < cl.slots.size → cl.slots[i]? = some (.long (F i))) (hin : ¬ (j < 0 ∨ cl.slots.size ≤ j.toNatClampNeg)) (hy : y = F j.toNatClampNeg) : cl.slots[j.toNatClampNeg]? = some (.long y) := by
  subst hy
  exact H _ (Nat.lt_of_not_le fun q => hin (Or.inr q))
theorem ArfJ.set {F : Nat → Int64} {cl : Cell} {v : Int64} {i : Nat} (A : Arr Z h a cl .long) (q1 : cl.cls = k) (S : cl.slots.size = n.toNatClampNeg) (q3 : ¬ n < 0) (H : ∀ i : Nat, i < cl.slots.size → cl.slots[i]? = some (.long (F i))) (W : Wr h h' a i (.long v)) : ArfJ Z h' a k n (fun j => if j = i then v else F j) := by
  refine ⟨_, A.same W, q1, by rw [sz_set]; exact S, q3, fun x hx => ?_, trivial⟩
  rw [sz_set] at hx
  by_cases u : i = x
  · subst u
    rw [Cell.slots_setSlot_self _ hx]
    show some (Value.long v) = some (Value.long (if i = i then v else F i))
    rw [if_pos rfl]
  · rw [Cell.slots_setSlot_ne _ u, H x hx]
    show some (Value.long (F x)) = some (Value.long (if x = i then v else F x))
    rw [if_neg (fun e => u e.symm)]
end OwnLam2
end Jvm.RoadKit
namespace Jvm.RoadKit
open Sem ClassFile Op Lib Jvm.Stand Jvm.Free Jvm.LawKit
section OwnSteps
variable {p : Program} {l : Launch} {e : Env} {R : Room} {s : State} {m : MethodId} {args : Array Value} {below : List Frame} {meth : Method} {c : Code} {T : State} {locs : List Loc} {cells slots : Nat} {pc : Nat} {Ls : Array Slot} {st : List Value} {target : State}
theorem s_aloadN (X : Stand p l e R s m args below meth c T locs cells slots) (hx : p.tables.exec = Jvm.exec) {k : Fin 4} {v : Value} (hd : decode c.code pc = .ok (.aload_n k, 1)) (hl : Ls[k.val]? = some (.val v)) (hv : v.isRef = true) (hr : Steps p.tables e below (T.setTop (mkF m (pc + 1) Ls (v :: st))) target) : Steps p.tables e below (T.setTop (mkF m pc Ls st)) target := XS.aloadN (g := mkF m pc Ls st) X.here hx rfl hd hl hv hr
theorem s_aload (X : Stand p l e R s m args below meth c T locs cells slots) (hx : p.tables.exec = Jvm.exec) {k : Nat} {v : Value} (hd : decode c.code pc = .ok (.aload k, 2)) (hl : Ls[k]? = some (.val v)) (hv : v.isRef = true) (hr : Steps p.tables e below (T.setTop (mkF m (pc + 2) Ls (v :: st))) target) : Steps p.tables e below (T.setTop (mkF m pc Ls st)) target := XS.aload (g := mkF m pc Ls st) X.here hx rfl hd hl hv hr
theorem s_astore (X : Stand p l e R s m args below meth c T locs cells slots) (hx : p.tables.exec = Jvm.exec) {k : Nat} {x : Value} {l' : Array Slot} (hd : decode c.code pc = .ok (.astore k, 2)) (hv : x.isRef = true) (hl : storeLocals Ls k x = some l') (hr : Steps p.tables e below (T.setTop (mkF m (pc + 2) l' st)) target) : Steps p.tables e below (T.setTop (mkF m pc Ls (x :: st))) target := XS.astore (g := mkF m pc Ls (x :: st)) X.here hx rfl hd rfl hv hl hr
theorem s_iloadN (X : Stand p l e R s m args below meth c T locs cells slots) (hx : p.tables.exec = Jvm.exec) {k : Fin 4} {v : Int32} (hd : decode c.code pc = .ok (.iload_n k, 1)) (hl : Ls[k.val]? = some (.val (.int v))) (hr : Steps p.tables e below (T.setTop (mkF m (pc + 1) Ls (.int v :: st))) target) : Steps p.tables e below (T.setTop (mkF m pc Ls st)) target := XS.iloadN (g := mkF m pc Ls st) X.here hx rfl hd hl hr
theorem s_istoreN (X : Stand p l e R s m args below meth c T locs cells slots) (hx : p.tables.exec = Jvm.exec) {k : Fin 4} {x : Int32} {l' : Array Slot} (hd : decode c.code pc = .ok (.istore_n k, 1)) (hl : storeLocals Ls k.val (.int x) = some l') (hr : Steps p.tables e below (T.setTop (mkF m (pc + 1) l' st)) target) : Steps p.tables e below (T.setTop (mkF m pc Ls (.int x :: st))) target := XS.istoreN (g := mkF m pc Ls (.int x :: st)) X.here hx rfl hd rfl hl hr
theorem s_iload (X : Stand p l e R s m args below meth c T locs cells slots) (hx : p.tables.exec = Jvm.exec) {k : Nat} {v : Int32} (hd : decode c.code pc = .ok (.iload k, 2)) (hl : Ls[k]? = some (.val (.int v))) (hr : Steps p.tables e below (T.setTop (mkF m (pc + 2) Ls (.int v :: st))) target) : Steps p.tables e below (T.setTop (mkF m pc Ls st)) target := XS.iload (g := mkF m pc Ls st) X.here hx rfl hd hl hr
theorem s_istore (X : Stand p l e R s m args below meth c T locs cells slots) (hx : p.tables.exec = Jvm.exec) {k : Nat} {x : Int32} {l' : Array Slot} (hd : decode c.code pc = .ok (.istore k, 2)) (hl : storeLocals Ls k (.int x) = some l') (hr : Steps p.tables e below (T.setTop (mkF m (pc + 2) l' st)) target) : Steps p.tables e below (T.setTop (mkF m pc Ls (.int x :: st))) target := XS.istore (g := mkF m pc Ls (.int x :: st)) X.here hx rfl hd rfl hl hr
theorem s_lloadN (X : Stand p l e R s m args below meth c T locs cells slots) (hx : p.tables.exec = Jvm.exec) {k : Fin 4} {v : Int64} (hd : decode c.code pc = .ok (.lload_n k, 1)) (hl : Ls[k.val]? = some (.val (.long v))) (hr : Steps p.tables e below (T.setTop (mkF m (pc + 1) Ls (.long v :: st))) target) : Steps p.tables e below (T.setTop (mkF m pc Ls st)) target := XS.lloadN (g := mkF m pc Ls st) X.here hx rfl hd hl hr
theorem s_lstoreN (X : Stand p l e R s m args below meth c T locs cells slots) (hx : p.tables.exec = Jvm.exec) {k : Fin 4} {x : Int64} {l' : Array Slot} (hd : decode c.code pc = .ok (.lstore_n k, 1)) (hl : storeLocals Ls k.val (.long x) = some l') (hr : Steps p.tables e below (T.setTop (mkF m (pc + 1) l' st)) target) : Steps p.tables e below (T.setTop (mkF m pc Ls (.long x :: st))) target := XS.lstoreN (g := mkF m pc Ls (.long x :: st)) X.here hx rfl hd rfl hl hr
theorem s_lload (X : Stand p l e R s m args below meth c T locs cells slots) (hx : p.tables.exec = Jvm.exec) {k : Nat} {v : Int64} (hd : decode c.code pc = .ok (.lload k, 2)) (hl : Ls[k]? = some (.val (.long v))) (hr : Steps p.tables e below (T.setTop (mkF m (pc + 2) Ls (.long v :: st))) target) : Steps p.tables e below (T.setTop (mkF m pc Ls st)) target := XS.lload (g := mkF m pc Ls st) X.here hx rfl hd hl hr
theorem s_lstore (X : Stand p l e R s m args below meth c T locs cells slots) (hx : p.tables.exec = Jvm.exec) {k : Nat} {x : Int64} {l' : Array Slot} (hd : decode c.code pc = .ok (.lstore k, 2)) (hl : storeLocals Ls k (.long x) = some l') (hr : Steps p.tables e below (T.setTop (mkF m (pc + 2) l' st)) target) : Steps p.tables e below (T.setTop (mkF m pc Ls (.long x :: st))) target := XS.lstore (g := mkF m pc Ls (.long x :: st)) X.here hx rfl hd rfl hl hr
theorem s_iconst (X : Stand p l e R s m args below meth c T locs cells slots) (hx : p.tables.exec = Jvm.exec) {i : Int} (r : Int32) (hd : decode c.code pc = .ok (.iconst i, 1)) (hf : Int32.ofInt i = r) (hr : Steps p.tables e below (T.setTop (mkF m (pc + 1) Ls (.int r :: st))) target) : Steps p.tables e below (T.setTop (mkF m pc Ls st)) target := XS.iconst (g := mkF m pc Ls st) X.here hx rfl hd (by rw [← hf] at hr; exact hr)
theorem s_bipush (X : Stand p l e R s m args below meth c T locs cells slots) (hx : p.tables.exec = Jvm.exec) {i : Int} (r : Int32) (hd : decode c.code pc = .ok (.bipush i, 2)) (hf : (Int8.ofInt i).toInt32 = r) (hr : Steps p.tables e below (T.setTop (mkF m (pc + 2) Ls (.int r :: st))) target) : Steps p.tables e below (T.setTop (mkF m pc Ls st)) target := XS.bipush (g := mkF m pc Ls st) X.here hx rfl hd (by rw [← hf] at hr; exact hr)
theorem s_sipush (X : Stand p l e R s m args below meth c T locs cells slots) (hx : p.tables.exec = Jvm.exec) {i : Int} (r : Int32) (hd : decode c.code pc = .ok (.sipush i, 3)) (hf : (Int16.ofInt i).toInt32 = r) (hr : Steps p.tables e below (T.setTop (mkF m (pc + 3) Ls (.int r :: st))) target) : Steps p.tables e below (T.setTop (mkF m pc Ls st)) target := XS.sipush (g := mkF m pc Ls st) X.here hx rfl hd (by rw [← hf] at hr; exact hr)
theorem s_lconst (X : Stand p l e R s m args below meth c T locs cells slots) (hx : p.tables.exec = Jvm.exec) {k : Fin 2} (r : Int64) (hd : decode c.code pc = .ok (.lconst k, 1)) (hf : Int64.ofNat k = r) (hr : Steps p.tables e below (T.setTop (mkF m (pc + 1) Ls (.long r :: st))) target) : Steps p.tables e below (T.setTop (mkF m pc Ls st)) target := XS.lconst (g := mkF m pc Ls st) X.here hx rfl hd (by rw [← hf] at hr; exact hr)
theorem s_iadd (X : Stand p l e R s m args below meth c T locs cells slots) (hx : p.tables.exec = Jvm.exec) {x y r : Int32} (hd : decode c.code pc = .ok (.iadd, 1)) (hf : x + y = r) (hr : Steps p.tables e below (T.setTop (mkF m (pc + 1) Ls (.int r :: st))) target) : Steps p.tables e below (T.setTop (mkF m pc Ls (.int y :: .int x :: st))) target := XS.iadd (g := mkF m pc Ls (.int y :: .int x :: st)) X.here hx rfl hd rfl (by rw [← hf] at hr; exact hr)
theorem s_isub (X : Stand p l e R s m args below meth c T locs cells slots) (hx : p.tables.exec = Jvm.exec) {x y r : Int32} (hd : decode c.code pc = .ok (.isub, 1)) (hf : x - y = r) (hr : Steps p.tables e below (T.setTop (mkF m (pc + 1) Ls (.int r :: st))) target) : Steps p.tables e below (T.setTop (mkF m pc Ls (.int y :: .int x :: st))) target := XS.isub (g := mkF m pc Ls (.int y :: .int x :: st)) X.here hx rfl hd rfl (by rw [← hf] at hr; exact hr)
theorem s_imul (X : Stand p l e R s m args below meth c T locs cells slots) (hx : p.tables.exec = Jvm.exec) {x y r : Int32} (hd : decode c.code pc = .ok (.imul, 1)) (hf : x * y = r) (hr : Steps p.tables e below (T.setTop (mkF m (pc + 1) Ls (.int r :: st))) target) : Steps p.tables e below (T.setTop (mkF m pc Ls (.int y :: .int x :: st))) target := XS.imul (g := mkF m pc Ls (.int y :: .int x :: st)) X.here hx rfl hd rfl (by rw [← hf] at hr; exact hr)
theorem s_iand (X : Stand p l e R s m args below meth c T locs cells slots) (hx : p.tables.exec = Jvm.exec) {x y r : Int32} (hd : decode c.code pc = .ok (.iand, 1)) (hf : x &&& y = r) (hr : Steps p.tables e below (T.setTop (mkF m (pc + 1) Ls (.int r :: st))) target) : Steps p.tables e below (T.setTop (mkF m pc Ls (.int y :: .int x :: st))) target := XS.iand (g := mkF m pc Ls (.int y :: .int x :: st)) X.here hx rfl hd rfl (by rw [← hf] at hr; exact hr)
theorem s_lsub (X : Stand p l e R s m args below meth c T locs cells slots) (hx : p.tables.exec = Jvm.exec) {x y r : Int64} (hd : decode c.code pc = .ok (.lsub, 1)) (hf : x - y = r) (hr : Steps p.tables e below (T.setTop (mkF m (pc + 1) Ls (.long r :: st))) target) : Steps p.tables e below (T.setTop (mkF m pc Ls (.long y :: .long x :: st))) target := XS.lsub (g := mkF m pc Ls (.long y :: .long x :: st)) X.here hx rfl hd rfl (by rw [← hf] at hr; exact hr)
theorem s_land (X : Stand p l e R s m args below meth c T locs cells slots) (hx : p.tables.exec = Jvm.exec) {x y r : Int64} (hd : decode c.code pc = .ok (.land, 1)) (hf : x &&& y = r) (hr : Steps p.tables e below (T.setTop (mkF m (pc + 1) Ls (.long r :: st))) target) : Steps p.tables e below (T.setTop (mkF m pc Ls (.long y :: .long x :: st))) target := XS.land (g := mkF m pc Ls (.long y :: .long x :: st)) X.here hx rfl hd rfl (by rw [← hf] at hr; exact hr)
theorem s_lor (X : Stand p l e R s m args below meth c T locs cells slots) (hx : p.tables.exec = Jvm.exec) {x y r : Int64} (hd : decode c.code pc = .ok (.lor, 1)) (hf : x ||| y = r) (hr : Steps p.tables e below (T.setTop (mkF m (pc + 1) Ls (.long r :: st))) target) : Steps p.tables e below (T.setTop (mkF m pc Ls (.long y :: .long x :: st))) target := XS.lor (g := mkF m pc Ls (.long y :: .long x :: st)) X.here hx rfl hd rfl (by rw [← hf] at hr; exact hr)
theorem s_lxor (X : Stand p l e R s m args below meth c T locs cells slots) (hx : p.tables.exec = Jvm.exec) {x y r : Int64} (hd : decode c.code pc = .ok (.lxor, 1)) (hf : x ^^^ y = r) (hr : Steps p.tables e below (T.setTop (mkF m (pc + 1) Ls (.long r :: st))) target) : Steps p.tables e below (T.setTop (mkF m pc Ls (.long y :: .long x :: st))) target := XS.lxor (g := mkF m pc Ls (.long y :: .long x :: st)) X.here hx rfl hd rfl (by rw [← hf] at hr; exact hr)
theorem s_l2i (X : Stand p l e R s m args below meth c T locs cells slots) (hx : p.tables.exec = Jvm.exec) {x : Int64} {r : Int32} (hd : decode c.code pc = .ok (.l2i, 1)) (hf : x.toInt32 = r) (hr : Steps p.tables e below (T.setTop (mkF m (pc + 1) Ls (.int r :: st))) target) : Steps p.tables e below (T.setTop (mkF m pc Ls (.long x :: st))) target := XS.l2i (g := mkF m pc Ls (.long x :: st)) X.here hx rfl hd rfl (by rw [← hf] at hr; exact hr)
theorem s_iushr (X : Stand p l e R s m args below meth c T locs cells slots) (hx : p.tables.exec = Jvm.exec) {x r : Int32} {y : Int32} (hd : decode c.code pc = .ok (.iushr, 1)) (hf : ((x.toUInt32 >>> (y &&& 31).toUInt32).toInt32) = r) (hr : Steps p.tables e below (T.setTop (mkF m (pc + 1) Ls (.int r :: st))) target) : Steps p.tables e below (T.setTop (mkF m pc Ls (.int y :: .int x :: st))) target := XS.iushr (g := mkF m pc Ls (.int y :: .int x :: st)) X.here hx rfl hd rfl (by rw [← hf] at hr; exact hr)
theorem s_lshl (X : Stand p l e R s m args below meth c T locs cells slots) (hx : p.tables.exec = Jvm.exec) {x r : Int64} {y : Int32} (hd : decode c.code pc = .ok (.lshl, 1)) (hf : (x <<< (y &&& 0x3f).toInt64) = r) (hr : Steps p.tables e below (T.setTop (mkF m (pc + 1) Ls (.long r :: st))) target) : Steps p.tables e below (T.setTop (mkF m pc Ls (.int y :: .long x :: st))) target := XS.lshl (g := mkF m pc Ls (.int y :: .long x :: st)) X.here hx rfl hd rfl (by rw [← hf] at hr; exact hr)
theorem s_lcmp (X : Stand p l e R s m args below meth c T locs cells slots) (hx : p.tables.exec = Jvm.exec) {x y : Int64} {r : Int32} (hd : decode c.code pc = .ok (.lcmp, 1)) (hf : lcmpW x y = r) (hr : Steps p.tables e below (T.setTop (mkF m (pc + 1) Ls (.int r :: st))) target) : Steps p.tables e below (T.setTop (mkF m pc Ls (.long y :: .long x :: st))) target := XS.lcmp (g := mkF m pc Ls (.long y :: .long x :: st)) X.here hx rfl hd rfl (by rw [← hf] at hr; exact hr)
theorem s_idiv (X : Stand p l e R s m args below meth c T locs cells slots) (hx : p.tables.exec = Jvm.exec) {x y r : Int32} (hd : decode c.code pc = .ok (.idiv, 1)) (hy : y ≠ 0) (hf : x / y = r) (hr : Steps p.tables e below (T.setTop (mkF m (pc + 1) Ls (.int r :: st))) target) : Steps p.tables e below (T.setTop (mkF m pc Ls (.int y :: .int x :: st))) target := XS.idiv (g := mkF m pc Ls (.int y :: .int x :: st)) X.here hx rfl hd rfl hy (by rw [← hf] at hr; exact hr)
theorem s_irem (X : Stand p l e R s m args below meth c T locs cells slots) (hx : p.tables.exec = Jvm.exec) {x y r : Int32} (hd : decode c.code pc = .ok (.irem, 1)) (hy : y ≠ 0) (hf : x % y = r) (hr : Steps p.tables e below (T.setTop (mkF m (pc + 1) Ls (.int r :: st))) target) : Steps p.tables e below (T.setTop (mkF m pc Ls (.int y :: .int x :: st))) target := iremM (g := mkF m pc Ls (.int y :: .int x :: st)) X hx rfl hd rfl hy (by rw [← hf] at hr; exact hr)
theorem s_dup (X : Stand p l e R s m args below meth c T locs cells slots) (hx : p.tables.exec = Jvm.exec) {x : Value} (hd : decode c.code pc = .ok (.dup, 1)) (h1 : x.category = 1) (hr : Steps p.tables e below (T.setTop (mkF m (pc + 1) Ls (x :: x :: st))) target) : Steps p.tables e below (T.setTop (mkF m pc Ls (x :: st))) target := XS.dup (g := mkF m pc Ls (x :: st)) X.here hx rfl hd rfl h1 hr
theorem s_dup2 (X : Stand p l e R s m args below meth c T locs cells slots) (hx : p.tables.exec = Jvm.exec) {x y : Value} (hd : decode c.code pc = .ok (.dup2, 1)) (h1 : x.category = 1) (h2 : y.category = 1) (hr : Steps p.tables e below (T.setTop (mkF m (pc + 1) Ls (x :: y :: x :: y :: st))) target) : Steps p.tables e below (T.setTop (mkF m pc Ls (x :: y :: st))) target := own_dup2 (g := mkF m pc Ls (x :: y :: st)) X.here hx rfl hd rfl h1 h2 hr
theorem s_pop (X : Stand p l e R s m args below meth c T locs cells slots) (hx : p.tables.exec = Jvm.exec) {x : Value} (hd : decode c.code pc = .ok (.pop, 1)) (h1 : x.category = 1) (hr : Steps p.tables e below (T.setTop (mkF m (pc + 1) Ls st)) target) : Steps p.tables e below (T.setTop (mkF m pc Ls (x :: st))) target := XS.pop (g := mkF m pc Ls (x :: st)) X.here hx rfl hd rfl h1 hr
theorem s_goto (X : Stand p l e R s m args below meth c T locs cells slots) (hx : p.tables.exec = Jvm.exec) {o : Int} (pc' : Nat) (hd : decode c.code pc = .ok (.goto o, 3)) (ho : 0 ≤ (pc : Int) + o) (hp : ((pc : Int) + o).toNat = pc') (hr : Steps p.tables e below (T.setTop (mkF m pc' Ls st)) target) : Steps p.tables e below (T.setTop (mkF m pc Ls st)) target := XS.goto (g := mkF m pc Ls st) X.here hx rfl (pc0 := pc) rfl hd ho hp hr
theorem s_ifYes (X : Stand p l e R s m args below meth c T locs cells slots) (hx : p.tables.exec = Jvm.exec) {cd : ClassFile.Cond} {x : Int32} {o : Int} (pc' : Nat) (hd : decode c.code pc = .ok (.ifCond cd o, 3)) (hc : ifCond.holds cd x = true) (ho : 0 ≤ (pc : Int) + o) (hp : ((pc : Int) + o).toNat = pc') (hr : Steps p.tables e below (T.setTop (mkF m pc' Ls st)) target) : Steps p.tables e below (T.setTop (mkF m pc Ls (.int x :: st))) target := XS.ifYes (g := mkF m pc Ls (.int x :: st)) X.here hx rfl (pc0 := pc) rfl hd rfl hc ho hp hr
theorem s_ifNo (X : Stand p l e R s m args below meth c T locs cells slots) (hx : p.tables.exec = Jvm.exec) {cd : ClassFile.Cond} {x : Int32} {o : Int} (hd : decode c.code pc = .ok (.ifCond cd o, 3)) (hc : ifCond.holds cd x = false) (hr : Steps p.tables e below (T.setTop (mkF m (pc + 3) Ls st)) target) : Steps p.tables e below (T.setTop (mkF m pc Ls (.int x :: st))) target := XS.ifNo (g := mkF m pc Ls (.int x :: st)) X.here hx rfl hd rfl hc hr
theorem s_icmpYes (X : Stand p l e R s m args below meth c T locs cells slots) (hx : p.tables.exec = Jvm.exec) {cd : ClassFile.Cond} {x y : Int32} {o : Int} (pc' : Nat) (hd : decode c.code pc = .ok (.if_icmp cd o, 3)) (hc : if_icmp.holds cd x y = true) (ho : 0 ≤ (pc : Int) + o) (hp : ((pc : Int) + o).toNat = pc') (hr : Steps p.tables e below (T.setTop (mkF m pc' Ls st)) target) : Steps p.tables e below (T.setTop (mkF m pc Ls (.int y :: .int x :: st))) target := XS.icmpYes (g := mkF m pc Ls (.int y :: .int x :: st)) X.here hx rfl (pc0 := pc) rfl hd rfl hc ho hp hr
theorem s_icmpNo (X : Stand p l e R s m args below meth c T locs cells slots) (hx : p.tables.exec = Jvm.exec) {cd : ClassFile.Cond} {x y : Int32} {o : Int} (hd : decode c.code pc = .ok (.if_icmp cd o, 3)) (hc : if_icmp.holds cd x y = false) (hr : Steps p.tables e below (T.setTop (mkF m (pc + 3) Ls st)) target) : Steps p.tables e below (T.setTop (mkF m pc Ls (.int y :: .int x :: st))) target := XS.icmpNo (g := mkF m pc Ls (.int y :: .int x :: st)) X.here hx rfl hd rfl hc hr
theorem s_iinc (X : Stand p l e R s m args below meth c T locs cells slots) (hx : p.tables.exec = Jvm.exec) {k : Nat} {cst : Int} {x r : Int32} {l' : Array Slot} (hd : decode c.code pc = .ok (.iinc k cst, 3)) (hl : Ls[k]? = some (.val (.int x))) (hf : x + Int32.ofInt cst = r) (hl' : storeLocals Ls k (.int r) = some l') (hr : Steps p.tables e below (T.setTop (mkF m (pc + 3) l' st)) target) : Steps p.tables e below (T.setTop (mkF m pc Ls st)) target := XS.iinc (g := mkF m pc Ls st) X.here hx rfl hd hl (by rw [hf]; exact hl') hr
end OwnSteps
end Jvm.RoadKit
namespace Jvm.Pilot.@@N@@
open Jvm Jvm.ClassFile Sem Op Lib Jvm.Free Jvm.Stand Jvm.LawKit Jvm.RoadKit Jvm.LamKit Bundle Jvm.Pilot.@@N@@.Jvm.D
abbrev cQ : String := "com/example/leasewise/leasewise/KilometreQueue"
abbrev cH : String := "com/example/leasewise/leasewise/IndexedHeap"
theorem own_oldsz {Z : State} {n0 : Nat} {h : Heap} (O : Old Z n0 h) : n0 ≤ h.size := O.1 ▸ O.2.1
theorem own_mem {x : Addr} {ws : List Addr} {n : Nat} (i : Nat) (h : ws[i]? = some x) : x ∈ ws ∨ n ≤ x := Or.inl (List.mem_of_getElem? h)
abbrev sgm : Lambda.Shape := (Jvm.Lambda.Shape.mk "com/example/leasewise/leasewise/IndexedHeap$Order" "before" (Jvm.ClassFile.MethodDescriptor.mk ([Jvm.ClassFile.FieldType.int, Jvm.ClassFile.FieldType.int] : List Jvm.ClassFile.FieldType) (Option.some Jvm.ClassFile.FieldType.boolean)) ([(Jvm.ClassFile.FieldType.object "com/example/leasewise/leasewise/KilometreQueue")] : List Jvm.ClassFile.FieldType) (5 : Nat) "com/example/leasewise/leasewise/KilometreQueue" "lambda$new$0" (Jvm.ClassFile.MethodDescriptor.mk ([Jvm.ClassFile.FieldType.int, Jvm.ClassFile.FieldType.int] : List Jvm.ClassFile.FieldType) (Option.some Jvm.ClassFile.FieldType.boolean)) false (Jvm.ClassFile.MethodDescriptor.mk ([Jvm.ClassFile.FieldType.int, Jvm.ClassFile.FieldType.int] : List Jvm.ClassFile.FieldType) (Option.some Jvm.ClassFile.FieldType.boolean)))
def fcode : ByteArray := ⟨#[0x2a, 0xb4, 0x00, 0x0f, 0x1b, 0x1c, 0xb6, 0x00, 0x16, 0xac]⟩
theorem own_fwdok : Jvm.LamKit.fwdOK sgm cQ fcode 3 (some .boolean) 22 19 = true := by decide +kernel
theorem own_capok : Jvm.LamKit.capOK sgm cQ 15 0 = true := by decide +kernel
theorem own_refok : refOK sgm cQ 22 19 (⟨cQ, "lambda$new$0", "(II)Z"⟩ : MethodName) = true := by decide +kernel
theorem own_f0 : decode fcode 0 = .ok (.aload_n 0, 1) := by decide +kernel
theorem own_f1 : decode fcode 1 = .ok (.getfield 15, 3) := by decide +kernel
theorem own_f4 : decode fcode 4 = .ok (.iload_n 1, 1) := by decide +kernel
theorem own_f5 : decode fcode 5 = .ok (.iload_n 2, 1) := by decide +kernel
theorem own_f6 : decode fcode 6 = .ok (.invokevirtual 22, 3) := by decide +kernel
theorem own_f9 : decode fcode 9 = .ok (.ireturn, 1) := by decide +kernel
theorem own_nb01 {x : Int32} (h : x = 0 ∨ x = 1) : narrow .boolean (.int x) = .int x := by rcases h with rfl | rfl <;> rfl
theorem own_nd12 {x1 x2 x3 x4 x5 x6 x7 x8 x9 x10 x11 x12 : Nat} (h1 : x1 < x2) (h2 : x2 < x3) (h3 : x3 < x4) (h4 : x4 < x5) (h5 : x5 < x6) (h6 : x6 < x7) (h7 : x7 < x8) (h8 : x8 < x9) (h9 : x9 < x10) (h10 : x10 < x11) (h11 : x11 < x12) : [x1, x2, x3, x4, x5, x6, x7, x8, x9, x10, x11, x12].Nodup := by
  simp only [List.nodup_cons, List.mem_cons, List.not_mem_nil, or_false, not_or, List.nodup_nil, and_true, not_false_eq_true]
  omega
theorem d3_0 : decode jdk_65_method_103_code 0 = .ok (.iconst 0, 1) := by decide +kernel
theorem d3_1 : decode jdk_65_method_103_code 1 = .ok (.istore_n 2, 1) := by decide +kernel
theorem d3_2 : decode jdk_65_method_103_code 2 = .ok (.aload_n 0, 1) := by decide +kernel
theorem d3_3 : decode jdk_65_method_103_code 3 = .ok (.arraylength, 1) := by decide +kernel
theorem d3_4 : decode jdk_65_method_103_code 4 = .ok (.istore_n 3, 1) := by decide +kernel
theorem d3_5 : decode jdk_65_method_103_code 5 = .ok (.iload_n 2, 1) := by decide +kernel
theorem d3_6 : decode jdk_65_method_103_code 6 = .ok (.iload_n 3, 1) := by decide +kernel
theorem d3_7 : decode jdk_65_method_103_code 7 = .ok (.if_icmp .ge 13, 3) := by decide +kernel
theorem d3_10 : decode jdk_65_method_103_code 10 = .ok (.aload_n 0, 1) := by decide +kernel
theorem d3_11 : decode jdk_65_method_103_code 11 = .ok (.iload_n 2, 1) := by decide +kernel
theorem d3_12 : decode jdk_65_method_103_code 12 = .ok (.iload_n 1, 1) := by decide +kernel
theorem d3_13 : decode jdk_65_method_103_code 13 = .ok (.iastore, 1) := by decide +kernel
theorem d3_14 : decode jdk_65_method_103_code 14 = .ok (.iinc 2 1, 3) := by decide +kernel
theorem d3_17 : decode jdk_65_method_103_code 17 = .ok (.goto (-12), 3) := by decide +kernel
theorem d3_20 : decode jdk_65_method_103_code 20 = .ok (.return_, 1) := by decide +kernel
theorem pn_0 : plainName "java/util/Arrays" = true := by first | (simp [plainName, overriddenIn]; done) | decide +kernel
theorem ef_rm_fill (m : MethodId) (x0 : Addr) (x1 : Int32) : entryFrame m #[.ref x0, .int x1] 4 = mkF m 0 #[.val (.ref x0), .val (.int x1), .unset, .unset] [] := by first | (simp [entryFrame, mkF, argsToLocals, Value.category]; done) | rfl
def Q_rm_fill (Z : State) (b : Addr) (x : Int32) (k : ClassId) (n w : Int32) (h0 : Heap) (n0 : Nat) (v : Option Value) (h : Heap) (L : List Loc) : Prop := v = none ∧ Fr n0 L ∧ Keep h0 h [b] ∧ Arv Z h b k .int n [] (.int x)
set_option maxRecDepth 65536 in
set_option maxHeartbeats 40000000 in
theorem rm_fill (l : Launch) (Z : State) (a0 : Array Value) (hw : ∀ d ∈ tables_1, d.before a0 Z = true) (ws : List Jvm.Cond) (b : Addr) (x : Int32) (k : ClassId) (n w : Int32) (h0 : Heap) (n0 : Nat) (O0 : Old Z n0 h0) (V_b : Arv Z h0 b k .int n [] (.int w)) (g_b : n0 ≤ b) :
    MetFree l (⟨"java/util/Arrays", "fill", "([II)V"⟩ : MethodName) (head1 (Jvm.Cond.code (⟨"java/util/Arrays", "fill", "([II)V"⟩ : MethodName) jdk_65_method_103_code 4 none :: ws) ({ frames := 0, cells := 0, slots := 0, locals := 0 } : Room)) (fun a U => a = #[.ref b, .int x] ∧ Z.WarmedH U.vm ∧ U.heap = h0) (fun _ _ _ _ _ => True) (fun _ U o U' => ∃ v L, o = .returned v ∧ Q_rm_fill Z b x k n w h0 n0 v U'.heap L ∧ FrameEnd U o U' L ({ frames := 0, cells := 0, slots := 0, locals := 0 } : Room).cells ({ frames := 0, cells := 0, slots := 0, locals := 0 } : Room).slots) := by
  refine MetFree.of_bodySF (plainFor_of_name pn_0) hisR ?_
  intro p e s m args below meth c s₁ Bd hml0 hP hK
  obtain ⟨rfl, hZH, hh⟩ := hP
  have hZ := hZH.wide
  have hx := Bd.exec
  have hby := Bd.bytes
  have hml : c.maxLocals = 4 := hml0
  have X0 : Stand p l e ({ frames := 0, cells := 0, slots := 0, locals := 0 } : Room) s m #[.ref b, .int x] below meth c s₁ [] 0 0 := Stand.of_body Bd
  have e0 : s₁.heap = h0 := by rw [← hh, Bd.state]; rfl
  obtain ⟨cl0, A0, q0, S0, N0, H0, G0⟩ := id V_b
  have hnn := (back32 N0).1
  have hn31 := (back32 N0).2
  have c1 : Steps p.tables e below (s₁.setTop (entryFrame m #[.ref b, .int x] 4)) (s₁.setTop (mkF m 5 #[.val (.ref b), .val (.int x), .val (.int (Int32.ofNat 0)), .val (.int n)] [])) := by
    refine castTop (ef_rm_fill m b x) ?_
    refine XS.iconst X0.here hx rfl (hb hby d3_0) ?_
    refine XS.istoreN X0.here hx rfl (hb hby d3_1) rfl (l' := #[.val (.ref b), .val (.int x), .val (.int (Int32.ofNat 0)), .unset]) rfl ?_
    refine XS.aloadN X0.here hx rfl (hb hby d3_2) rfl rfl ?_
    refine X0.arraylength hx (by rw [e0]; exact A0.1) (State.isArrayOf_alike hZ.alike A0.2.1) (g := mkF m 3 #[.val (.ref b), .val (.int x), .val (.int (Int32.ofNat 0)), .unset] [.ref b]) rfl rfl (hb hby d3_3) _ ?_
    rw [len_of S0 N0]
    refine XS.istoreN X0.here hx rfl (hb hby d3_4) rfl (l' := #[.val (.ref b), .val (.int x), .val (.int (Int32.ofNat 0)), .val (.int n)]) rfl ?_
    exact Steps.refl _
  have loop : ∀ (r i : Nat), i + r = n.toNatClampNeg → ∀ (T : State) (L : List Loc) (hT : Heap), Stand p l e ({ frames := 0, cells := 0, slots := 0, locals := 0 } : Room) s m #[.ref b, .int x] below meth c T L 0 0 → T.heap = hT → Fr n0 L → Keep h0 hT [b] →
      (∃ cl : Cell, Arr Z hT b cl .int ∧ cl.cls = k ∧ cl.slots.size = n.toNatClampNeg ∧ ∀ j, j < cl.slots.size → cl.slots[j]? = some (if j < i then .int x else .int w)) →
      Steps p.tables e below (s₁.setTop (entryFrame m #[.ref b, .int x] 4)) (T.setTop (mkF m 5 #[.val (.ref b), .val (.int x), .val (.int (Int32.ofNat i)), .val (.int n)] [])) →
      ∃ (T' : State) (L' : List Loc) (hT' : Heap), Stand p l e ({ frames := 0, cells := 0, slots := 0, locals := 0 } : Room) s m #[.ref b, .int x] below meth c T' L' 0 0 ∧ T'.heap = hT' ∧ Fr n0 L' ∧ Keep h0 hT' [b] ∧ Arv Z hT' b k .int n [] (.int x) ∧
        Steps p.tables e below (s₁.setTop (entryFrame m #[.ref b, .int x] 4)) (T'.setTop (mkF m 20 #[.val (.ref b), .val (.int x), .val (.int n), .val (.int n)] [])) := by
    intro r
    induction r with
    | zero =>
      intro i hi T L hT X eT NF K hcl hst
      obtain ⟨cl, A, q1, q2, q3⟩ := hcl
      have hin : Int32.ofNat i = n := by rw [show i = n.toNatClampNeg by omega]; exact hnn
      refine ⟨T, L, hT, X, eT, NF, K, ⟨cl, A, q1, q2, N0, fun j hj => ?_, fun j hj => rfl⟩, hst.trans ?_⟩
      · rw [q3 j hj, if_pos (by omega)]; rfl
      · rw [hin]
        refine XS.iloadN X.here hx rfl (hb hby d3_5) rfl ?_
        refine XS.iloadN X.here hx rfl (hb hby d3_6) rfl ?_
        refine XS.icmpYes X.here hx rfl (pc0 := 7) (pc' := 20) rfl (hb hby d3_7) rfl ((flt (x := n) (y := n) Int32.lt_irrefl).2.1) (by decide) (by decide) ?_
        exact Steps.refl _
    | succ r ih =>
      intro i hi T L hT X eT NF K hcl hst
      obtain ⟨cl, A, q1, q2, q3⟩ := hcl
      have hlt : Int32.ofNat i < n := by rw [← hnn]; exact (Int32.ofNat_lt_ofNat (by omega) hn31).mpr (by omega)
      have hnat : (Int32.ofNat i).toNatClampNeg = i := by
        have := Int32.toInt_ofNat_small (n := i) (by omega)
        simp only [Int32.toNatClampNeg]; rw [this]; rfl
      have hnn0 : ¬ Int32.ofNat i < 0 := by
        rw [Int32.lt_iff_toInt_lt, Int32.toInt_ofNat_small (n := i) (by omega)]
        show ¬ ((i : Int) < 0); omega
      have hin : ¬ (Int32.ofNat i < 0 ∨ cl.slots.size ≤ (Int32.ofNat i).toNatClampNeg) := by
        rw [hnat]; intro q; rcases q with q | q
        · exact hnn0 q
        · omega
      obtain ⟨T1, h1, X1, e1, W1, st1⟩ := stI X hx hZ eT A (j := Int32.ofNat i) (x := x) hin (g := mkF m 13 #[.val (.ref b), .val (.int x), .val (.int (Int32.ofNat i)), .val (.int n)] [.int x, .int (Int32.ofNat i), .ref b]) rfl rfl (hb hby d3_13)
      rw [hnat] at X1 W1
      refine ih (i + 1) (by omega) T1 _ h1 X1 e1 (Fr.snoc X1 NF g_b) (K.wr W1 (Or.inl (List.mem_singleton.mpr rfl))) ⟨_, A.same W1, q1, by rw [sz_set]; exact q2, fun j hj => ?_⟩ (hst.trans ?_)
      · rw [sz_set] at hj
        by_cases u : i = j
        · subst u
          rw [Cell.slots_setSlot_self _ hj, if_pos (by omega)]
        · rw [Cell.slots_setSlot_ne _ u, q3 j hj]
          by_cases v : j < i
          · rw [if_pos v, if_pos (by omega)]
          · rw [if_neg v, if_neg (by omega)]
      · refine XS.iloadN X.here hx rfl (hb hby d3_5) rfl ?_
        refine XS.iloadN X.here hx rfl (hb hby d3_6) rfl ?_
        refine XS.icmpNo X.here hx rfl (hb hby d3_7) rfl ((tlt hlt).2.1) ?_
        refine XS.aloadN X.here hx rfl (hb hby d3_10) rfl rfl ?_
        refine XS.iloadN X.here hx rfl (hb hby d3_11) rfl ?_
        refine XS.iloadN X.here hx rfl (hb hby d3_12) rfl ?_
        refine st1 _ ?_
        refine XS.iinc X1.here hx rfl (hb hby d3_14) rfl (l' := #[.val (.ref b), .val (.int x), .val (.int (Int32.ofNat i + Int32.ofInt 1)), .val (.int n)]) rfl ?_
        refine XS.goto X1.here hx rfl (pc0 := 17) (pc' := 5) rfl (hb hby d3_17) (by decide) (by decide) ?_
        rw [show (Int32.ofNat i + Int32.ofInt 1 : Int32) = Int32.ofNat (i + 1) from by rw [Int32.ofNat_add]; rfl]
        exact Steps.refl _
  obtain ⟨T9, L9, h9, X9, e9, N9, K9, V9, st9⟩ := loop n.toNatClampNeg 0 (by omega) s₁ [] h0 X0 e0 (Fr.nil n0) (Keep.refl h0 [b]) ⟨cl0, A0, q0, S0, fun j hj => by rw [if_neg (by omega)]; exact H0 j hj⟩ c1
  obtain ⟨fs, hr, hrun, hended, hW, hsame⟩ := X9.leave (v := none) (fun _ => rfl)
  refine ⟨_, _, st9.trans ?_, hrun, hended, _, _, rfl, ?_, ⟨_, rfl⟩, hW, hsame.mono (by decide) (by decide)⟩
  · exact X9.returnOut hx Bd.returns (hb hby d3_20) hr
  · show Q_rm_fill Z b x k n w h0 n0 _ T9.heap _
    rw [e9]
    exact ⟨rfl, N9, K9, V9⟩
def hAll : List (List Int32) := [[], [0], [1], [0, 1], [1, 0]]
def hPos (L : List Int32) (k : Int32) : Int32 := match L.idxOf? k with | some i => Int32.ofNat i | none => -1
def g2 {α : Type} (j : Int32) (x0 x1 : α) : α := if j = 0 then x0 else x1
def s2 {α : Type} (j k : Int32) (w x : α) : α := if j = k then w else x
def I2 (x : Int32) : Prop := x = 0 ∨ x = 1
theorem own_of2 {x : Int32} (h : x ∈ [(0 : Int32), 1]) : I2 x := by
  simp only [List.mem_cons, List.not_mem_nil, or_false] at h
  exact h
theorem own_in2 {x : Int32} (h : I2 x) : ¬ x < 0 ∧ x < 2 := by rcases h with rfl | rfl <;> decide
theorem own_g0 {α : Type} (x0 x1 : α) : g2 0 x0 x1 = x0 := if_pos rfl
theorem own_g1 {α : Type} (x0 x1 : α) : g2 1 x0 x1 = x1 := if_neg (by decide)
theorem own_i0 : I2 0 := Or.inl rfl
theorem own_i1 : I2 1 := Or.inr rfl
def HI (n e0 e1 p0 p1 : Int32) : Prop := ∃ L ∈ hAll, n = Int32.ofNat L.length ∧ (0 < L.length → e0 = L.getD 0 0) ∧ (1 < L.length → e1 = L.getD 1 0) ∧ p0 = hPos L 0 ∧ p1 = hPos L 1
def SM (p0 p1 q0 q1 : Int32) : Prop := (q0 = -1 ↔ p0 = -1) ∧ (q1 = -1 ↔ p1 = -1)
theorem SM.trans {p0 p1 q0 q1 r0 r1 : Int32} (A : SM p0 p1 q0 q1) (B : SM q0 q1 r0 r1) : SM p0 p1 r0 r1 := ⟨B.1.trans A.1, B.2.trans A.2⟩
theorem own_hl1 : ∀ L ∈ hAll, (1 : Int32) = Int32.ofNat L.length → L.length = 1 := by decide +kernel
theorem own_hl2 : ∀ L ∈ hAll, (2 : Int32) = Int32.ofNat L.length → L.length = 2 := by decide +kernel
theorem own_hnn {n e0 e1 p0 p1 : Int32} (H : HI n e0 e1 p0 p1) : n = 0 ∨ n = 1 ∨ n = 2 := by
  obtain ⟨L, hL, rfl, -⟩ := H
  exact (by decide +kernel : ∀ L ∈ hAll, Int32.ofNat L.length = 0 ∨ Int32.ofNat L.length = 1 ∨ Int32.ofNat L.length = 2) L hL
theorem own_hz {n e0 e1 p0 p1 : Int32} (H : HI n e0 e1 p0 p1) : n = 0 ↔ (p0 = -1 ∧ p1 = -1) := by
  obtain ⟨L, hL, rfl, -, -, rfl, rfl⟩ := H
  exact (by decide +kernel : ∀ L ∈ hAll, (Int32.ofNat L.length = 0 ↔ (hPos L 0 = -1 ∧ hPos L 1 = -1))) L hL
theorem own_first {n e0 e1 p0 p1 : Int32} (H : HI n e0 e1 p0 p1) (hn : ¬ n = 0) : I2 e0 ∧ ¬ g2 e0 p0 p1 = -1 := by
  obtain ⟨L, hL, rfl, h0, -, rfl, rfl⟩ := H
  have K := (by decide +kernel : ∀ L ∈ hAll, ¬ Int32.ofNat L.length = 0 → 0 < L.length ∧ L.getD 0 0 ∈ [(0 : Int32), 1] ∧ ¬ g2 (L.getD 0 0) (hPos L 0) (hPos L 1) = -1) L hL hn
  rw [h0 K.1]; exact ⟨own_of2 K.2.1, K.2.2⟩
theorem own_en_0 {n e0 e1 p0 p1 : Int32} (H : HI n e0 e1 p0 p1) (hl : (0 : Int32) < n) : I2 e0 := (own_first H (fun z => by rw [z] at hl; exact absurd hl (by decide))).1
theorem own_en_1 {n e0 e1 p0 p1 : Int32} (H : HI n e0 e1 p0 p1) (hl : (1 : Int32) < n) : I2 e1 := by
  obtain ⟨L, hL, rfl, -, h1, -⟩ := H
  have K := (by decide +kernel : ∀ L ∈ hAll, (1 : Int32) < Int32.ofNat L.length → 1 < L.length ∧ L.getD 1 0 ∈ [(0 : Int32), 1]) L hL hl
  rw [h1 K.1]; exact own_of2 K.2
theorem own_gt_0 {n e0 e1 p0 p1 : Int32} (H : HI n e0 e1 p0 p1) (hl : (0 : Int32) < n) : n = 1 ∨ n = 2 := by
  rcases own_hnn H with rfl | rfl | rfl <;> first | (exact absurd hl (by decide)) | decide
theorem own_gt_1 {n e0 e1 p0 p1 : Int32} (H : HI n e0 e1 p0 p1) (hl : (1 : Int32) < n) : n = 2 := by
  rcases own_hnn H with rfl | rfl | rfl <;> first | (exact absurd hl (by decide)) | decide
theorem own_g2h {k : Int32} (hk : I2 k) (L : List Int32) : g2 k (hPos L 0) (hPos L 1) = hPos L k := by rcases hk with rfl | rfl <;> rfl
theorem own_mem2 {k : Int32} (hk : I2 k) : k ∈ [(0 : Int32), 1] := by rcases hk with rfl | rfl <;> decide
theorem own_putk : ∀ L ∈ hAll, ∀ k ∈ [(0 : Int32), 1], hPos L k = -1 → (L ++ [k]) ∈ hAll ∧ (Int32.ofNat L.length) ∈ [(0 : Int32), 1] ∧ Int32.ofNat L.length + 1 = Int32.ofNat (L ++ [k]).length ∧ (∀ i ∈ [(0 : Int32), 1], s2 k i (Int32.ofNat L.length) (hPos L i) = hPos (L ++ [k]) i) ∧ ∀ i ∈ [0, 1], i < (L ++ [k]).length → (Int32.ofNat L.length = Int32.ofNat i ∧ (L ++ [k]).getD i 0 = k) ∨ (¬ Int32.ofNat L.length = Int32.ofNat i ∧ i < L.length ∧ (L ++ [k]).getD i 0 = L.getD i 0) := by decide +kernel
theorem own_re {L M : List Int32} {x y : Int32} {i : Nat} {e : Int32} (he : i < L.length → e = L.getD i 0) (K : (x = Int32.ofNat i ∧ M.getD i 0 = y) ∨ (¬ x = Int32.ofNat i ∧ i < L.length ∧ M.getD i 0 = L.getD i 0)) : s2 x (Int32.ofNat i) y e = M.getD i 0 := by
  rcases K with ⟨a, b⟩ | ⟨a, b, d⟩
  · rw [s2, if_pos a, b]
  · rw [s2, if_neg a, d, he b]
theorem hi_put {n e0 e1 p0 p1 k : Int32} (H : HI n e0 e1 p0 p1) (hk : I2 k) (hp : g2 k p0 p1 = -1) : HI (n + 1) (s2 n 0 k e0) (s2 n 1 k e1) (s2 k 0 n p0) (s2 k 1 n p1) ∧ I2 n ∧ n < n + 1 ∧ ¬ n = -1 := by
  obtain ⟨L, hL, rfl, h0, h1, rfl, rfl⟩ := H
  rw [own_g2h hk] at hp
  obtain ⟨k1, k2, k3, k4, k5⟩ := own_putk L hL k (own_mem2 hk) hp
  refine ⟨⟨L ++ [k], k1, k3, fun q => own_re (i := 0) h0 (k5 0 (by decide) q), fun q => own_re (i := 1) h1 (k5 1 (by decide) q), k4 0 (by decide), k4 1 (by decide)⟩, own_of2 k2, ?_⟩
  rcases own_of2 k2 with q | q <;> rw [q] <;> decide
def HPut (en n e0 e1 q0 q1 p0 p1 : Int32) : Prop := HI n e0 e1 q0 q1 ∧ (q0 = -1 ↔ (¬ en = 0 ∧ p0 = -1)) ∧ (q1 = -1 ↔ (¬ en = 1 ∧ p1 = -1))
def HRem (en n e0 e1 q0 q1 p0 p1 : Int32) : Prop := HI n e0 e1 q0 q1 ∧ (q0 = -1 ↔ (en = 0 ∨ p0 = -1)) ∧ (q1 = -1 ↔ (en = 1 ∨ p1 = -1))
theorem own_s1 (n : Int32) : n + 1 - 1 = n := Int32.add_sub_cancel n 1
theorem own_sp {en i n p q : Int32} (hn : ¬ n = -1) (e : q = -1 ↔ s2 en i n p = -1) : q = -1 ↔ (¬ en = i ∧ p = -1) := by
  rw [e, s2]
  by_cases u : en = i
  · rw [if_pos u]; exact ⟨fun z => absurd z hn, fun z => absurd u z.1⟩
  · rw [if_neg u]; exact ⟨fun z => ⟨u, z⟩, fun z => z.2⟩
theorem own_hput {en n e0 e1 p0 p1 f0 f1 q0 q1 : Int32} (H : HI n e0 e1 p0 p1) (he : I2 en) (hp : g2 en p0 p1 = -1) (K : HI (n + 1) f0 f1 q0 q1 ∧ SM (s2 en 0 n p0) (s2 en 1 n p1) q0 q1) : HPut en (n + 1) f0 f1 q0 q1 p0 p1 :=
  have hn := (hi_put H he hp).2.2.2
  ⟨K.1, own_sp hn K.2.1, own_sp hn K.2.2⟩
theorem own_putup {en n e0 e1 p0 p1 : Int32} (H : HI n e0 e1 p0 p1) (he : I2 en) (hp : g2 en p0 p1 = -1) : I2 (n + 1 - 1) ∧ n + 1 - 1 < n + 1 := by
  rw [own_s1]; exact ⟨(hi_put H he hp).2.1, (hi_put H he hp).2.2.1⟩
theorem own_rn {en n e0 e1 p0 p1 y : Int32} (H : HI n e0 e1 p0 p1) (hy : y = g2 en p0 p1) (h : y = -1) : HRem en n e0 e1 p0 p1 p0 p1 := by
  rw [hy] at h
  refine ⟨H, ⟨Or.inr, fun z => z.elim (fun u => ?_) id⟩, ⟨Or.inr, fun z => z.elim (fun u => ?_) id⟩⟩
  · rw [u, own_g0] at h; exact h
  · rw [u, own_g1] at h; exact h
theorem own_rlk : ∀ L ∈ hAll, ∀ k ∈ [(0 : Int32), 1], ¬ hPos L k = -1 → hPos L k = Int32.ofNat L.length - 1 → L.dropLast ∈ hAll ∧ Int32.ofNat L.length - 1 = Int32.ofNat L.dropLast.length ∧ (∀ i ∈ [(0 : Int32), 1], s2 k i (-1) (hPos L i) = hPos L.dropLast i) ∧ (∀ i ∈ [0, 1], i < L.dropLast.length → i < L.length ∧ L.dropLast.getD i 0 = L.getD i 0) ∧ ∀ i ∈ [(0 : Int32), 1], (hPos L.dropLast i = -1 ↔ (k = i ∨ hPos L i = -1)) := by decide +kernel
theorem own_rl {en n e0 e1 p0 p1 y : Int32} (H : HI n e0 e1 p0 p1) (he : I2 en) (hy : y = g2 en p0 p1) (hp : ¬ y = -1) (hl : y = n - 1) : HRem en (n - 1) e0 e1 (s2 en 0 (-1) p0) (s2 en 1 (-1) p1) p0 p1 := by
  subst hy
  obtain ⟨L, hL, rfl, h0, h1, rfl, rfl⟩ := H
  rw [own_g2h he] at hp hl
  obtain ⟨k1, k4, k8, k9, k10⟩ := own_rlk L hL en (own_mem2 he) hp hl
  refine ⟨⟨L.dropLast, k1, k4, fun q => (h0 (k9 0 (by decide) q).1).trans (k9 0 (by decide) q).2.symm, fun q => (h1 (k9 1 (by decide) q).1).trans (k9 1 (by decide) q).2.symm, k8 0 (by decide), k8 1 (by decide)⟩, ?_⟩
  rw [k8 0 (by decide), k8 1 (by decide)]
  exact ⟨k10 0 (by decide), k10 1 (by decide)⟩
theorem own_g2l : ∀ L ∈ hAll, ∀ k ∈ [(0 : Int32), 1], ¬ hPos L k = -1 → (Int32.ofNat L.length - 1) ∈ [(0 : Int32), 1] := by decide +kernel
theorem own_rs {en n e0 e1 p0 p1 y : Int32} (H : HI n e0 e1 p0 p1) (he : I2 en) (hy : y = g2 en p0 p1) (hp : ¬ y = -1) : I2 (n - 1) := by
  subst hy
  obtain ⟨L, hL, rfl, -, -, rfl, rfl⟩ := H
  rw [own_g2h he] at hp
  exact own_of2 (own_g2l L hL en (own_mem2 he) hp)
theorem own_rrk : ∀ L ∈ hAll, ∀ k ∈ [(0 : Int32), 1], ¬ hPos L k = -1 → ¬ hPos L k = Int32.ofNat L.length - 1 → L.length = 2 ∧ hPos L k = 0 ∧ [L.getD 1 0] ∈ hAll ∧ (L.getD 1 0) ∈ [(0 : Int32), 1] ∧ (∀ i ∈ [(0 : Int32), 1], s2 (L.getD 1 0) i 0 (s2 k i (-1) (hPos L i)) = hPos [L.getD 1 0] i) ∧ ∀ i ∈ [(0 : Int32), 1], (hPos [L.getD 1 0] i = -1 ↔ (k = i ∨ hPos L i = -1)) := by decide +kernel
theorem own_rr {en n e0 e1 p0 p1 x y : Int32} (H : HI n e0 e1 p0 p1) (he : I2 en) (hx : x = g2 en p0 p1) (hp : ¬ x = -1) (hl : ¬ x = n - 1) (hy : y = g2 (n - 1) e0 e1) : HRem en (n - 1) (s2 x 0 y e0) (s2 x 1 y e1) (s2 y 0 x (s2 en 0 (-1) p0)) (s2 y 1 x (s2 en 1 (-1) p1)) p0 p1 ∧ (I2 x ∧ I2 y ∧ x < n - 1) ∧ (x = 0 ∧ n - 1 = 1) := by
  obtain ⟨L, hL, rfl, h0, h1, rfl, rfl⟩ := H
  rw [own_g2h he] at hx
  subst hx
  obtain ⟨k1, k2, k3, k4, k5, k6⟩ := own_rrk L hL en (own_mem2 he) hp hl
  have hn1 : Int32.ofNat L.length - 1 = 1 := by rw [k1]; decide
  rw [hn1, own_g1, h1 (by omega)] at hy
  subst hy
  rw [hn1, k2, k5 0 (by decide), k5 1 (by decide)]
  refine ⟨⟨⟨[L.getD 1 0], k3, rfl, fun _ => ?_, fun q => absurd q (by simp), rfl, rfl⟩, k6 0 (by decide), k6 1 (by decide)⟩, ⟨own_i0, own_of2 k4, by decide⟩, rfl, rfl⟩
  rw [s2, if_pos rfl]; rfl
theorem own_rt {en n e0 e1 q0 q1 p0 p1 f0 f1 r0 r1 d0 d1 t0 t1 : Int32} (A : HRem en n e0 e1 q0 q1 p0 p1) (B : HI n f0 f1 r0 r1 ∧ SM q0 q1 r0 r1) (C : HI n d0 d1 t0 t1 ∧ SM r0 r1 t0 t1) : HRem en n d0 d1 t0 t1 p0 p1 :=
  have D := SM.trans B.2 C.2
  ⟨C.1, D.1.trans A.2.1, D.2.trans A.2.2⟩
def upd {α : Type} (F : Nat → α) (i : Nat) (v : α) : Nat → α := fun j => if j = i then v else F j
theorem upd_t {α : Type} (F : Nat → α) (i : Nat) (v : α) : upd F i v i = v := if_pos rfl
theorem upd_f {α : Type} {F : Nat → α} {i j : Nat} {v : α} (h : ¬ j = i) : upd F i v j = F j := if_neg h
def bt (x : Int64) (j : Nat) : Bool := x.toBitVec.getLsbD j
theorem bt_or (x y : Int64) (j : Nat) : bt (x ||| y) j = (bt x j || bt y j) := by
  unfold bt; rw [Int64.toBitVec_or, BitVec.getLsbD_or]
theorem bt_and (x y : Int64) (j : Nat) : bt (x &&& y) j = (bt x j && bt y j) := by
  unfold bt; rw [Int64.toBitVec_and, BitVec.getLsbD_and]
theorem bt_m1 : ∀ j : Fin 64, bt (-1) j.1 = true := by decide
theorem bt_not (x : Int64) {j : Nat} (hj : j < 64) : bt (x ^^^ (-1)) j = !bt x j := by
  have h := bt_m1 ⟨j, hj⟩
  unfold bt at h ⊢
  rw [Int64.toBitVec_xor, BitVec.getLsbD_xor, h, Bool.xor_true]
theorem bt_z (j : Nat) : bt 0 j = false := by
  unfold bt; exact BitVec.getLsbD_zero
theorem bt_nz {x : Int64} {j : Nat} (h : bt x j = true) : ¬ x = 0 := fun e => by rw [e, bt_z] at h; cases h
theorem bt_ex {x : Int64} (h : ¬ x = 0) : ∃ j, j < 64 ∧ bt x j = true := by
  apply Classical.byContradiction
  intro q
  refine h (Int64.toBitVec_inj.mp (BitVec.eq_of_getLsbD_eq fun j hj => ?_))
  have h1 : ¬ bt x j = true := fun e => q ⟨j, hj, e⟩
  have h2 : (0 : Int64).toBitVec.getLsbD j = false := bt_z j
  rw [h2]
  exact Bool.eq_false_iff.mpr h1
theorem own_maskk : ∀ n : Fin 64, ∀ j : Fin 64, bt ((1 : Int64) <<< ((Int32.ofNat n.1) &&& 0x3f).toInt64) j.1 = decide (j.1 = n.1) := by decide +kernel
theorem own_ofn {x : Int32} {n : Nat} (h : x.toInt = n) (hn : n < 2147483648) : x = Int32.ofNat n := by
  apply Int32.toInt_inj.mp
  rw [h, Int32.toInt_ofNat_of_lt (by omega)]
theorem own_cln {x : Int32} {n : Nat} (h : x.toInt = n) : x.toNatClampNeg = n := by
  show x.toInt.toNat = n
  rw [h]; rfl
theorem own_mask {x : Int32} {n : Nat} (h : x.toInt = n) (hn : n < 64) : ∀ j, j < 64 → bt ((1 : Int64) <<< (x &&& 0x3f).toInt64) j = decide (j = n) := fun j hj => by
  rw [own_ofn h (by omega)]; exact own_maskk ⟨n, hn⟩ ⟨j, hj⟩
def OKB (F : Nat → Int32) (O W : Nat → Int64) : Prop := (∀ b, b < 65536 → (¬ F b = -1 ↔ bt (O (b / 64)) (b % 64) = true)) ∧ (∀ w, w < 1024 → (¬ O w = 0 ↔ bt (W (w / 64)) (w % 64) = true))
theorem okb_set {F : Nat → Int32} {O W : Nat → Int64} (H : OKB F O W) {b : Nat} {e : Int32} {m1 m2 : Int64} (hb : b < 65536) (he : ¬ e = -1) (h1 : ∀ j, j < 64 → bt m1 j = decide (j = b % 64)) (h2 : ∀ j, j < 64 → bt m2 j = decide (j = b / 64 % 64)) : OKB (upd F b e) (upd O (b / 64) (O (b / 64) ||| m1)) (upd W (b / 64 / 64) (W (b / 64 / 64) ||| m2)) := by
  refine ⟨fun x hx => ?_, fun w hw => ?_⟩
  · by_cases u : x = b
    · subst u
      rw [upd_t, upd_t, bt_or, h1 _ (Nat.mod_lt _ (by decide))]
      simp [he]
    · rw [upd_f u, H.1 x hx]
      by_cases v : x / 64 = b / 64
      · rw [v, upd_t, bt_or, h1 _ (Nat.mod_lt _ (by decide)), decide_eq_false (by omega), Bool.or_false]
      · rw [upd_f v]
  · by_cases u : w = b / 64
    · subst u
      rw [upd_t, upd_t, bt_or, h2 _ (Nat.mod_lt _ (by decide))]
      refine ⟨fun _ => by simp, fun _ => bt_nz (j := b % 64) ?_⟩
      rw [bt_or, h1 _ (Nat.mod_lt _ (by decide))]; simp
    · rw [upd_f u, H.2 w hw]
      by_cases v : w / 64 = b / 64 / 64
      · rw [v, upd_t, bt_or, h2 _ (Nat.mod_lt _ (by decide)), decide_eq_false (by omega), Bool.or_false]
      · rw [upd_f v]
theorem okb_same {F : Nat → Int32} {O W : Nat → Int64} (H : OKB F O W) {b : Nat} {e : Int32} (he : ¬ e = -1) (hF : ¬ F b = -1) : OKB (upd F b e) O W := by
  refine ⟨fun x hx => ?_, H.2⟩
  by_cases u : x = b
  · subst u; rw [upd_t, ← H.1 x hx]; exact ⟨fun _ => hF, fun _ => he⟩
  · rw [upd_f u]; exact H.1 x hx
theorem okb_clr1 {F : Nat → Int32} {O W : Nat → Int64} (H : OKB F O W) {b : Nat} {m1 : Int64} (h1 : ∀ j, j < 64 → bt m1 j = decide (j = b % 64)) : ∀ x, x < 65536 → (¬ upd F b (-1) x = -1 ↔ bt (upd O (b / 64) (O (b / 64) &&& (m1 ^^^ (-1))) (x / 64)) (x % 64) = true) := fun x hx => by
  have hm := Nat.mod_lt x (show 0 < 64 by decide)
  by_cases u : x = b
  · subst u
    rw [upd_t, upd_t, bt_and, bt_not _ hm, h1 _ hm]
    simp
  · rw [upd_f u, H.1 x hx]
    by_cases v : x / 64 = b / 64
    · rw [v, upd_t, bt_and, bt_not _ hm, h1 _ hm, decide_eq_false (by omega), Bool.not_false, Bool.and_true]
    · rw [upd_f v]
theorem okb_clr {F : Nat → Int32} {O W : Nat → Int64} (H : OKB F O W) {b : Nat} {m1 m2 : Int64} (h1 : ∀ j, j < 64 → bt m1 j = decide (j = b % 64)) (h2 : ∀ j, j < 64 → bt m2 j = decide (j = b / 64 % 64)) (hz : O (b / 64) &&& (m1 ^^^ (-1)) = 0) : OKB (upd F b (-1)) (upd O (b / 64) (O (b / 64) &&& (m1 ^^^ (-1)))) (upd W (b / 64 / 64) (W (b / 64 / 64) &&& (m2 ^^^ (-1)))) := by
  refine ⟨okb_clr1 H h1, fun w hw => ?_⟩
  have hm := Nat.mod_lt w (show 0 < 64 by decide)
  by_cases u : w = b / 64
  · subst u
    rw [upd_t, upd_t, hz, bt_and, bt_not _ hm, h2 _ hm]
    simp
  · rw [upd_f u, H.2 w hw]
    by_cases v : w / 64 = b / 64 / 64
    · rw [v, upd_t, bt_and, bt_not _ hm, h2 _ hm, decide_eq_false (by omega), Bool.not_false, Bool.and_true]
    · rw [upd_f v]
theorem okb_clrn {F : Nat → Int32} {O W : Nat → Int64} (H : OKB F O W) {b : Nat} {m1 : Int64} (hb : b < 65536) (h1 : ∀ j, j < 64 → bt m1 j = decide (j = b % 64)) (hz : ¬ O (b / 64) &&& (m1 ^^^ (-1)) = 0) : OKB (upd F b (-1)) (upd O (b / 64) (O (b / 64) &&& (m1 ^^^ (-1)))) W := by
  refine ⟨okb_clr1 H h1, fun w hw => ?_⟩
  by_cases u : w = b / 64
  · subst u
    rw [upd_t]
    refine ⟨fun _ => (H.2 _ hw).mp fun e => hz ?_, fun _ => hz⟩
    rw [e]; exact Int64.zero_and
  · rw [upd_f u]; exact H.2 w hw
def bkN (k : Int64) : Nat := ((k &&& (65535 : Int64)).toInt32).toNatClampNeg
def MB (i p m : Int32) : Prop := (i = 1 ∧ p = -1 ∧ m = 1) ∨ (i = 0 ∧ p ≠ -1 ∧ m = 1) ∨ (i = 0 ∧ p = -1 ∧ m = 0)
def LI (F : Nat → Int32) (i0 i1 : Int32) (k0 k1 : Int64) (b0 b1 a0 a1 : Int32) : Prop :=
  (∀ b, F b = -1 ∨ (F b = 0 ∧ i0 = 1 ∧ b = bkN k0) ∨ (F b = 1 ∧ i1 = 1 ∧ b = bkN k1)) ∧ (i0 = 1 → ¬ F (bkN k0) = -1) ∧ (i1 = 1 → ¬ F (bkN k1) = -1) ∧ ((i0 = 1 ∧ i1 = 0) → b0 = -1 ∧ a0 = -1) ∧ ((i1 = 1 ∧ i0 = 0) → b1 = -1 ∧ a1 = -1)
theorem li_v {F : Nat → Int32} {i0 i1 b0 b1 a0 a1 : Int32} {k0 k1 : Int64} (H : LI F i0 i1 k0 k1 b0 b1 a0 a1) (b : Nat) (hb : ¬ F b = -1) : I2 (F b) ∧ g2 (F b) i0 i1 = 1 ∧ b = bkN (g2 (F b) k0 k1) := by
  rcases H.1 b with h | ⟨h, h2, h3⟩ | ⟨h, h2, h3⟩
  · exact absurd h hb
  · rw [h]; exact ⟨own_i0, h2, h3⟩
  · rw [h]; exact ⟨own_i1, h2, h3⟩
theorem li_put {F : Nat → Int32} {i0 i1 b0 b1 a0 a1 en : Int32} {k0 k1 : Int64} (H : LI F i0 i1 k0 k1 b0 b1 a0 a1) (he : I2 en) (hi : g2 en i0 i1 = 0) (y : Int64) : LI F i0 i1 (s2 en 0 y k0) (s2 en 1 y k1) b0 b1 a0 a1 := by
  rcases he with rfl | rfl
  · rw [own_g0] at hi
    subst hi
    have e0 : s2 (0 : Int32) 0 y k0 = y := if_pos rfl
    have e1 : s2 (0 : Int32) 1 y k1 = k1 := if_neg (by decide)
    rw [e0, e1]
    refine ⟨fun b => ?_, fun h => absurd h (by decide), H.2.2.1, fun h => absurd h.1 (by decide), H.2.2.2.2⟩
    rcases H.1 b with h | ⟨-, h, -⟩ | h
    · exact Or.inl h
    · exact absurd h (by decide)
    · exact Or.inr (Or.inr h)
  · rw [own_g1] at hi
    subst hi
    have e0 : s2 (1 : Int32) 0 y k0 = k0 := if_neg (by decide)
    have e1 : s2 (1 : Int32) 1 y k1 = y := if_pos rfl
    rw [e0, e1]
    refine ⟨fun b => ?_, H.2.1, fun h => absurd h (by decide), H.2.2.2.1, fun h => absurd h.1 (by decide)⟩
    rcases H.1 b with h | h | ⟨-, h, -⟩
    · exact Or.inl h
    · exact Or.inr (Or.inl h)
    · exact absurd h (by decide)
theorem li_link {F : Nat → Int32} {i0 i1 b0 b1 a0 a1 c0 c1 en : Int32} {k0 k1 : Int64} (H : LI F i0 i1 k0 k1 b0 b1 a0 a1) (he : I2 en) (hi : g2 en i0 i1 = 0) {y : Int32} (hy : y = F (bkN (g2 en k0 k1))) (hc : y = -1 → c0 = s2 en 0 (-1) b0 ∧ c1 = s2 en 1 (-1) b1) :
    LI (upd F (bkN (g2 en k0 k1)) en) (s2 en 0 1 i0) (s2 en 1 1 i1) k0 k1 c0 c1 (s2 en 0 y a0) (s2 en 1 y a1) := by
  rcases he with rfl | rfl
  · rw [own_g0] at hi hy
    subst hi
    rw [own_g0, show s2 (0 : Int32) 0 1 (0 : Int32) = 1 from if_pos rfl, show s2 (0 : Int32) 1 1 i1 = i1 from if_neg (by decide), show s2 (0 : Int32) 0 y a0 = y from if_pos rfl, show s2 (0 : Int32) 1 y a1 = a1 from if_neg (by decide)]
    refine ⟨fun b => ?_, fun _ => by rw [upd_t]; decide, fun h => ?_, fun h => ?_, fun h => absurd h.2 (by decide)⟩
    · by_cases u : b = bkN k0
      · rw [u, upd_t]; exact Or.inr (Or.inl ⟨rfl, rfl, rfl⟩)
      · rw [upd_f u]
        rcases H.1 b with h | ⟨-, h, -⟩ | h
        · exact Or.inl h
        · exact absurd h (by decide)
        · exact Or.inr (Or.inr h)
    · by_cases u : bkN k1 = bkN k0
      · rw [u, upd_t]; decide
      · rw [upd_f u]; exact H.2.2.1 h
    · have hF : y = -1 := by
        rw [hy]
        rcases H.1 (bkN k0) with q | ⟨-, q, -⟩ | ⟨-, q, -⟩
        · exact q
        · exact absurd q (by decide)
        · rw [h.2] at q; exact absurd q (by decide)
      exact ⟨(hc hF).1.trans (if_pos rfl), hF⟩
  · rw [own_g1] at hi hy
    subst hi
    rw [own_g1, show s2 (1 : Int32) 1 1 (0 : Int32) = 1 from if_pos rfl, show s2 (1 : Int32) 0 1 i0 = i0 from if_neg (by decide), show s2 (1 : Int32) 1 y a1 = y from if_pos rfl, show s2 (1 : Int32) 0 y a0 = a0 from if_neg (by decide)]
    refine ⟨fun b => ?_, fun h => ?_, fun _ => by rw [upd_t]; decide, fun h => absurd h.2 (by decide), fun h => ?_⟩
    · by_cases u : b = bkN k1
      · rw [u, upd_t]; exact Or.inr (Or.inr ⟨rfl, rfl, rfl⟩)
      · rw [upd_f u]
        rcases H.1 b with h | h | ⟨-, h, -⟩
        · exact Or.inl h
        · exact Or.inr (Or.inl h)
        · exact absurd h (by decide)
    · by_cases u : bkN k0 = bkN k1
      · rw [u, upd_t]; decide
      · rw [upd_f u]; exact H.2.1 h
    · have hF : y = -1 := by
        rw [hy]
        rcases H.1 (bkN k1) with q | ⟨-, q, -⟩ | ⟨-, q, -⟩
        · exact q
        · rw [h.2] at q; exact absurd q (by decide)
        · exact absurd q (by decide)
      exact ⟨(hc hF).2.trans (if_pos rfl), hF⟩
/-- the other one -/
def ot (en i0 i1 : Int32) : Int32 := g2 en i1 i0
theorem li_sole {F : Nat → Int32} {i0 i1 b0 b1 a0 a1 en : Int32} {k0 k1 : Int64} (H : LI F i0 i1 k0 k1 b0 b1 a0 a1) (he : I2 en) (hi : g2 en i0 i1 = 1) (ho : ot en i0 i1 = 0) : g2 en b0 b1 = -1 ∧ g2 en a0 a1 = -1 := by
  rcases he with rfl | rfl
  · rw [own_g0] at hi; rw [ot, own_g0] at ho; rw [own_g0, own_g0]; exact H.2.2.2.1 ⟨hi, ho⟩
  · rw [own_g1] at hi; rw [ot, own_g1] at ho; rw [own_g1, own_g1]; exact H.2.2.2.2 ⟨hi, ho⟩
theorem li_unlink {F : Nat → Int32} {i0 i1 b0 b1 a0 a1 en : Int32} {k0 k1 : Int64} (H : LI F i0 i1 k0 k1 b0 b1 a0 a1) (he : I2 en) (hi : g2 en i0 i1 = 1) (ho : ot en i0 i1 = 0) : LI (upd F (bkN (g2 en k0 k1)) (-1)) (s2 en 0 0 i0) (s2 en 1 0 i1) k0 k1 b0 b1 a0 a1 := by
  have hall : ∀ b, upd F (bkN (g2 en k0 k1)) (-1) b = -1 := fun b => by
    by_cases u : b = bkN (g2 en k0 k1)
    · rw [u, upd_t]
    · rw [upd_f u]
      rcases he with rfl | rfl
      · rw [own_g0] at u; rw [ot, own_g0] at ho
        rcases H.1 b with h | ⟨-, -, h⟩ | ⟨-, h, -⟩
        · exact h
        · exact absurd h u
        · rw [ho] at h; exact absurd h (by decide)
      · rw [own_g1] at u; rw [ot, own_g1] at ho
        rcases H.1 b with h | ⟨-, h, -⟩ | ⟨-, -, h⟩
        · exact h
        · rw [ho] at h; exact absurd h (by decide)
        · exact absurd h u
  have hz : s2 en 0 0 i0 = 0 ∧ s2 en 1 0 i1 = 0 := by
    rcases he with rfl | rfl
    · rw [ot, own_g0] at ho; exact ⟨if_pos rfl, (if_neg (by decide)).trans ho⟩
    · rw [ot, own_g1] at ho; exact ⟨(if_neg (by decide)).trans ho, if_pos rfl⟩
  rw [hz.1, hz.2]
  exact ⟨fun b => Or.inl (hall b), fun h => absurd h (by decide), fun h => absurd h (by decide), fun h => absurd h.1 (by decide), fun h => absurd h.1 (by decide)⟩
theorem li_start : LI (fun _ => -1) 0 0 0 0 0 0 0 0 := ⟨fun _ => Or.inl rfl, fun h => absurd h (by decide), fun h => absurd h (by decide), fun h => absurd h.1 (by decide), fun h => absurd h.1 (by decide)⟩
theorem okb_start : OKB (fun _ => -1) (fun _ => 0) (fun _ => 0) := ⟨fun b _ => by rw [bt_z]; simp, fun w _ => by rw [bt_z]; simp⟩
theorem own_nin {D : List Addr} (hD : D.Nodup) (i : Nat) (js : List Nat) {x : Addr} {ws : List Addr} (hx : D[i]? = some x) (hws : js.map (fun j => D[j]?) = ws.map some) (hne : i ∉ js) : x ∉ ws := fun hm => by
  have h1 : some x ∈ js.map (fun j => D[j]?) := by rw [hws]; exact List.mem_map_of_mem hm
  obtain ⟨j, hj, hjx⟩ := List.mem_map.mp h1
  refine hne ?_
  by_cases u : i = j
  · rw [u]; exact hj
  · exact absurd rfl (own_nd hD i j hx hjx u)
theorem own_get2I {cl : Cell} {x0 x1 dw y : Int32} {j : Int32} (H : Has cl [.int x0, .int x1] (.int dw)) (hin : ¬ (j < 0 ∨ cl.slots.size ≤ j.toNatClampNeg)) (hj : I2 j) (hy : y = g2 j x0 x1) : cl.slots[j.toNatClampNeg]? = some (.int y) := by
  subst hy
  rcases hj with rfl | rfl
  · exact H.at hin rfl
  · exact H.at hin rfl
theorem own_pj2I {P : Value → Prop} {x0 x1 dw : Int32} (h0 : P (.int x0)) (h1 : P (.int x1)) (hd : P (.int dw)) : ∀ i, P (([.int x0, .int x1] : List Value).getD i (.int dw)) := fun i => by
  match i with
  | 0 => exact h0
  | 1 => exact h1
  | (i + 2) => exact hd
theorem own_get2J {cl : Cell} {x0 x1 dw y : Int64} {j : Int32} (H : Has cl [.long x0, .long x1] (.long dw)) (hin : ¬ (j < 0 ∨ cl.slots.size ≤ j.toNatClampNeg)) (hj : I2 j) (hy : y = g2 j x0 x1) : cl.slots[j.toNatClampNeg]? = some (.long y) := by
  subst hy
  rcases hj with rfl | rfl
  · exact H.at hin rfl
  · exact H.at hin rfl
theorem own_pj2J {P : Value → Prop} {x0 x1 dw : Int64} (h0 : P (.long x0)) (h1 : P (.long x1)) (hd : P (.long dw)) : ∀ i, P (([.long x0, .long x1] : List Value).getD i (.long dw)) := fun i => by
  match i with
  | 0 => exact h0
  | 1 => exact h1
  | (i + 2) => exact hd
theorem d22_0 : decode prog_35_method_10_code 0 = .ok (.aload_n 0, 1) := by decide +kernel
theorem d22_1 : decode prog_35_method_10_code 1 = .ok (.getfield 13, 3) := by decide +kernel
theorem d22_4 : decode prog_35_method_10_code 4 = .ok (.iload_n 2, 1) := by decide +kernel
theorem d22_5 : decode prog_35_method_10_code 5 = .ok (.iload_n 1, 1) := by decide +kernel
theorem d22_6 : decode prog_35_method_10_code 6 = .ok (.iastore, 1) := by decide +kernel
theorem d22_7 : decode prog_35_method_10_code 7 = .ok (.aload_n 0, 1) := by decide +kernel
theorem d22_8 : decode prog_35_method_10_code 8 = .ok (.getfield 17, 3) := by decide +kernel
theorem d22_11 : decode prog_35_method_10_code 11 = .ok (.iload_n 1, 1) := by decide +kernel
theorem d22_12 : decode prog_35_method_10_code 12 = .ok (.iload_n 2, 1) := by decide +kernel
theorem d22_13 : decode prog_35_method_10_code 13 = .ok (.iastore, 1) := by decide +kernel
theorem d22_14 : decode prog_35_method_10_code 14 = .ok (.return_, 1) := by decide +kernel
theorem ne8_10 {kq aF aO aW aK aB aA aI hp lo aE aP : Addr} (h : List.Nodup [kq, aF, aO, aW, aK, aB, aA, aI, hp, lo, aE, aP]) : hp ≠ aE := own_nd h 8 10 rfl rfl (by decide)
theorem ne11_10 {kq aF aO aW aK aB aA aI hp lo aE aP : Addr} (h : List.Nodup [kq, aF, aO, aW, aK, aB, aA, aI, hp, lo, aE, aP]) : aP ≠ aE := own_nd h 11 10 rfl rfl (by decide)
theorem ne10_11 {kq aF aO aW aK aB aA aI hp lo aE aP : Addr} (h : List.Nodup [kq, aF, aO, aW, aK, aB, aA, aI, hp, lo, aE, aP]) : aE ≠ aP := own_nd h 10 11 rfl rfl (by decide)
theorem pn_1 : plainName "com/example/leasewise/leasewise/IndexedHeap" = true := by first | (simp [plainName, overriddenIn]; done) | decide +kernel
theorem ef_rm_place_0 (m : MethodId) (x0 : Addr) (x1 : Int32) (x2 : Int32) : entryFrame m #[(.ref x0), (.int x1), (.int x2)] 3 = mkF m 0 #[.val (.ref x0), .val (.int x1), .val (.int x2)] [] := by first | (simp [entryFrame, mkF, argsToLocals, Value.category]; done) | rfl
def Q_rm_place_0 (Z : State) (hp : Addr) (x : Int32) (kq aF aO aW aK aB aA aI lo aE aP : Addr) (kE kP : ClassId) (en0 en1 po0 po1 : Int32) (h0 : Heap) (n0 : Nat) (v : Option Value) (h : Heap) (L : List Loc) : Prop := v = none ∧ Fr n0 L ∧ Keep h0 h [aE, aP] ∧ Arv Z h aE kE .int (2 : Int32) [(.int x), (.int en1)] (.int (0 : Int32)) ∧ Arv Z h aP kP .int (2 : Int32) [(.int (s2 x 0 (0 : Int32) po0)), (.int (s2 x 1 (0 : Int32) po1))] (.int (-1 : Int32))
set_option maxRecDepth 65536 in
set_option maxHeartbeats 40000000 in
theorem rm_place_0 (l : Launch) (Z : State) (a0 : Array Value) (hw : ∀ d ∈ tables_1, d.before a0 Z = true) (ws : List Jvm.Cond) (hp : Addr) (x : Int32) (kq aF aO aW aK aB aA aI lo aE aP : Addr) (kE kP : ClassId) (en0 en1 po0 po1 : Int32) (h0 : Heap) (n0 : Nat) (O0 : Old Z n0 h0) (E_hp : Exa Z h0 hp cH) (F_hp_order : Fld Z h0 hp cH "order" "Lcom/example/leasewise/leasewise/IndexedHeap$Order;" (.ref lo)) (F_hp_entries : Fld Z h0 hp cH "entries" "[I" (.ref aE)) (F_hp_positions : Fld Z h0 hp cH "positions" "[I" (.ref aP)) (V_aE : Arv Z h0 aE kE .int (2 : Int32) [(.int en0), (.int en1)] (.int (0 : Int32))) (V_aP : Arv Z h0 aP kP .int (2 : Int32) [(.int po0), (.int po1)] (.int (-1 : Int32))) (g_aE : n0 ≤ aE) (g_aP : n0 ≤ aP) (NDp : List.Nodup [kq, aF, aO, aW, aK, aB, aA, aI, hp, lo, aE, aP]) (hx4 : I2 x) :
    MetFree l (⟨cH, "place", "(II)V"⟩ : MethodName) (head1 (Jvm.Cond.code (⟨cH, "place", "(II)V"⟩ : MethodName) prog_35_method_10_code 3 none :: ws) ({ frames := 0, cells := 0, slots := 0, locals := 0 } : Room)) (fun a U => a = #[(.ref hp), (.int x), (.int (0 : Int32))] ∧ Z.WarmedH U.vm ∧ U.heap = h0) (fun _ _ _ _ _ => True) (fun _ U o U' => ∃ v L, o = .returned v ∧ Q_rm_place_0 Z hp x kq aF aO aW aK aB aA aI lo aE aP kE kP en0 en1 po0 po1 h0 n0 v U'.heap L ∧ FrameEnd U o U' L ({ frames := 0, cells := 0, slots := 0, locals := 0 } : Room).cells ({ frames := 0, cells := 0, slots := 0, locals := 0 } : Room).slots) := by
  refine MetFree.of_bodySF (plainFor_of_name pn_1) hisR ?_
  intro p e s m args below meth c s₁ Bd hml0 hP hK
  obtain ⟨rfl, hZH, hh⟩ := hP
  have hZ := hZH.wide
  have hx := Bd.exec
  have hby := Bd.bytes
  have D := fun {pc : Nat} {r : Except ClassFile.DecodeError (ClassFile.Instr × Nat)} (q : decode prog_35_method_10_code pc = r) => hb (pc := pc) hby q
  have hml : c.maxLocals = 3 := hml0
  have hown : s.vm.findClass cH = some m.cls := findClass_of_methodNamed Bd.named
  have hnm := (name_of_methodNamed Bd.named Bd.method).1
  have X0 : Stand p l e ({ frames := 0, cells := 0, slots := 0, locals := 0 } : Room) s m #[(.ref hp), (.int x), (.int (0 : Int32))] below meth c s₁ [] 0 0 := Stand.of_body Bd
  have e0 : s₁.heap = h0 := by rw [← hh, Bd.state]; rfl
  have N0 := Fr.nil n0
  have pre0 : ∀ t, Steps p.tables e below (s₁.setTop (mkF m 0 #[.val (.ref hp), .val (.int x), .val (.int (0 : Int32))] [])) t → Steps p.tables e below (s₁.setTop (entryFrame m #[(.ref hp), (.int x), (.int (0 : Int32))] 3)) t := fun t k => castTop (ef_rm_place_0 m (hp) (x) ((0 : Int32))) k
  have wd := fun {d : Jvm.Cond} (i : Nat) (h : tables_1[i]? = some d) => hw d (List.mem_of_getElem? h)
  obtain ⟨T1, X1, e1, st1⟩ := getF X0 hx hZ hown (host := "") (Or.inl (wd 44 rfl)) Via.refl e0 F_hp_entries (g := (mkF m 1 #[.val (.ref hp), .val (.int x), .val (.int (0 : Int32))] [(.ref hp)])) rfl rfl (D d22_1)
  obtain ⟨cl2, Ar2, q2, S2, Nn2, H2, G2⟩ := id V_aE
  have hin2 : ¬ ((0 : Int32) < 0 ∨ cl2.slots.size ≤ ((0 : Int32)).toNatClampNeg) := inb_of S2 ⟨by decide, by decide⟩
  obtain ⟨T2, h2, X2, e2, W2, st2⟩ := stI X1 hx hZ e1 Ar2 (j := (0 : Int32)) hin2 (g := (mkF m 6 #[.val (.ref hp), .val (.int x), .val (.int (0 : Int32))] [(.int x), (.int (0 : Int32)), (.ref aE)])) rfl rfl (D d22_6)
  have V2 : Arv Z h2 aE kE .int (2 : Int32) [(.int x), (.int en1)] (.int (0 : Int32)) := Arv.set Ar2 q2 S2 Nn2 H2 G2 rfl W2 0 rfl (Nat.le_of_ble_eq_true rfl)
  have N2 := Fr.snoc X2 N0 g_aE
  have Zn2 : n0 ≤ h2.size := Nat.le_trans (own_oldsz O0) (Keep.of_wr W2).1
  have K2 : Keep h0 h2 [aE, aP] := (Keep.refl h0 [aE, aP]).wr W2 (Or.inl (List.mem_of_getElem? (i := 0) rfl))
  have O2 := O0.wr W2 g_aE
  have f3 := (F_hp_positions.other W2 (Or.inl (ne8_10 NDp)))
  obtain ⟨T4, X4, e4, st4⟩ := getF X2 hx hZ hown (host := "") (Or.inl (wd 46 rfl)) Via.refl e2 f3 (g := (mkF m 8 #[.val (.ref hp), .val (.int x), .val (.int (0 : Int32))] [(.ref hp)])) rfl rfl (D d22_8)
  have f6 := (V_aP.other W2 (ne11_10 NDp))
  obtain ⟨cl5, Ar5, q5, S5, Nn5, H5, G5⟩ := id f6
  have hin5 : ¬ (x < 0 ∨ cl5.slots.size ≤ (x).toNatClampNeg) := inb_of S5 (own_in2 hx4)
  obtain ⟨T5, h5, X5, e5, W5, st5⟩ := stI X4 hx hZ e4 Ar5 (j := x) hin5 (g := (mkF m 13 #[.val (.ref hp), .val (.int x), .val (.int (0 : Int32))] [(.int (0 : Int32)), (.int x), (.ref aP)])) rfl rfl (D d22_13)
  have V5 : Arv Z h5 aP kP .int (2 : Int32) [(.int (s2 x 0 (0 : Int32) po0)), (.int (s2 x 1 (0 : Int32) po1))] (.int (-1 : Int32)) := own_set2I (w := (0 : Int32)) Ar5 q5 S5 Nn5 H5 G5 rfl W5 hx4
  have N5 := Fr.snoc X5 N2 g_aP
  have Zn5 : n0 ≤ h5.size := Nat.le_trans Zn2 (Keep.of_wr W5).1
  have K5 : Keep h0 h5 [aE, aP] := K2.wr W5 (Or.inl (List.mem_of_getElem? (i := 1) rfl))
  have O5 := O2.wr W5 g_aP
  have f7 := (V2.other W5 (ne10_11 NDp))
  obtain ⟨fs, hr, hrun, hended, hW, hsame⟩ := X5.leave (v := none) (fun _ => rfl)
  refine ⟨_, _, pre0 _ ?_, hrun, hended, _, _, rfl, ?_, ⟨_, rfl⟩, hW, hsame.mono (by decide) (by decide)⟩
  · refine s_aloadN X0 hx (D d22_0) rfl rfl ?_
    refine st1 _ ?_
    refine s_iloadN X1 hx (D d22_4) rfl ?_
    refine s_iloadN X1 hx (D d22_5) rfl ?_
    refine st2 _ ?_
    refine s_aloadN X2 hx (D d22_7) rfl rfl ?_
    refine st4 _ ?_
    refine s_iloadN X4 hx (D d22_11) rfl ?_
    refine s_iloadN X4 hx (D d22_12) rfl ?_
    refine st5 _ ?_
    exact X5.returnOut hx Bd.returns (D d22_14) hr
  · show Q_rm_place_0 Z hp x kq aF aO aW aK aB aA aI lo aE aP kE kP en0 en1 po0 po1 h0 n0 _ T5.heap _
    rw [e5]
    exact ⟨rfl, N5, K5, f7, V5⟩
theorem ef_rm_place_1 (m : MethodId) (x0 : Addr) (x1 : Int32) (x2 : Int32) : entryFrame m #[(.ref x0), (.int x1), (.int x2)] 3 = mkF m 0 #[.val (.ref x0), .val (.int x1), .val (.int x2)] [] := by first | (simp [entryFrame, mkF, argsToLocals, Value.category]; done) | rfl
def Q_rm_place_1 (Z : State) (hp : Addr) (x : Int32) (kq aF aO aW aK aB aA aI lo aE aP : Addr) (kE kP : ClassId) (en0 en1 po0 po1 : Int32) (h0 : Heap) (n0 : Nat) (v : Option Value) (h : Heap) (L : List Loc) : Prop := v = none ∧ Fr n0 L ∧ Keep h0 h [aE, aP] ∧ Arv Z h aE kE .int (2 : Int32) [(.int en0), (.int x)] (.int (0 : Int32)) ∧ Arv Z h aP kP .int (2 : Int32) [(.int (s2 x 0 (1 : Int32) po0)), (.int (s2 x 1 (1 : Int32) po1))] (.int (-1 : Int32))
set_option maxRecDepth 65536 in
set_option maxHeartbeats 40000000 in
theorem rm_place_1 (l : Launch) (Z : State) (a0 : Array Value) (hw : ∀ d ∈ tables_1, d.before a0 Z = true) (ws : List Jvm.Cond) (hp : Addr) (x : Int32) (kq aF aO aW aK aB aA aI lo aE aP : Addr) (kE kP : ClassId) (en0 en1 po0 po1 : Int32) (h0 : Heap) (n0 : Nat) (O0 : Old Z n0 h0) (E_hp : Exa Z h0 hp cH) (F_hp_order : Fld Z h0 hp cH "order" "Lcom/example/leasewise/leasewise/IndexedHeap$Order;" (.ref lo)) (F_hp_entries : Fld Z h0 hp cH "entries" "[I" (.ref aE)) (F_hp_positions : Fld Z h0 hp cH "positions" "[I" (.ref aP)) (V_aE : Arv Z h0 aE kE .int (2 : Int32) [(.int en0), (.int en1)] (.int (0 : Int32))) (V_aP : Arv Z h0 aP kP .int (2 : Int32) [(.int po0), (.int po1)] (.int (-1 : Int32))) (g_aE : n0 ≤ aE) (g_aP : n0 ≤ aP) (NDp : List.Nodup [kq, aF, aO, aW, aK, aB, aA, aI, hp, lo, aE, aP]) (hx4 : I2 x) :
    MetFree l (⟨cH, "place", "(II)V"⟩ : MethodName) (head1 (Jvm.Cond.code (⟨cH, "place", "(II)V"⟩ : MethodName) prog_35_method_10_code 3 none :: ws) ({ frames := 0, cells := 0, slots := 0, locals := 0 } : Room)) (fun a U => a = #[(.ref hp), (.int x), (.int (1 : Int32))] ∧ Z.WarmedH U.vm ∧ U.heap = h0) (fun _ _ _ _ _ => True) (fun _ U o U' => ∃ v L, o = .returned v ∧ Q_rm_place_1 Z hp x kq aF aO aW aK aB aA aI lo aE aP kE kP en0 en1 po0 po1 h0 n0 v U'.heap L ∧ FrameEnd U o U' L ({ frames := 0, cells := 0, slots := 0, locals := 0 } : Room).cells ({ frames := 0, cells := 0, slots := 0, locals := 0 } : Room).slots) := by
  refine MetFree.of_bodySF (plainFor_of_name pn_1) hisR ?_
  intro p e s m args below meth c s₁ Bd hml0 hP hK
  obtain ⟨rfl, hZH, hh⟩ := hP
  have hZ := hZH.wide
  have hx := Bd.exec
  have hby := Bd.bytes
  have D := fun {pc : Nat} {r : Except ClassFile.DecodeError (ClassFile.Instr × Nat)} (q : decode prog_35_method_10_code pc = r) => hb (pc := pc) hby q
  have hml : c.maxLocals = 3 := hml0
  have hown : s.vm.findClass cH = some m.cls := findClass_of_methodNamed Bd.named
  have hnm := (name_of_methodNamed Bd.named Bd.method).1
  have X0 : Stand p l e ({ frames := 0, cells := 0, slots := 0, locals := 0 } : Room) s m #[(.ref hp), (.int x), (.int (1 : Int32))] below meth c s₁ [] 0 0 := Stand.of_body Bd
  have e0 : s₁.heap = h0 := by rw [← hh, Bd.state]; rfl
  have N0 := Fr.nil n0
  have pre0 : ∀ t, Steps p.tables e below (s₁.setTop (mkF m 0 #[.val (.ref hp), .val (.int x), .val (.int (1 : Int32))] [])) t → Steps p.tables e below (s₁.setTop (entryFrame m #[(.ref hp), (.int x), (.int (1 : Int32))] 3)) t := fun t k => castTop (ef_rm_place_1 m (hp) (x) ((1 : Int32))) k
  have wd := fun {d : Jvm.Cond} (i : Nat) (h : tables_1[i]? = some d) => hw d (List.mem_of_getElem? h)
  obtain ⟨T1, X1, e1, st1⟩ := getF X0 hx hZ hown (host := "") (Or.inl (wd 44 rfl)) Via.refl e0 F_hp_entries (g := (mkF m 1 #[.val (.ref hp), .val (.int x), .val (.int (1 : Int32))] [(.ref hp)])) rfl rfl (D d22_1)
  obtain ⟨cl2, Ar2, q2, S2, Nn2, H2, G2⟩ := id V_aE
  have hin2 : ¬ ((1 : Int32) < 0 ∨ cl2.slots.size ≤ ((1 : Int32)).toNatClampNeg) := inb_of S2 ⟨by decide, by decide⟩
  obtain ⟨T2, h2, X2, e2, W2, st2⟩ := stI X1 hx hZ e1 Ar2 (j := (1 : Int32)) hin2 (g := (mkF m 6 #[.val (.ref hp), .val (.int x), .val (.int (1 : Int32))] [(.int x), (.int (1 : Int32)), (.ref aE)])) rfl rfl (D d22_6)
  have V2 : Arv Z h2 aE kE .int (2 : Int32) [(.int en0), (.int x)] (.int (0 : Int32)) := Arv.set Ar2 q2 S2 Nn2 H2 G2 rfl W2 1 rfl (Nat.le_of_ble_eq_true rfl)
  have N2 := Fr.snoc X2 N0 g_aE
  have Zn2 : n0 ≤ h2.size := Nat.le_trans (own_oldsz O0) (Keep.of_wr W2).1
  have K2 : Keep h0 h2 [aE, aP] := (Keep.refl h0 [aE, aP]).wr W2 (Or.inl (List.mem_of_getElem? (i := 0) rfl))
  have O2 := O0.wr W2 g_aE
  have f3 := (F_hp_positions.other W2 (Or.inl (ne8_10 NDp)))
  obtain ⟨T4, X4, e4, st4⟩ := getF X2 hx hZ hown (host := "") (Or.inl (wd 46 rfl)) Via.refl e2 f3 (g := (mkF m 8 #[.val (.ref hp), .val (.int x), .val (.int (1 : Int32))] [(.ref hp)])) rfl rfl (D d22_8)
  have f6 := (V_aP.other W2 (ne11_10 NDp))
  obtain ⟨cl5, Ar5, q5, S5, Nn5, H5, G5⟩ := id f6
  have hin5 : ¬ (x < 0 ∨ cl5.slots.size ≤ (x).toNatClampNeg) := inb_of S5 (own_in2 hx4)
  obtain ⟨T5, h5, X5, e5, W5, st5⟩ := stI X4 hx hZ e4 Ar5 (j := x) hin5 (g := (mkF m 13 #[.val (.ref hp), .val (.int x), .val (.int (1 : Int32))] [(.int (1 : Int32)), (.int x), (.ref aP)])) rfl rfl (D d22_13)
  have V5 : Arv Z h5 aP kP .int (2 : Int32) [(.int (s2 x 0 (1 : Int32) po0)), (.int (s2 x 1 (1 : Int32) po1))] (.int (-1 : Int32)) := own_set2I (w := (1 : Int32)) Ar5 q5 S5 Nn5 H5 G5 rfl W5 hx4
  have N5 := Fr.snoc X5 N2 g_aP
  have Zn5 : n0 ≤ h5.size := Nat.le_trans Zn2 (Keep.of_wr W5).1
  have K5 : Keep h0 h5 [aE, aP] := K2.wr W5 (Or.inl (List.mem_of_getElem? (i := 1) rfl))
  have O5 := O2.wr W5 g_aP
  have f7 := (V2.other W5 (ne10_11 NDp))
  obtain ⟨fs, hr, hrun, hended, hW, hsame⟩ := X5.leave (v := none) (fun _ => rfl)
  refine ⟨_, _, pre0 _ ?_, hrun, hended, _, _, rfl, ?_, ⟨_, rfl⟩, hW, hsame.mono (by decide) (by decide)⟩
  · refine s_aloadN X0 hx (D d22_0) rfl rfl ?_
    refine st1 _ ?_
    refine s_iloadN X1 hx (D d22_4) rfl ?_
    refine s_iloadN X1 hx (D d22_5) rfl ?_
    refine st2 _ ?_
    refine s_aloadN X2 hx (D d22_7) rfl rfl ?_
    refine st4 _ ?_
    refine s_iloadN X4 hx (D d22_11) rfl ?_
    refine s_iloadN X4 hx (D d22_12) rfl ?_
    refine st5 _ ?_
    exact X5.returnOut hx Bd.returns (D d22_14) hr
  · show Q_rm_place_1 Z hp x kq aF aO aW aK aB aA aI lo aE aP kE kP en0 en1 po0 po1 h0 n0 _ T5.heap _
    rw [e5]
    exact ⟨rfl, N5, K5, f7, V5⟩
theorem d27_0 : decode prog_39_method_15_code 0 = .ok (.aload_n 0, 1) := by decide +kernel
theorem d27_1 : decode prog_39_method_15_code 1 = .ok (.getfield 23, 3) := by decide +kernel
theorem d27_4 : decode prog_39_method_15_code 4 = .ok (.iload_n 1, 1) := by decide +kernel
theorem d27_5 : decode prog_39_method_15_code 5 = .ok (.laload, 1) := by decide +kernel
theorem d27_6 : decode prog_39_method_15_code 6 = .ok (.aload_n 0, 1) := by decide +kernel
theorem d27_7 : decode prog_39_method_15_code 7 = .ok (.getfield 23, 3) := by decide +kernel
theorem d27_10 : decode prog_39_method_15_code 10 = .ok (.iload_n 2, 1) := by decide +kernel
theorem d27_11 : decode prog_39_method_15_code 11 = .ok (.laload, 1) := by decide +kernel
theorem d27_12 : decode prog_39_method_15_code 12 = .ok (.lcmp, 1) := by decide +kernel
theorem d27_13 : decode prog_39_method_15_code 13 = .ok (.ifCond .eq 27, 3) := by decide +kernel
theorem d27_16 : decode prog_39_method_15_code 16 = .ok (.aload_n 0, 1) := by decide +kernel
theorem d27_17 : decode prog_39_method_15_code 17 = .ok (.getfield 23, 3) := by decide +kernel
theorem d27_20 : decode prog_39_method_15_code 20 = .ok (.iload_n 1, 1) := by decide +kernel
theorem d27_21 : decode prog_39_method_15_code 21 = .ok (.laload, 1) := by decide +kernel
theorem d27_22 : decode prog_39_method_15_code 22 = .ok (.aload_n 0, 1) := by decide +kernel
theorem d27_23 : decode prog_39_method_15_code 23 = .ok (.getfield 23, 3) := by decide +kernel
theorem d27_26 : decode prog_39_method_15_code 26 = .ok (.iload_n 2, 1) := by decide +kernel
theorem d27_27 : decode prog_39_method_15_code 27 = .ok (.laload, 1) := by decide +kernel
theorem d27_28 : decode prog_39_method_15_code 28 = .ok (.lcmp, 1) := by decide +kernel
theorem d27_29 : decode prog_39_method_15_code 29 = .ok (.ifCond .ge 7, 3) := by decide +kernel
theorem d27_32 : decode prog_39_method_15_code 32 = .ok (.iconst 1, 1) := by decide +kernel
theorem d27_33 : decode prog_39_method_15_code 33 = .ok (.goto 17, 3) := by decide +kernel
theorem d27_36 : decode prog_39_method_15_code 36 = .ok (.iconst 0, 1) := by decide +kernel
theorem d27_37 : decode prog_39_method_15_code 37 = .ok (.goto 13, 3) := by decide +kernel
theorem d27_40 : decode prog_39_method_15_code 40 = .ok (.iload_n 1, 1) := by decide +kernel
theorem d27_41 : decode prog_39_method_15_code 41 = .ok (.iload_n 2, 1) := by decide +kernel
theorem d27_42 : decode prog_39_method_15_code 42 = .ok (.if_icmp .ge 7, 3) := by decide +kernel
theorem d27_45 : decode prog_39_method_15_code 45 = .ok (.iconst 1, 1) := by decide +kernel
theorem d27_46 : decode prog_39_method_15_code 46 = .ok (.goto 4, 3) := by decide +kernel
theorem d27_49 : decode prog_39_method_15_code 49 = .ok (.iconst 0, 1) := by decide +kernel
theorem d27_50 : decode prog_39_method_15_code 50 = .ok (.ireturn, 1) := by decide +kernel
theorem pn_2 : plainName "com/example/leasewise/leasewise/KilometreQueue" = true := by first | (simp [plainName, overriddenIn]; done) | decide +kernel
theorem ef_rm_lam (m : MethodId) (x0 : Addr) (x1 : Int32) (x2 : Int32) : entryFrame m #[(.ref x0), (.int x1), (.int x2)] 3 = mkF m 0 #[.val (.ref x0), .val (.int x1), .val (.int x2)] [] := by first | (simp [entryFrame, mkF, argsToLocals, Value.category]; done) | rfl
def Q_rm_lam (Z : State) (kq : Addr) (x : Int32) (y : Int32) (aK : Addr) (kK : ClassId) (h0 : Heap) (n0 : Nat) (v : Option Value) (h : Heap) (L : List Loc) : Prop := ∃ (r_ : Int32), v = some (.int r_) ∧ Fr n0 L ∧ Keep h0 h [] ∧ (r_ = 0 ∨ r_ = 1)
set_option maxRecDepth 65536 in
set_option maxHeartbeats 40000000 in
theorem rm_lam (l : Launch) (Z : State) (a0 : Array Value) (hw : ∀ d ∈ tables_1, d.before a0 Z = true) (ws : List Jvm.Cond) (kq : Addr) (x : Int32) (y : Int32) (aK : Addr) (kK : ClassId) (h0 : Heap) (n0 : Nat) (O0 : Old Z n0 h0) (E_kq : Exa Z h0 kq cQ) (F_kq_keys : Fld Z h0 kq cQ "keys" "[J" (.ref aK)) (hx4 : I2 x) (hy4 : I2 y) (V_aK : Arp Z h0 aK kK .long (2 : Int32) PJ) :
    MetFree l (⟨cQ, "lambda$new$0", "(II)Z"⟩ : MethodName) (head1 (Jvm.Cond.code (⟨cQ, "lambda$new$0", "(II)Z"⟩ : MethodName) prog_39_method_15_code 3 (some .boolean) :: ws) ({ frames := 0, cells := 0, slots := 0, locals := 0 } : Room)) (fun a U => a = #[(.ref kq), (.int x), (.int y)] ∧ Z.WarmedH U.vm ∧ U.heap = h0) (fun _ _ _ _ _ => True) (fun _ U o U' => ∃ v L, o = .returned v ∧ Q_rm_lam Z kq x y aK kK h0 n0 v U'.heap L ∧ FrameEnd U o U' L ({ frames := 0, cells := 0, slots := 0, locals := 0 } : Room).cells ({ frames := 0, cells := 0, slots := 0, locals := 0 } : Room).slots) := by
  refine MetFree.of_bodySF (plainFor_of_name pn_2) hisR ?_
  intro p e s m args below meth c s₁ Bd hml0 hP hK
  obtain ⟨rfl, hZH, hh⟩ := hP
  have hZ := hZH.wide
  have hx := Bd.exec
  have hby := Bd.bytes
  have D := fun {pc : Nat} {r : Except ClassFile.DecodeError (ClassFile.Instr × Nat)} (q : decode prog_39_method_15_code pc = r) => hb (pc := pc) hby q
  have hml : c.maxLocals = 3 := hml0
  have hown : s.vm.findClass cQ = some m.cls := findClass_of_methodNamed Bd.named
  have hnm := (name_of_methodNamed Bd.named Bd.method).1
  have X0 : Stand p l e ({ frames := 0, cells := 0, slots := 0, locals := 0 } : Room) s m #[(.ref kq), (.int x), (.int y)] below meth c s₁ [] 0 0 := Stand.of_body Bd
  have e0 : s₁.heap = h0 := by rw [← hh, Bd.state]; rfl
  have N0 := Fr.nil n0
  have pre0 : ∀ t, Steps p.tables e below (s₁.setTop (mkF m 0 #[.val (.ref kq), .val (.int x), .val (.int y)] [])) t → Steps p.tables e below (s₁.setTop (entryFrame m #[(.ref kq), (.int x), (.int y)] 3)) t := fun t k => castTop (ef_rm_lam m (kq) (x) (y)) k
  have wd := fun {d : Jvm.Cond} (i : Nat) (h : tables_1[i]? = some d) => hw d (List.mem_of_getElem? h)
  obtain ⟨T1, X1, e1, st1⟩ := getF X0 hx hZ hown (host := "") (Or.inl (wd 18 rfl)) Via.refl e0 F_kq_keys (g := (mkF m 1 #[.val (.ref kq), .val (.int x), .val (.int y)] [(.ref kq)])) rfl rfl (D d27_1)
  obtain ⟨cl2, Ar2, q2, S2, Nn2, H2, -⟩ := id V_aK
  have hin2 : ¬ (x < 0 ∨ cl2.slots.size ≤ (x).toNatClampNeg) := inb_of S2 (own_in2 hx4)
  obtain ⟨_, hat2, v2, rfl⟩ := Arp.get H2 hin2
  have C2 : Elt h0 aK (x).toNatClampNeg (.long v2) := ⟨cl2, Ar2.1, hat2⟩
  obtain ⟨T3, X3, e3, st3⟩ := getF X1 hx hZ hown (host := "") (Or.inl (wd 18 rfl)) Via.refl e1 F_kq_keys (g := (mkF m 7 #[.val (.ref kq), .val (.int x), .val (.int y)] [(.ref kq), (.long v2)])) rfl rfl (D d27_7)
  obtain ⟨cl4, Ar4, q4, S4, Nn4, H4, -⟩ := id V_aK
  have hin4 : ¬ (y < 0 ∨ cl4.slots.size ≤ (y).toNatClampNeg) := inb_of S4 (own_in2 hy4)
  obtain ⟨_, hat4, v4, rfl⟩ := Arp.get H4 hin4
  have C4 : Elt h0 aK (y).toNatClampNeg (.long v4) := ⟨cl4, Ar4.1, hat4⟩
  have cs5 : Steps p.tables e below (s₁.setTop (mkF m 0 #[.val (.ref kq), .val (.int x), .val (.int y)] [])) (T3.setTop (mkF m 13 #[.val (.ref kq), .val (.int x), .val (.int y)] [(.int (lcmpW v2 v4))])) := (by
    refine s_aloadN X0 hx (D d27_0) rfl rfl ?_
    refine st1 _ ?_
    refine s_iloadN X1 hx (D d27_4) rfl ?_
    refine X1.laload hx (j := x) (v := (.long v2)) (by rw [e1]; exact (Ar2).1) (State.isArrayOf_alike hZ.alike (Ar2).2.1) (Ar2).2.2 hin2 hat2 (g := (mkF m 5 #[.val (.ref kq), .val (.int x), .val (.int y)] [(.int x), (.ref aK)])) rfl rfl (D d27_5) _ ?_
    refine s_aloadN X1 hx (D d27_6) rfl rfl ?_
    refine st3 _ ?_
    refine s_iloadN X3 hx (D d27_10) rfl ?_
    refine X3.laload hx (j := y) (v := (.long v4)) (by rw [e3]; exact (Ar4).1) (State.isArrayOf_alike hZ.alike (Ar4).2.1) (Ar4).2.2 hin4 hat4 (g := (mkF m 11 #[.val (.ref kq), .val (.int x), .val (.int y)] [(.int y), (.ref aK), (.long v2)])) rfl rfl (D d27_11) _ ?_
    refine s_lcmp X3 hx (D d27_12) rfl ?_
    exact Steps.refl _)
  by_cases hc6 : (lcmpW v2 v4) = (0 : Int32)
  · have cs7 : Steps p.tables e below (s₁.setTop (mkF m 0 #[.val (.ref kq), .val (.int x), .val (.int y)] [])) (T3.setTop (mkF m 42 #[.val (.ref kq), .val (.int x), .val (.int y)] [(.int y), (.int x)])) := cs5.trans (by
      refine s_ifYes X3 hx 40 (D d27_13) ((if0 _ _).trans (teq hc6).1) (of_decide_eq_true rfl) rfl ?_
      refine s_iloadN X3 hx (D d27_40) rfl ?_
      refine s_iloadN X3 hx (D d27_41) rfl ?_
      exact Steps.refl _)
    by_cases hc8 : x < y
    · obtain ⟨fs, hr, hrun, hended, hW, hsame⟩ := X3.leave (v := some (.int (1 : Int32))) (fun h => by rw [Bd.returns] at h; cases h)
      refine ⟨_, _, pre0 _ ?_, hrun, hended, _, _, rfl, ?_, ⟨_, rfl⟩, hW, hsame.mono (by decide) (by decide)⟩
      · refine cs7.trans ?_
        refine s_icmpNo X3 hx (D d27_42) (tlt hc8).2.1 ?_
        refine s_iconst X3 hx (1 : Int32) (D d27_45) rfl ?_
        refine s_goto X3 hx 50 (D d27_46) (of_decide_eq_true rfl) rfl ?_
        exact retN X3 hx (t := .boolean) Bd.returns (by simp) (D d27_50) hr
      · show Q_rm_lam Z kq x y aK kK h0 n0 _ T3.heap _
        rw [e3]
        exact ⟨(1 : Int32), rfl, N0, (Keep.refl h0 []), (by decide)⟩
    · obtain ⟨fs, hr, hrun, hended, hW, hsame⟩ := X3.leave (v := some (.int (0 : Int32))) (fun h => by rw [Bd.returns] at h; cases h)
      refine ⟨_, _, pre0 _ ?_, hrun, hended, _, _, rfl, ?_, ⟨_, rfl⟩, hW, hsame.mono (by decide) (by decide)⟩
      · refine cs7.trans ?_
        refine s_icmpYes X3 hx 49 (D d27_42) (flt hc8).2.1 (of_decide_eq_true rfl) rfl ?_
        refine s_iconst X3 hx (0 : Int32) (D d27_49) rfl ?_
        exact retN X3 hx (t := .boolean) Bd.returns (by simp) (D d27_50) hr
      · show Q_rm_lam Z kq x y aK kK h0 n0 _ T3.heap _
        rw [e3]
        exact ⟨(0 : Int32), rfl, N0, (Keep.refl h0 []), (by decide)⟩
  · obtain ⟨T9, X9, e9, st9⟩ := getF X3 hx hZ hown (host := "") (Or.inl (wd 18 rfl)) Via.refl e3 F_kq_keys (g := (mkF m 17 #[.val (.ref kq), .val (.int x), .val (.int y)] [(.ref kq)])) rfl rfl (D d27_17)
    obtain ⟨cl10, Ar10, q10, S10, Nn10, H10, -⟩ := id V_aK
    have hin10 : ¬ (x < 0 ∨ cl10.slots.size ≤ (x).toNatClampNeg) := inb_of S10 (own_in2 hx4)
    have hat10 : cl10.slots[(x).toNatClampNeg]? = some (.long v2) := Elt.at C2 Ar10.1
    obtain ⟨T11, X11, e11, st11⟩ := getF X9 hx hZ hown (host := "") (Or.inl (wd 18 rfl)) Via.refl e9 F_kq_keys (g := (mkF m 23 #[.val (.ref kq), .val (.int x), .val (.int y)] [(.ref kq), (.long v2)])) rfl rfl (D d27_23)
    obtain ⟨cl12, Ar12, q12, S12, Nn12, H12, -⟩ := id V_aK
    have hin12 : ¬ (y < 0 ∨ cl12.slots.size ≤ (y).toNatClampNeg) := inb_of S12 (own_in2 hy4)
    have hat12 : cl12.slots[(y).toNatClampNeg]? = some (.long v4) := Elt.at C4 Ar12.1
    have cs13 : Steps p.tables e below (s₁.setTop (mkF m 0 #[.val (.ref kq), .val (.int x), .val (.int y)] [])) (T11.setTop (mkF m 29 #[.val (.ref kq), .val (.int x), .val (.int y)] [(.int (lcmpW v2 v4))])) := cs5.trans (by
      refine s_ifNo X3 hx (D d27_13) ((if0 _ _).trans (feq hc6).1) ?_
      refine s_aloadN X3 hx (D d27_16) rfl rfl ?_
      refine st9 _ ?_
      refine s_iloadN X9 hx (D d27_20) rfl ?_
      refine X9.laload hx (j := x) (v := (.long v2)) (by rw [e9]; exact (Ar10).1) (State.isArrayOf_alike hZ.alike (Ar10).2.1) (Ar10).2.2 hin10 hat10 (g := (mkF m 21 #[.val (.ref kq), .val (.int x), .val (.int y)] [(.int x), (.ref aK)])) rfl rfl (D d27_21) _ ?_
      refine s_aloadN X9 hx (D d27_22) rfl rfl ?_
      refine st11 _ ?_
      refine s_iloadN X11 hx (D d27_26) rfl ?_
      refine X11.laload hx (j := y) (v := (.long v4)) (by rw [e11]; exact (Ar12).1) (State.isArrayOf_alike hZ.alike (Ar12).2.1) (Ar12).2.2 hin12 hat12 (g := (mkF m 27 #[.val (.ref kq), .val (.int x), .val (.int y)] [(.int y), (.ref aK), (.long v2)])) rfl rfl (D d27_27) _ ?_
      refine s_lcmp X11 hx (D d27_28) rfl ?_
      exact Steps.refl _)
    by_cases hc14 : (lcmpW v2 v4) < (0 : Int32)
    · obtain ⟨fs, hr, hrun, hended, hW, hsame⟩ := X11.leave (v := some (.int (1 : Int32))) (fun h => by rw [Bd.returns] at h; cases h)
      refine ⟨_, _, pre0 _ ?_, hrun, hended, _, _, rfl, ?_, ⟨_, rfl⟩, hW, hsame.mono (by decide) (by decide)⟩
      · refine cs13.trans ?_
        refine s_ifNo X11 hx (D d27_29) ((if0 _ _).trans (tlt hc14).2.1) ?_
        refine s_iconst X11 hx (1 : Int32) (D d27_32) rfl ?_
        refine s_goto X11 hx 50 (D d27_33) (of_decide_eq_true rfl) rfl ?_
        exact retN X11 hx (t := .boolean) Bd.returns (by simp) (D d27_50) hr
      · show Q_rm_lam Z kq x y aK kK h0 n0 _ T11.heap _
        rw [e11]
        exact ⟨(1 : Int32), rfl, N0, (Keep.refl h0 []), (by decide)⟩
    · obtain ⟨fs, hr, hrun, hended, hW, hsame⟩ := X11.leave (v := some (.int (0 : Int32))) (fun h => by rw [Bd.returns] at h; cases h)
      refine ⟨_, _, pre0 _ ?_, hrun, hended, _, _, rfl, ?_, ⟨_, rfl⟩, hW, hsame.mono (by decide) (by decide)⟩
      · refine cs13.trans ?_
        refine s_ifYes X11 hx 36 (D d27_29) ((if0 _ _).trans (flt hc14).2.1) (of_decide_eq_true rfl) rfl ?_
        refine s_iconst X11 hx (0 : Int32) (D d27_36) rfl ?_
        refine s_goto X11 hx 50 (D d27_37) (of_decide_eq_true rfl) rfl ?_
        exact retN X11 hx (t := .boolean) Bd.returns (by simp) (D d27_50) hr
      · show Q_rm_lam Z kq x y aK kK h0 n0 _ T11.heap _
        rw [e11]
        exact ⟨(0 : Int32), rfl, N0, (Keep.refl h0 []), (by decide)⟩
theorem d21_0 : decode prog_35_method_8_code 0 = .ok (.aload_n 0, 1) := by decide +kernel
theorem d21_1 : decode prog_35_method_8_code 1 = .ok (.getfield 13, 3) := by decide +kernel
theorem d21_4 : decode prog_35_method_8_code 4 = .ok (.iload_n 1, 1) := by decide +kernel
theorem d21_5 : decode prog_35_method_8_code 5 = .ok (.iaload, 1) := by decide +kernel
theorem d21_6 : decode prog_35_method_8_code 6 = .ok (.istore_n 2, 1) := by decide +kernel
theorem d21_7 : decode prog_35_method_8_code 7 = .ok (.iload_n 1, 1) := by decide +kernel
theorem d21_8 : decode prog_35_method_8_code 8 = .ok (.istore_n 3, 1) := by decide +kernel
theorem d21_9 : decode prog_35_method_8_code 9 = .ok (.iload_n 3, 1) := by decide +kernel
theorem d21_10 : decode prog_35_method_8_code 10 = .ok (.ifCond .le 51, 3) := by decide +kernel
theorem d21_13 : decode prog_35_method_8_code 13 = .ok (.iload_n 3, 1) := by decide +kernel
theorem d21_14 : decode prog_35_method_8_code 14 = .ok (.iconst 1, 1) := by decide +kernel
theorem d21_15 : decode prog_35_method_8_code 15 = .ok (.isub, 1) := by decide +kernel
theorem d21_16 : decode prog_35_method_8_code 16 = .ok (.iconst 2, 1) := by decide +kernel
theorem d21_17 : decode prog_35_method_8_code 17 = .ok (.idiv, 1) := by decide +kernel
theorem d21_18 : decode prog_35_method_8_code 18 = .ok (.istore 4, 2) := by decide +kernel
theorem d21_20 : decode prog_35_method_8_code 20 = .ok (.aload_n 0, 1) := by decide +kernel
theorem d21_21 : decode prog_35_method_8_code 21 = .ok (.getfield 7, 3) := by decide +kernel
theorem d21_24 : decode prog_35_method_8_code 24 = .ok (.iload_n 2, 1) := by decide +kernel
theorem d21_25 : decode prog_35_method_8_code 25 = .ok (.aload_n 0, 1) := by decide +kernel
theorem d21_26 : decode prog_35_method_8_code 26 = .ok (.getfield 13, 3) := by decide +kernel
theorem d21_29 : decode prog_35_method_8_code 29 = .ok (.iload 4, 2) := by decide +kernel
theorem d21_31 : decode prog_35_method_8_code 31 = .ok (.iaload, 1) := by decide +kernel
theorem d21_32 : decode prog_35_method_8_code 32 = .ok (.invokeinterface 56 3, 5) := by decide +kernel
theorem d21_37 : decode prog_35_method_8_code 37 = .ok (.ifCond .ne 6, 3) := by decide +kernel
theorem d21_40 : decode prog_35_method_8_code 40 = .ok (.goto 21, 3) := by decide +kernel
theorem d21_43 : decode prog_35_method_8_code 43 = .ok (.aload_n 0, 1) := by decide +kernel
theorem d21_44 : decode prog_35_method_8_code 44 = .ok (.aload_n 0, 1) := by decide +kernel
theorem d21_45 : decode prog_35_method_8_code 45 = .ok (.getfield 13, 3) := by decide +kernel
theorem d21_48 : decode prog_35_method_8_code 48 = .ok (.iload 4, 2) := by decide +kernel
theorem d21_50 : decode prog_35_method_8_code 50 = .ok (.iaload, 1) := by decide +kernel
theorem d21_51 : decode prog_35_method_8_code 51 = .ok (.iload_n 3, 1) := by decide +kernel
theorem d21_52 : decode prog_35_method_8_code 52 = .ok (.invokevirtual 62, 3) := by decide +kernel
theorem d21_55 : decode prog_35_method_8_code 55 = .ok (.iload 4, 2) := by decide +kernel
theorem d21_57 : decode prog_35_method_8_code 57 = .ok (.istore_n 3, 1) := by decide +kernel
theorem d21_58 : decode prog_35_method_8_code 58 = .ok (.goto (-49), 3) := by decide +kernel
theorem d21_61 : decode prog_35_method_8_code 61 = .ok (.aload_n 0, 1) := by decide +kernel
theorem d21_62 : decode prog_35_method_8_code 62 = .ok (.iload_n 2, 1) := by decide +kernel
theorem d21_63 : decode prog_35_method_8_code 63 = .ok (.iload_n 3, 1) := by decide +kernel
theorem d21_64 : decode prog_35_method_8_code 64 = .ok (.invokevirtual 62, 3) := by decide +kernel
theorem d21_67 : decode prog_35_method_8_code 67 = .ok (.iload_n 3, 1) := by decide +kernel
theorem d21_68 : decode prog_35_method_8_code 68 = .ok (.ireturn, 1) := by decide +kernel
theorem pd_0 : parseMethodDescriptor "(II)Z" = some ⟨[.int, .int], some .boolean⟩ := by decide +kernel
theorem pd_1 : parseMethodDescriptor "(II)V" = some ⟨[.int, .int], none⟩ := by decide +kernel
theorem own_l0_2_k : ∀ L ∈ hAll, L.length = 2 → [(L.getD 0 0), (L.getD 1 0)] ∈ hAll ∧ hPos [(L.getD 0 0), (L.getD 1 0)] 0 = (s2 (L.getD 1 0) 0 (1 : Int32) (hPos L 0)) ∧ hPos [(L.getD 0 0), (L.getD 1 0)] 1 = (s2 (L.getD 1 0) 1 (1 : Int32) (hPos L 1)) ∧ ((s2 (L.getD 1 0) 0 (1 : Int32) (hPos L 0)) = -1 ↔ hPos L 0 = -1) ∧ ((s2 (L.getD 1 0) 1 (1 : Int32) (hPos L 1)) = -1 ↔ hPos L 1 = -1) := by decide +kernel
theorem own_l0_2 {e0 e1 p0 p1 : Int32} (H : HI 2 e0 e1 p0 p1) : HI 2 e0 e1 (s2 e1 0 (1 : Int32) p0) (s2 e1 1 (1 : Int32) p1) ∧ SM p0 p1 (s2 e1 0 (1 : Int32) p0) (s2 e1 1 (1 : Int32) p1) := by
  obtain ⟨L, hL, hn, h0, h1, rfl, rfl⟩ := H
  have hlen : L.length = 2 := own_hl2 L hL hn
  have g0 := h0 (by omega); subst g0
  have g1 := h1 (by omega); subst g1
  obtain ⟨k1, k2, k3, k4⟩ := own_l0_2_k L hL hlen
  refine ⟨⟨[(L.getD 0 0), (L.getD 1 0)], k1, rfl, ?_, ?_, k2.symm, k3.symm⟩, k4⟩
  all_goals (intro hh; first | rfl | (exfalso; revert hh; decide) | (exfalso; simp at hh))
theorem own_l0 {n e0 e1 p0 p1 : Int32} (H : HI n e0 e1 p0 p1) (hl : (1 : Int32) < n) : HI n e0 e1 (s2 e1 0 (1 : Int32) p0) (s2 e1 1 (1 : Int32) p1) ∧ SM p0 p1 (s2 e1 0 (1 : Int32) p0) (s2 e1 1 (1 : Int32) p1) := by
  rcases own_gt_1 H hl with rfl
  · exact own_l0_2 H
theorem nn3 {kq aF aO aW aK aB aA aI hp lo aE aP : Addr} (h : List.Nodup [kq, aF, aO, aW, aK, aB, aA, aI, hp, lo, aE, aP]) : hp ∉ [aE, aP] := own_nin h 8 [10, 11] rfl rfl (by decide)
theorem own_l1_2_k : ∀ L ∈ hAll, L.length = 2 → [(L.getD 1 0), (L.getD 0 0)] ∈ hAll ∧ hPos [(L.getD 1 0), (L.getD 0 0)] 0 = (s2 (L.getD 1 0) 0 (0 : Int32) (s2 (L.getD 0 0) 0 (1 : Int32) (hPos L 0))) ∧ hPos [(L.getD 1 0), (L.getD 0 0)] 1 = (s2 (L.getD 1 0) 1 (0 : Int32) (s2 (L.getD 0 0) 1 (1 : Int32) (hPos L 1))) ∧ ((s2 (L.getD 1 0) 0 (0 : Int32) (s2 (L.getD 0 0) 0 (1 : Int32) (hPos L 0))) = -1 ↔ hPos L 0 = -1) ∧ ((s2 (L.getD 1 0) 1 (0 : Int32) (s2 (L.getD 0 0) 1 (1 : Int32) (hPos L 1))) = -1 ↔ hPos L 1 = -1) := by decide +kernel
theorem own_l1_2 {e0 e1 p0 p1 : Int32} (H : HI 2 e0 e1 p0 p1) : HI 2 e1 e0 (s2 e1 0 (0 : Int32) (s2 e0 0 (1 : Int32) p0)) (s2 e1 1 (0 : Int32) (s2 e0 1 (1 : Int32) p1)) ∧ SM p0 p1 (s2 e1 0 (0 : Int32) (s2 e0 0 (1 : Int32) p0)) (s2 e1 1 (0 : Int32) (s2 e0 1 (1 : Int32) p1)) := by
  obtain ⟨L, hL, hn, h0, h1, rfl, rfl⟩ := H
  have hlen : L.length = 2 := own_hl2 L hL hn
  have g0 := h0 (by omega); subst g0
  have g1 := h1 (by omega); subst g1
  obtain ⟨k1, k2, k3, k4⟩ := own_l1_2_k L hL hlen
  refine ⟨⟨[(L.getD 1 0), (L.getD 0 0)], k1, rfl, ?_, ?_, k2.symm, k3.symm⟩, k4⟩
  all_goals (intro hh; first | rfl | (exfalso; revert hh; decide) | (exfalso; simp at hh))
theorem own_l1 {n e0 e1 p0 p1 : Int32} (H : HI n e0 e1 p0 p1) (hl : (1 : Int32) < n) : HI n e1 e0 (s2 e1 0 (0 : Int32) (s2 e0 0 (1 : Int32) p0)) (s2 e1 1 (0 : Int32) (s2 e0 1 (1 : Int32) p1)) ∧ SM p0 p1 (s2 e1 0 (0 : Int32) (s2 e0 0 (1 : Int32) p0)) (s2 e1 1 (0 : Int32) (s2 e0 1 (1 : Int32) p1)) := by
  rcases own_gt_1 H hl with rfl
  · exact own_l1_2 H
theorem ef_rm_up_1 (m : MethodId) (x0 : Addr) (x1 : Int32) : entryFrame m #[(.ref x0), (.int x1)] 5 = mkF m 0 #[.val (.ref x0), .val (.int x1), .unset, .unset, .unset] [] := by first | (simp [entryFrame, mkF, argsToLocals, Value.category]; done) | rfl
def Q_rm_up_1 (Z : State) (hp : Addr) (pp : Int32) (kq aF aO aW aK aB aA aI lo aE aP : Addr) (cK kK kE kP : ClassId) (sz en0 en1 po0 po1 : Int32) (h0 : Heap) (n0 : Nat) (v : Option Value) (h : Heap) (L : List Loc) : Prop := ∃ (ve0 : Int32) (ve1 : Int32) (vp0 : Int32) (vp1 : Int32) (r_ : Int32), v = some (.int r_) ∧ Fr n0 L ∧ Keep h0 h [aE, aP] ∧ Arv Z h aE kE .int (2 : Int32) [(.int ve0), (.int ve1)] (.int (0 : Int32)) ∧ Arv Z h aP kP .int (2 : Int32) [(.int vp0), (.int vp1)] (.int (-1 : Int32)) ∧ (HI sz ve0 ve1 vp0 vp1 ∧ SM po0 po1 vp0 vp1) ∧ (I2 r_ ∧ r_ < sz)
set_option maxRecDepth 65536 in
set_option maxHeartbeats 40000000 in
theorem rm_up_1 (l : Launch) (Z : State) (a0 : Array Value) (hw : ∀ d ∈ tables_1, d.before a0 Z = true) (ws : List Jvm.Cond) (hp : Addr) (pp : Int32) (kq aF aO aW aK aB aA aI lo aE aP : Addr) (cK kK kE kP : ClassId) (sz en0 en1 po0 po1 : Int32) (h0 : Heap) (n0 : Nat) (O0 : Old Z n0 h0) (E_hp : Exa Z h0 hp cH) (F_hp_order : Fld Z h0 hp cH "order" "Lcom/example/leasewise/leasewise/IndexedHeap$Order;" (.ref lo)) (F_hp_entries : Fld Z h0 hp cH "entries" "[I" (.ref aE)) (F_hp_positions : Fld Z h0 hp cH "positions" "[I" (.ref aP)) (F_hp_size : Fld Z h0 hp cH "size" "I" (.int sz)) (E_kq : Exa Z h0 kq cQ) (F_kq_keys : Fld Z h0 kq cQ "keys" "[J" (.ref aK)) (MDc : Jvm.LamKit.Made Z cQ sgm cK) (V_aE : Arv Z h0 aE kE .int (2 : Int32) [(.int en0), (.int en1)] (.int (0 : Int32))) (V_aP : Arv Z h0 aP kP .int (2 : Int32) [(.int po0), (.int po1)] (.int (-1 : Int32))) (g_aE : n0 ≤ aE) (g_aP : n0 ≤ aP) (NDp : List.Nodup [kq, aF, aO, aW, aK, aB, aA, aI, hp, lo, aE, aP]) (HI0 : HI sz en0 en1 po0 po1) (hpp : pp = (1 : Int32)) (hlt : pp < sz) (V_aK : Arp Z h0 aK kK .long (2 : Int32) PJ) (Y_lo : LamO h0 lo cK kq) :
    MetFree l (⟨cH, "siftUp", "(I)I"⟩ : MethodName) (head1 (Jvm.Cond.code (⟨cH, "siftUp", "(I)I"⟩ : MethodName) prog_35_method_8_code 5 (some .int) :: ws) ({ frames := 2, cells := 0, slots := 0, locals := 28 } : Room)) (fun a U => a = #[(.ref hp), (.int pp)] ∧ Z.WarmedH U.vm ∧ U.heap = h0) (fun _ _ _ _ _ => True) (fun _ U o U' => ∃ v L, o = .returned v ∧ Q_rm_up_1 Z hp pp kq aF aO aW aK aB aA aI lo aE aP cK kK kE kP sz en0 en1 po0 po1 h0 n0 v U'.heap L ∧ FrameEnd U o U' L ({ frames := 2, cells := 0, slots := 0, locals := 28 } : Room).cells ({ frames := 2, cells := 0, slots := 0, locals := 28 } : Room).slots) := by
  refine MetFree.of_bodySF (plainFor_of_name pn_1) hisR ?_
  intro p e s m args below meth c s₁ Bd hml0 hP hK
  obtain ⟨rfl, hZH, hh⟩ := hP
  have hZ := hZH.wide
  have hx := Bd.exec
  have hby := Bd.bytes
  have D := fun {pc : Nat} {r : Except ClassFile.DecodeError (ClassFile.Instr × Nat)} (q : decode prog_35_method_8_code pc = r) => hb (pc := pc) hby q
  have hml : c.maxLocals = 5 := hml0
  have hown : s.vm.findClass cH = some m.cls := findClass_of_methodNamed Bd.named
  have hnm := (name_of_methodNamed Bd.named Bd.method).1
  have X0 : Stand p l e ({ frames := 2, cells := 0, slots := 0, locals := 28 } : Room) s m #[(.ref hp), (.int pp)] below meth c s₁ [] 0 0 := Stand.of_body Bd
  have e0 : s₁.heap = h0 := by rw [← hh, Bd.state]; rfl
  have N0 := Fr.nil n0
  have pre0 : ∀ t, Steps p.tables e below (s₁.setTop (mkF m 0 #[.val (.ref hp), .val (.int pp), .unset, .unset, .unset] [])) t → Steps p.tables e below (s₁.setTop (entryFrame m #[(.ref hp), (.int pp)] 5)) t := fun t k => castTop (ef_rm_up_1 m (hp) (pp)) k
  have wd := fun {d : Jvm.Cond} (i : Nat) (h : tables_1[i]? = some d) => hw d (List.mem_of_getElem? h)
  subst hpp
  obtain ⟨T1, X1, e1, st1⟩ := getF X0 hx hZ hown (host := "") (Or.inl (wd 44 rfl)) Via.refl e0 F_hp_entries (g := (mkF m 1 #[.val (.ref hp), .val (.int (1 : Int32)), .unset, .unset, .unset] [(.ref hp)])) rfl rfl (D d21_1)
  obtain ⟨cl2, Ar2, q2, S2, Nn2, H2, G2⟩ := id V_aE
  have hin2 : ¬ ((1 : Int32) < 0 ∨ cl2.slots.size ≤ ((1 : Int32)).toNatClampNeg) := inb_of S2 ⟨by decide, by decide⟩
  obtain ⟨T3, X3, e3, st3⟩ := getF X1 hx hZ hown (host := "") (Or.inl (wd 42 rfl)) Via.refl e1 F_hp_order (g := (mkF m 21 #[.val (.ref hp), .val (.int (1 : Int32)), .val (.int en1), .val (.int (1 : Int32)), .val (.int (0 : Int32))] [(.ref hp)])) rfl rfl (D d21_21)
  obtain ⟨T4, X4, e4, st4⟩ := getF X3 hx hZ hown (host := "") (Or.inl (wd 44 rfl)) Via.refl e3 F_hp_entries (g := (mkF m 26 #[.val (.ref hp), .val (.int (1 : Int32)), .val (.int en1), .val (.int (1 : Int32)), .val (.int (0 : Int32))] [(.ref hp), (.int en1), (.ref lo)])) rfl rfl (D d21_26)
  obtain ⟨cl5, Ar5, q5, S5, Nn5, H5, G5⟩ := id V_aE
  have hin5 : ¬ ((0 : Int32) < 0 ∨ cl5.slots.size ≤ ((0 : Int32)).toNatClampNeg) := inb_of S5 ⟨by decide, by decide⟩
  obtain ⟨cy6, yc6, yk6, yv6, ys6⟩ := id Y_lo
  obtain ⟨mk6, ck6, U6, sb6, Y6, hb6, hm6, hr6, hZ6, eU6, out6⟩ := own_enter X4 hx hZH (host := cQ) (σ := sgm) (xi := (⟨"com/example/leasewise/leasewise/IndexedHeap$Order", "before", "(II)Z"⟩ : MethodName)) hown (wd 164 rfl) (wd 165 rfl) (mvT hZ (wd 166 rfl)) (by decide +kernel) (by decide) MDc (LamO.fn Y_lo e4) own_fwdok (g := (mkF m 32 #[.val (.ref hp), .val (.int (1 : Int32)), .val (.int en1), .val (.int (1 : Int32)), .val (.int (0 : Int32))] [(.int en0), (.int en1), (.ref lo)])) rfl (by rw [hml]; rfl) (argsL := [(.int en1), (.int en0)]) (rest := []) (L0 := #[.val (.ref lo), .val (.int en1), .val (.int en0)]) (lenOf pd_0 rfl) rfl (D d21_32) (fun _ => by first | rfl | (simp [entryFrame, mkF, argsToLocals, Value.category]; done)) (R' := ({ frames := 1, cells := 0, slots := 0, locals := 14 } : Room)) (by decide) (Nat.le_of_ble_eq_true rfl) (by decide) (by decide)
  obtain ⟨_, ⟨T6, L6, k6, n6⟩, Yx6, ⟨Lc6, hQ6, l6, y6, z6⟩, sx6⟩ := own_fvp Y6 hx hZ6 MDc rfl own_refok (by decide) (wd 169 rfl) (own_selpriv (y := (⟨cQ, "lambda$new$0", "(II)Z"⟩ : MethodName)) (wd 54 rfl) rfl (Cond.privateMethod_at (wd 168 rfl)) (wd 167 rfl) (by decide)) (wd 167 rfl) (own_backH (W := 0) (rm_lam l Z a0 hw [] kq en1 en0 aK kK h0 n0 O0 E_kq F_kq_keys (own_en_1 HI0 hlt) (own_en_0 HI0 (Int32.lt_trans (by decide) hlt)) V_aK) hZ6 (wd 169 rfl) (wd 2 rfl) (by decide) (by decide)) (eU6.trans e4) E_kq (g := mkF ⟨cK, 1⟩ 6 #[.val (.ref lo), .val (.int en1), .val (.int en0)] [(.int en0), (.int en1), .ref kq]) rfl (by rw [hm6]; rfl) (argsL := [(.int en1), (.int en0)]) (rest := []) (lenOf pd_0 rfl) rfl (by show 2 * 0 + _ ≤ _; exact Nat.le_of_eq rfl) (by rw [hb6]; exact own_f6) ⟨rfl, (eU6.trans e4), Nat.le_of_ble_eq_true rfl, Nat.le_of_ble_eq_true rfl⟩
  dsimp only [Pt.U, Pt.locs, Pt.cells, Pt.slots] at Yx6 l6 y6 z6 sx6 hQ6
  subst l6 y6 z6
  obtain ⟨r__6, rfl, N6q, K6, Q6_0⟩ := hQ6
  have O6 := O0.keep K6 all0
  have KK6 : Keep h0 T6.heap [aE, aP] := (Keep.refl h0 [aE, aP]).trans K6 all0
  have sf6 : Steps p.tables e (.java { (mkF m 32 #[.val (.ref hp), .val (.int (1 : Int32)), .val (.int en1), .val (.int (1 : Int32)), .val (.int (0 : Int32))] [(.int en0), (.int en1), (.ref lo)]) with stack := [] } :: below) (U6.setTop (mkF ⟨cK, 1⟩ 0 #[.val (.ref lo), .val (.int en1), .val (.int en0)] [])) (T6.setTop (mkF ⟨cK, 1⟩ 9 #[.val (.ref lo), .val (.int en1), .val (.int en0)] [(.int r__6)])) := by
    refine XS.aloadN Y6.here hx rfl (by rw [hb6]; exact own_f0) rfl rfl ?_
    refine getCap (s := Z) hx Y6.here (State.WarmedH.trans hZ6 Y6.warmed) MDc own_capok (wd 37 rfl) (by rw [(eU6.trans e4)]; exact yc6) yv6 ys6 rfl rfl (by rw [hb6]; exact own_f1) ?_
    refine XS.iloadN Y6.here hx rfl (by rw [hb6]; exact own_f4) rfl ?_
    refine XS.iloadN Y6.here hx rfl (by rw [hb6]; exact own_f5) rfl ?_
    exact sx6 _ (Steps.refl _)
  obtain ⟨Tc6, Xc6, eo6, so6⟩ := out6 T6 _ _ _ (some (.int r__6)) 9 #[.val (.ref lo), .val (.int en1), .val (.int en0)] .ireturn Yx6 (by rw [hb6]; exact own_f9) (Or.inl ⟨.boolean, _, rfl, Or.inr (Or.inl rfl), own_nb01 Q6_0, rfl, rfl⟩) sf6
  have N6 := Fr.app N0 (Fr.app (Fr.nil n0) N6q)
  have cs7 : Steps p.tables e below (s₁.setTop (mkF m 0 #[.val (.ref hp), .val (.int (1 : Int32)), .unset, .unset, .unset] [])) (Tc6.setTop (mkF m 37 #[.val (.ref hp), .val (.int (1 : Int32)), .val (.int en1), .val (.int (1 : Int32)), .val (.int (0 : Int32))] [(.int r__6)])) := (by
    refine s_aloadN X0 hx (D d21_0) rfl rfl ?_
    refine st1 _ ?_
    refine s_iloadN X1 hx (D d21_4) rfl ?_
    refine X1.iaload hx (j := (1 : Int32)) (v := (.int en1)) (by rw [e1]; exact (Ar2).1) (State.isArrayOf_alike hZ.alike (Ar2).2.1) (Ar2).2.2 hin2 (H2.at hin2 rfl) (g := (mkF m 5 #[.val (.ref hp), .val (.int (1 : Int32)), .unset, .unset, .unset] [(.int (1 : Int32)), (.ref aE)])) rfl rfl (D d21_5) _ ?_
    refine s_istoreN X1 hx (D d21_6) (l' := #[.val (.ref hp), .val (.int (1 : Int32)), .val (.int en1), .unset, .unset]) rfl ?_
    refine s_iloadN X1 hx (D d21_7) rfl ?_
    refine s_istoreN X1 hx (D d21_8) (l' := #[.val (.ref hp), .val (.int (1 : Int32)), .val (.int en1), .val (.int (1 : Int32)), .unset]) rfl ?_
    refine s_iloadN X1 hx (D d21_9) rfl ?_
    refine s_ifNo X1 hx (D d21_10) ((if0 _ _).trans (tlt (by decide : (0 : Int32) < (1 : Int32))).2.2.2) ?_
    refine s_iloadN X1 hx (D d21_13) rfl ?_
    refine s_iconst X1 hx (1 : Int32) (D d21_14) rfl ?_
    refine s_isub X1 hx (D d21_15) (r := (0 : Int32)) (by decide) ?_
    refine s_iconst X1 hx (2 : Int32) (D d21_16) rfl ?_
    refine s_idiv X1 hx (D d21_17) (by decide) (r := (0 : Int32)) (by decide) ?_
    refine s_istore X1 hx (D d21_18) (l' := #[.val (.ref hp), .val (.int (1 : Int32)), .val (.int en1), .val (.int (1 : Int32)), .val (.int (0 : Int32))]) rfl ?_
    refine s_aloadN X1 hx (D d21_20) rfl rfl ?_
    refine st3 _ ?_
    refine s_iloadN X3 hx (D d21_24) rfl ?_
    refine s_aloadN X3 hx (D d21_25) rfl rfl ?_
    refine st4 _ ?_
    refine s_iload X4 hx (D d21_29) rfl ?_
    refine X4.iaload hx (j := (0 : Int32)) (v := (.int en0)) (by rw [e4]; exact (Ar5).1) (State.isArrayOf_alike hZ.alike (Ar5).2.1) (Ar5).2.2 hin5 (H5.at hin5 rfl) (g := (mkF m 31 #[.val (.ref hp), .val (.int (1 : Int32)), .val (.int en1), .val (.int (1 : Int32)), .val (.int (0 : Int32))] [(.int (0 : Int32)), (.ref aE), (.int en1), (.ref lo)])) rfl rfl (D d21_31) _ ?_
    refine so6 _ ?_
    exact Steps.refl _)
  by_cases hc8 : r__6 = (0 : Int32)
  · have f9 := (E_hp.keep K6)
    have f10 := (F_hp_order.keep K6 nin0)
    have f11 := (F_hp_entries.keep K6 nin0)
    have f12 := (F_hp_positions.keep K6 nin0)
    have f13 := (V_aE.keep K6 nin0)
    have f14 := (V_aP.keep K6 nin0)
    obtain ⟨cq15, q15, q15'⟩ := f9.cell
    obtain ⟨_, _, ⟨T15, L15, k15, n15⟩, -, X15, ⟨Lc15, hQ15, l15, y15, z15⟩, st15⟩ := Xc6.privateBack hx (y := (⟨cH, "place", "(II)V"⟩ : MethodName)) hown (mvT hZ (wd 141 rfl)) (mvT hZ (wd 142 rfl)) (own_selpriv (y := (⟨cH, "place", "(II)V"⟩ : MethodName)) (mvT hZ (wd 61 rfl)) rfl (Cond.privateMethod_at (mvP hZ (wd 143 rfl) (args := #[]))) (mvT hZ (wd 142 rfl)) (by decide)) (Cond.privateMethod_at (mvP hZ (wd 143 rfl) (args := #[]))) (mvT hZ (wd 144 rfl)) (by decide) (own_backH (W := 0) (rm_place_1 l Z a0 hw [] hp en1 kq aF aO aW aK aB aA aI lo aE aP kE kP en0 en1 po0 po1 T6.heap n0 O6 f9 f10 f11 f12 f13 f14 g_aE g_aP NDp (own_en_1 HI0 hlt)) hZH (wd 144 rfl) (wd 33 rfl) (by decide) (by decide)) (g := (mkF m 64 #[.val (.ref hp), .val (.int (1 : Int32)), .val (.int en1), .val (.int (1 : Int32)), .val (.int (0 : Int32))] [(.int (1 : Int32)), (.int en1), (.ref hp)])) rfl (by rw [hml]; rfl) (Steps.refl _) (a := hp) (by rw [eo6]; exact q15) q15' (argsL := [(.int en1), (.int (1 : Int32))]) (rest := []) (lenOf pd_1 rfl) rfl (by show 2 * 0 + _ ≤ _; exact Nat.le_of_eq rfl) (D d21_64) (fun _ _ => ⟨rfl, eo6, (by decide : 0 + 0 ≤ _), (by decide : 0 + 0 ≤ _)⟩)
    dsimp only [Pt.U, Pt.locs, Pt.cells, Pt.slots] at X15 l15 y15 z15 st15 hQ15
    subst l15 y15 z15
    obtain ⟨rfl, N15q, K15, Q15_0, Q15_1⟩ := hQ15
    have O15 := O6.keep K15 (allS g_aE (allS g_aP all0))
    have KK15 : Keep h0 T15.heap [aE, aP] := KK6.trans K15 (allS (own_mem 0 rfl) (allS (own_mem 1 rfl) all0))
    have N15 := Fr.app N6 N15q
    obtain ⟨fs, hr, hrun, hended, hW, hsame⟩ := X15.leave (v := some (.int (1 : Int32))) (fun h => by rw [Bd.returns] at h; cases h)
    refine ⟨_, _, pre0 _ ?_, hrun, hended, _, _, rfl, ?_, ⟨_, rfl⟩, hW, hsame.mono (by decide) (by decide)⟩
    · refine cs7.trans ?_
      refine s_ifNo Xc6 hx (D d21_37) ((if0 _ _).trans (teq hc8).2) ?_
      refine s_goto Xc6 hx 61 (D d21_40) (of_decide_eq_true rfl) rfl ?_
      refine s_aloadN Xc6 hx (D d21_61) rfl rfl ?_
      refine s_iloadN Xc6 hx (D d21_62) rfl ?_
      refine s_iloadN Xc6 hx (D d21_63) rfl ?_
      refine st15.trans ?_
      refine s_iloadN X15 hx (D d21_67) rfl ?_
      exact retI X15 hx Bd.returns (D d21_68) hr
    · show Q_rm_up_1 Z hp (1 : Int32) kq aF aO aW aK aB aA aI lo aE aP cK kK kE kP sz en0 en1 po0 po1 h0 n0 _ T15.heap _
      exact ⟨en0, en1, (s2 en1 0 (1 : Int32) po0), (s2 en1 1 (1 : Int32) po1), (1 : Int32), rfl, N15, KK15, Q15_0, Q15_1, (own_l0 HI0 hlt), ⟨own_i1, hlt⟩⟩
  · have f16 := (F_hp_entries.keep K6 nin0)
    obtain ⟨T17, X17, e17, st17⟩ := getF Xc6 hx hZ hown (host := "") (Or.inl (wd 44 rfl)) Via.refl eo6 f16 (g := (mkF m 45 #[.val (.ref hp), .val (.int (1 : Int32)), .val (.int en1), .val (.int (1 : Int32)), .val (.int (0 : Int32))] [(.ref hp), (.ref hp)])) rfl rfl (D d21_45)
    have f19 := (V_aE.keep K6 nin0)
    obtain ⟨cl18, Ar18, q18, S18, Nn18, H18, G18⟩ := id f19
    have hin18 : ¬ ((0 : Int32) < 0 ∨ cl18.slots.size ≤ ((0 : Int32)).toNatClampNeg) := inb_of S18 ⟨by decide, by decide⟩
    have f20 := (E_hp.keep K6)
    have f21 := (F_hp_order.keep K6 nin0)
    have f22 := (F_hp_positions.keep K6 nin0)
    have f23 := (V_aP.keep K6 nin0)
    obtain ⟨cq24, q24, q24'⟩ := f20.cell
    obtain ⟨_, _, ⟨T24, L24, k24, n24⟩, -, X24, ⟨Lc24, hQ24, l24, y24, z24⟩, st24⟩ := X17.privateBack hx (y := (⟨cH, "place", "(II)V"⟩ : MethodName)) hown (mvT hZ (wd 141 rfl)) (mvT hZ (wd 142 rfl)) (own_selpriv (y := (⟨cH, "place", "(II)V"⟩ : MethodName)) (mvT hZ (wd 61 rfl)) rfl (Cond.privateMethod_at (mvP hZ (wd 143 rfl) (args := #[]))) (mvT hZ (wd 142 rfl)) (by decide)) (Cond.privateMethod_at (mvP hZ (wd 143 rfl) (args := #[]))) (mvT hZ (wd 144 rfl)) (by decide) (own_backH (W := 0) (rm_place_1 l Z a0 hw [] hp en0 kq aF aO aW aK aB aA aI lo aE aP kE kP en0 en1 po0 po1 T6.heap n0 O6 f20 f21 f16 f22 f19 f23 g_aE g_aP NDp (own_en_0 HI0 (Int32.lt_trans (by decide) hlt))) hZH (wd 144 rfl) (wd 33 rfl) (by decide) (by decide)) (g := (mkF m 52 #[.val (.ref hp), .val (.int (1 : Int32)), .val (.int en1), .val (.int (1 : Int32)), .val (.int (0 : Int32))] [(.int (1 : Int32)), (.int en0), (.ref hp)])) rfl (by rw [hml]; rfl) (Steps.refl _) (a := hp) (by rw [e17]; exact q24) q24' (argsL := [(.int en0), (.int (1 : Int32))]) (rest := []) (lenOf pd_1 rfl) rfl (by show 2 * 0 + _ ≤ _; exact Nat.le_of_eq rfl) (D d21_52) (fun _ _ => ⟨rfl, e17, (by decide : 0 + 0 ≤ _), (by decide : 0 + 0 ≤ _)⟩)
    dsimp only [Pt.U, Pt.locs, Pt.cells, Pt.slots] at X24 l24 y24 z24 st24 hQ24
    subst l24 y24 z24
    obtain ⟨rfl, N24q, K24, Q24_0, Q24_1⟩ := hQ24
    have O24 := O6.keep K24 (allS g_aE (allS g_aP all0))
    have KK24 : Keep h0 T24.heap [aE, aP] := KK6.trans K24 (allS (own_mem 0 rfl) (allS (own_mem 1 rfl) all0))
    have N24 := Fr.app N6 N24q
    have f25 := (f20.keep K24)
    have f26 := (f21.keep K24 (nn3 NDp))
    have f27 := (f16.keep K24 (nn3 NDp))
    have f28 := (f22.keep K24 (nn3 NDp))
    obtain ⟨cq29, q29, q29'⟩ := f25.cell
    obtain ⟨_, _, ⟨T29, L29, k29, n29⟩, -, X29, ⟨Lc29, hQ29, l29, y29, z29⟩, st29⟩ := X24.privateBack hx (y := (⟨cH, "place", "(II)V"⟩ : MethodName)) hown (mvT hZ (wd 141 rfl)) (mvT hZ (wd 142 rfl)) (own_selpriv (y := (⟨cH, "place", "(II)V"⟩ : MethodName)) (mvT hZ (wd 61 rfl)) rfl (Cond.privateMethod_at (mvP hZ (wd 143 rfl) (args := #[]))) (mvT hZ (wd 142 rfl)) (by decide)) (Cond.privateMethod_at (mvP hZ (wd 143 rfl) (args := #[]))) (mvT hZ (wd 144 rfl)) (by decide) (own_backH (W := 0) (rm_place_0 l Z a0 hw [] hp en1 kq aF aO aW aK aB aA aI lo aE aP kE kP en0 en0 (s2 en0 0 (1 : Int32) po0) (s2 en0 1 (1 : Int32) po1) T24.heap n0 O24 f25 f26 f27 f28 Q24_0 Q24_1 g_aE g_aP NDp (own_en_1 HI0 hlt)) hZH (wd 144 rfl) (wd 33 rfl) (by decide) (by decide)) (g := (mkF m 64 #[.val (.ref hp), .val (.int (1 : Int32)), .val (.int en1), .val (.int (0 : Int32)), .val (.int (0 : Int32))] [(.int (0 : Int32)), (.int en1), (.ref hp)])) rfl (by rw [hml]; rfl) (Steps.refl _) (a := hp) (by exact q29) q29' (argsL := [(.int en1), (.int (0 : Int32))]) (rest := []) (lenOf pd_1 rfl) rfl (by show 2 * 0 + _ ≤ _; exact Nat.le_of_eq rfl) (D d21_64) (fun _ _ => ⟨rfl, rfl, (by decide : 0 + 0 ≤ _), (by decide : 0 + 0 ≤ _)⟩)
    dsimp only [Pt.U, Pt.locs, Pt.cells, Pt.slots] at X29 l29 y29 z29 st29 hQ29
    subst l29 y29 z29
    obtain ⟨rfl, N29q, K29, Q29_0, Q29_1⟩ := hQ29
    have O29 := O24.keep K29 (allS g_aE (allS g_aP all0))
    have KK29 : Keep h0 T29.heap [aE, aP] := KK24.trans K29 (allS (own_mem 0 rfl) (allS (own_mem 1 rfl) all0))
    have N29 := Fr.app N24 N29q
    obtain ⟨fs, hr, hrun, hended, hW, hsame⟩ := X29.leave (v := some (.int (0 : Int32))) (fun h => by rw [Bd.returns] at h; cases h)
    refine ⟨_, _, pre0 _ ?_, hrun, hended, _, _, rfl, ?_, ⟨_, rfl⟩, hW, hsame.mono (by decide) (by decide)⟩
    · refine cs7.trans ?_
      refine s_ifYes Xc6 hx 43 (D d21_37) ((if0 _ _).trans (feq hc8).2) (of_decide_eq_true rfl) rfl ?_
      refine s_aloadN Xc6 hx (D d21_43) rfl rfl ?_
      refine s_aloadN Xc6 hx (D d21_44) rfl rfl ?_
      refine st17 _ ?_
      refine s_iload X17 hx (D d21_48) rfl ?_
      refine X17.iaload hx (j := (0 : Int32)) (v := (.int en0)) (by rw [e17]; exact (Ar18).1) (State.isArrayOf_alike hZ.alike (Ar18).2.1) (Ar18).2.2 hin18 (H18.at hin18 rfl) (g := (mkF m 50 #[.val (.ref hp), .val (.int (1 : Int32)), .val (.int en1), .val (.int (1 : Int32)), .val (.int (0 : Int32))] [(.int (0 : Int32)), (.ref aE), (.ref hp)])) rfl rfl (D d21_50) _ ?_
      refine s_iloadN X17 hx (D d21_51) rfl ?_
      refine st24.trans ?_
      refine s_iload X24 hx (D d21_55) rfl ?_
      refine s_istoreN X24 hx (D d21_57) (l' := #[.val (.ref hp), .val (.int (1 : Int32)), .val (.int en1), .val (.int (0 : Int32)), .val (.int (0 : Int32))]) rfl ?_
      refine s_goto X24 hx 9 (D d21_58) (of_decide_eq_true rfl) rfl ?_
      refine s_iloadN X24 hx (D d21_9) rfl ?_
      refine s_ifYes X24 hx 61 (D d21_10) ((if0 _ _).trans (flt (by decide : ¬ ((0 : Int32) < (0 : Int32)))).2.2.2) (of_decide_eq_true rfl) rfl ?_
      refine s_aloadN X24 hx (D d21_61) rfl rfl ?_
      refine s_iloadN X24 hx (D d21_62) rfl ?_
      refine s_iloadN X24 hx (D d21_63) rfl ?_
      refine st29.trans ?_
      refine s_iloadN X29 hx (D d21_67) rfl ?_
      exact retI X29 hx Bd.returns (D d21_68) hr
    · show Q_rm_up_1 Z hp (1 : Int32) kq aF aO aW aK aB aA aI lo aE aP cK kK kE kP sz en0 en1 po0 po1 h0 n0 _ T29.heap _
      exact ⟨en1, en0, (s2 en1 0 (0 : Int32) (s2 en0 0 (1 : Int32) po0)), (s2 en1 1 (0 : Int32) (s2 en0 1 (1 : Int32) po1)), (0 : Int32), rfl, N29, KK29, Q29_0, Q29_1, (own_l1 HI0 hlt), ⟨own_i0, (Int32.lt_trans (by decide) hlt)⟩⟩
theorem own_l2_1_k : ∀ L ∈ hAll, L.length = 1 → [(L.getD 0 0)] ∈ hAll ∧ hPos [(L.getD 0 0)] 0 = (s2 (L.getD 0 0) 0 (0 : Int32) (hPos L 0)) ∧ hPos [(L.getD 0 0)] 1 = (s2 (L.getD 0 0) 1 (0 : Int32) (hPos L 1)) ∧ ((s2 (L.getD 0 0) 0 (0 : Int32) (hPos L 0)) = -1 ↔ hPos L 0 = -1) ∧ ((s2 (L.getD 0 0) 1 (0 : Int32) (hPos L 1)) = -1 ↔ hPos L 1 = -1) := by decide +kernel
theorem own_l2_1 {e0 e1 p0 p1 : Int32} (H : HI 1 e0 e1 p0 p1) : HI 1 e0 e1 (s2 e0 0 (0 : Int32) p0) (s2 e0 1 (0 : Int32) p1) ∧ SM p0 p1 (s2 e0 0 (0 : Int32) p0) (s2 e0 1 (0 : Int32) p1) := by
  obtain ⟨L, hL, hn, h0, h1, rfl, rfl⟩ := H
  have hlen : L.length = 1 := own_hl1 L hL hn
  have g0 := h0 (by omega); subst g0
  obtain ⟨k1, k2, k3, k4⟩ := own_l2_1_k L hL hlen
  refine ⟨⟨[(L.getD 0 0)], k1, rfl, ?_, ?_, k2.symm, k3.symm⟩, k4⟩
  all_goals (intro hh; first | rfl | (exfalso; revert hh; decide) | (exfalso; simp at hh))
theorem own_l2_2_k : ∀ L ∈ hAll, L.length = 2 → [(L.getD 0 0), (L.getD 1 0)] ∈ hAll ∧ hPos [(L.getD 0 0), (L.getD 1 0)] 0 = (s2 (L.getD 0 0) 0 (0 : Int32) (hPos L 0)) ∧ hPos [(L.getD 0 0), (L.getD 1 0)] 1 = (s2 (L.getD 0 0) 1 (0 : Int32) (hPos L 1)) ∧ ((s2 (L.getD 0 0) 0 (0 : Int32) (hPos L 0)) = -1 ↔ hPos L 0 = -1) ∧ ((s2 (L.getD 0 0) 1 (0 : Int32) (hPos L 1)) = -1 ↔ hPos L 1 = -1) := by decide +kernel
theorem own_l2_2 {e0 e1 p0 p1 : Int32} (H : HI 2 e0 e1 p0 p1) : HI 2 e0 e1 (s2 e0 0 (0 : Int32) p0) (s2 e0 1 (0 : Int32) p1) ∧ SM p0 p1 (s2 e0 0 (0 : Int32) p0) (s2 e0 1 (0 : Int32) p1) := by
  obtain ⟨L, hL, hn, h0, h1, rfl, rfl⟩ := H
  have hlen : L.length = 2 := own_hl2 L hL hn
  have g0 := h0 (by omega); subst g0
  have g1 := h1 (by omega); subst g1
  obtain ⟨k1, k2, k3, k4⟩ := own_l2_2_k L hL hlen
  refine ⟨⟨[(L.getD 0 0), (L.getD 1 0)], k1, rfl, ?_, ?_, k2.symm, k3.symm⟩, k4⟩
  all_goals (intro hh; first | rfl | (exfalso; revert hh; decide) | (exfalso; simp at hh))
theorem own_l2 {n e0 e1 p0 p1 : Int32} (H : HI n e0 e1 p0 p1) (hl : (0 : Int32) < n) : HI n e0 e1 (s2 e0 0 (0 : Int32) p0) (s2 e0 1 (0 : Int32) p1) ∧ SM p0 p1 (s2 e0 0 (0 : Int32) p0) (s2 e0 1 (0 : Int32) p1) := by
  rcases own_gt_0 H hl with rfl | rfl
  · exact own_l2_1 H
  · exact own_l2_2 H
theorem ef_rm_up_0 (m : MethodId) (x0 : Addr) (x1 : Int32) : entryFrame m #[(.ref x0), (.int x1)] 5 = mkF m 0 #[.val (.ref x0), .val (.int x1), .unset, .unset, .unset] [] := by first | (simp [entryFrame, mkF, argsToLocals, Value.category]; done) | rfl
set_option maxRecDepth 65536 in
set_option maxHeartbeats 40000000 in
theorem rm_up_0 (l : Launch) (Z : State) (a0 : Array Value) (hw : ∀ d ∈ tables_1, d.before a0 Z = true) (ws : List Jvm.Cond) (hp : Addr) (pp : Int32) (kq aF aO aW aK aB aA aI lo aE aP : Addr) (cK kK kE kP : ClassId) (sz en0 en1 po0 po1 : Int32) (h0 : Heap) (n0 : Nat) (O0 : Old Z n0 h0) (E_hp : Exa Z h0 hp cH) (F_hp_order : Fld Z h0 hp cH "order" "Lcom/example/leasewise/leasewise/IndexedHeap$Order;" (.ref lo)) (F_hp_entries : Fld Z h0 hp cH "entries" "[I" (.ref aE)) (F_hp_positions : Fld Z h0 hp cH "positions" "[I" (.ref aP)) (F_hp_size : Fld Z h0 hp cH "size" "I" (.int sz)) (E_kq : Exa Z h0 kq cQ) (F_kq_keys : Fld Z h0 kq cQ "keys" "[J" (.ref aK)) (MDc : Jvm.LamKit.Made Z cQ sgm cK) (V_aE : Arv Z h0 aE kE .int (2 : Int32) [(.int en0), (.int en1)] (.int (0 : Int32))) (V_aP : Arv Z h0 aP kP .int (2 : Int32) [(.int po0), (.int po1)] (.int (-1 : Int32))) (g_aE : n0 ≤ aE) (g_aP : n0 ≤ aP) (NDp : List.Nodup [kq, aF, aO, aW, aK, aB, aA, aI, hp, lo, aE, aP]) (HI0 : HI sz en0 en1 po0 po1) (hpp : pp = (0 : Int32)) (hlt : pp < sz) (V_aK : Arp Z h0 aK kK .long (2 : Int32) PJ) (Y_lo : LamO h0 lo cK kq) :
    MetFree l (⟨cH, "siftUp", "(I)I"⟩ : MethodName) (head1 (Jvm.Cond.code (⟨cH, "siftUp", "(I)I"⟩ : MethodName) prog_35_method_8_code 5 (some .int) :: ws) ({ frames := 2, cells := 0, slots := 0, locals := 28 } : Room)) (fun a U => a = #[(.ref hp), (.int pp)] ∧ Z.WarmedH U.vm ∧ U.heap = h0) (fun _ _ _ _ _ => True) (fun _ U o U' => ∃ v L, o = .returned v ∧ Q_rm_up_1 Z hp pp kq aF aO aW aK aB aA aI lo aE aP cK kK kE kP sz en0 en1 po0 po1 h0 n0 v U'.heap L ∧ FrameEnd U o U' L ({ frames := 2, cells := 0, slots := 0, locals := 28 } : Room).cells ({ frames := 2, cells := 0, slots := 0, locals := 28 } : Room).slots) := by
  refine MetFree.of_bodySF (plainFor_of_name pn_1) hisR ?_
  intro p e s m args below meth c s₁ Bd hml0 hP hK
  obtain ⟨rfl, hZH, hh⟩ := hP
  have hZ := hZH.wide
  have hx := Bd.exec
  have hby := Bd.bytes
  have D := fun {pc : Nat} {r : Except ClassFile.DecodeError (ClassFile.Instr × Nat)} (q : decode prog_35_method_8_code pc = r) => hb (pc := pc) hby q
  have hml : c.maxLocals = 5 := hml0
  have hown : s.vm.findClass cH = some m.cls := findClass_of_methodNamed Bd.named
  have hnm := (name_of_methodNamed Bd.named Bd.method).1
  have X0 : Stand p l e ({ frames := 2, cells := 0, slots := 0, locals := 28 } : Room) s m #[(.ref hp), (.int pp)] below meth c s₁ [] 0 0 := Stand.of_body Bd
  have e0 : s₁.heap = h0 := by rw [← hh, Bd.state]; rfl
  have N0 := Fr.nil n0
  have pre0 : ∀ t, Steps p.tables e below (s₁.setTop (mkF m 0 #[.val (.ref hp), .val (.int pp), .unset, .unset, .unset] [])) t → Steps p.tables e below (s₁.setTop (entryFrame m #[(.ref hp), (.int pp)] 5)) t := fun t k => castTop (ef_rm_up_0 m (hp) (pp)) k
  have wd := fun {d : Jvm.Cond} (i : Nat) (h : tables_1[i]? = some d) => hw d (List.mem_of_getElem? h)
  subst hpp
  obtain ⟨T1, X1, e1, st1⟩ := getF X0 hx hZ hown (host := "") (Or.inl (wd 44 rfl)) Via.refl e0 F_hp_entries (g := (mkF m 1 #[.val (.ref hp), .val (.int (0 : Int32)), .unset, .unset, .unset] [(.ref hp)])) rfl rfl (D d21_1)
  obtain ⟨cl2, Ar2, q2, S2, Nn2, H2, G2⟩ := id V_aE
  have hin2 : ¬ ((0 : Int32) < 0 ∨ cl2.slots.size ≤ ((0 : Int32)).toNatClampNeg) := inb_of S2 ⟨by decide, by decide⟩
  obtain ⟨cq3, q3, q3'⟩ := E_hp.cell
  obtain ⟨_, _, ⟨T3, L3, k3, n3⟩, -, X3, ⟨Lc3, hQ3, l3, y3, z3⟩, st3⟩ := X1.privateBack hx (y := (⟨cH, "place", "(II)V"⟩ : MethodName)) hown (mvT hZ (wd 141 rfl)) (mvT hZ (wd 142 rfl)) (own_selpriv (y := (⟨cH, "place", "(II)V"⟩ : MethodName)) (mvT hZ (wd 61 rfl)) rfl (Cond.privateMethod_at (mvP hZ (wd 143 rfl) (args := #[]))) (mvT hZ (wd 142 rfl)) (by decide)) (Cond.privateMethod_at (mvP hZ (wd 143 rfl) (args := #[]))) (mvT hZ (wd 144 rfl)) (by decide) (own_backH (W := 0) (rm_place_0 l Z a0 hw [] hp en0 kq aF aO aW aK aB aA aI lo aE aP kE kP en0 en1 po0 po1 h0 n0 O0 E_hp F_hp_order F_hp_entries F_hp_positions V_aE V_aP g_aE g_aP NDp (own_en_0 HI0 hlt)) hZH (wd 144 rfl) (wd 33 rfl) (by decide) (by decide)) (g := (mkF m 64 #[.val (.ref hp), .val (.int (0 : Int32)), .val (.int en0), .val (.int (0 : Int32)), .unset] [(.int (0 : Int32)), (.int en0), (.ref hp)])) rfl (by rw [hml]; rfl) (Steps.refl _) (a := hp) (by rw [e1]; exact q3) q3' (argsL := [(.int en0), (.int (0 : Int32))]) (rest := []) (lenOf pd_1 rfl) rfl (by show 2 * 0 + _ ≤ _; exact Nat.le_of_eq rfl) (D d21_64) (fun _ _ => ⟨rfl, e1, (by decide : 0 + 0 ≤ _), (by decide : 0 + 0 ≤ _)⟩)
  dsimp only [Pt.U, Pt.locs, Pt.cells, Pt.slots] at X3 l3 y3 z3 st3 hQ3
  subst l3 y3 z3
  obtain ⟨rfl, N3q, K3, Q3_0, Q3_1⟩ := hQ3
  have O3 := O0.keep K3 (allS g_aE (allS g_aP all0))
  have KK3 : Keep h0 T3.heap [aE, aP] := (Keep.refl h0 [aE, aP]).trans K3 (allS (own_mem 0 rfl) (allS (own_mem 1 rfl) all0))
  have N3 := Fr.app N0 N3q
  obtain ⟨fs, hr, hrun, hended, hW, hsame⟩ := X3.leave (v := some (.int (0 : Int32))) (fun h => by rw [Bd.returns] at h; cases h)
  refine ⟨_, _, pre0 _ ?_, hrun, hended, _, _, rfl, ?_, ⟨_, rfl⟩, hW, hsame.mono (by decide) (by decide)⟩
  · refine s_aloadN X0 hx (D d21_0) rfl rfl ?_
    refine st1 _ ?_
    refine s_iloadN X1 hx (D d21_4) rfl ?_
    refine X1.iaload hx (j := (0 : Int32)) (v := (.int en0)) (by rw [e1]; exact (Ar2).1) (State.isArrayOf_alike hZ.alike (Ar2).2.1) (Ar2).2.2 hin2 (H2.at hin2 rfl) (g := (mkF m 5 #[.val (.ref hp), .val (.int (0 : Int32)), .unset, .unset, .unset] [(.int (0 : Int32)), (.ref aE)])) rfl rfl (D d21_5) _ ?_
    refine s_istoreN X1 hx (D d21_6) (l' := #[.val (.ref hp), .val (.int (0 : Int32)), .val (.int en0), .unset, .unset]) rfl ?_
    refine s_iloadN X1 hx (D d21_7) rfl ?_
    refine s_istoreN X1 hx (D d21_8) (l' := #[.val (.ref hp), .val (.int (0 : Int32)), .val (.int en0), .val (.int (0 : Int32)), .unset]) rfl ?_
    refine s_iloadN X1 hx (D d21_9) rfl ?_
    refine s_ifYes X1 hx 61 (D d21_10) ((if0 _ _).trans (flt (by decide : ¬ ((0 : Int32) < (0 : Int32)))).2.2.2) (of_decide_eq_true rfl) rfl ?_
    refine s_aloadN X1 hx (D d21_61) rfl rfl ?_
    refine s_iloadN X1 hx (D d21_62) rfl ?_
    refine s_iloadN X1 hx (D d21_63) rfl ?_
    refine st3.trans ?_
    refine s_iloadN X3 hx (D d21_67) rfl ?_
    exact retI X3 hx Bd.returns (D d21_68) hr
  · show Q_rm_up_1 Z hp (0 : Int32) kq aF aO aW aK aB aA aI lo aE aP cK kK kE kP sz en0 en1 po0 po1 h0 n0 _ T3.heap _
    exact ⟨en0, en1, (s2 en0 0 (0 : Int32) po0), (s2 en0 1 (0 : Int32) po1), (0 : Int32), rfl, N3, KK3, Q3_0, Q3_1, (own_l2 HI0 hlt), ⟨own_i0, hlt⟩⟩
theorem rm_up (l : Launch) (Z : State) (a0 : Array Value) (hw : ∀ d ∈ tables_1, d.before a0 Z = true) (ws : List Jvm.Cond) (hp : Addr) (pp : Int32) (kq aF aO aW aK aB aA aI lo aE aP : Addr) (cK kK kE kP : ClassId) (sz en0 en1 po0 po1 : Int32) (h0 : Heap) (n0 : Nat) (O0 : Old Z n0 h0) (E_hp : Exa Z h0 hp cH) (F_hp_order : Fld Z h0 hp cH "order" "Lcom/example/leasewise/leasewise/IndexedHeap$Order;" (.ref lo)) (F_hp_entries : Fld Z h0 hp cH "entries" "[I" (.ref aE)) (F_hp_positions : Fld Z h0 hp cH "positions" "[I" (.ref aP)) (F_hp_size : Fld Z h0 hp cH "size" "I" (.int sz)) (E_kq : Exa Z h0 kq cQ) (F_kq_keys : Fld Z h0 kq cQ "keys" "[J" (.ref aK)) (MDc : Jvm.LamKit.Made Z cQ sgm cK) (V_aE : Arv Z h0 aE kE .int (2 : Int32) [(.int en0), (.int en1)] (.int (0 : Int32))) (V_aP : Arv Z h0 aP kP .int (2 : Int32) [(.int po0), (.int po1)] (.int (-1 : Int32))) (g_aE : n0 ≤ aE) (g_aP : n0 ≤ aP) (NDp : List.Nodup [kq, aF, aO, aW, aK, aB, aA, aI, hp, lo, aE, aP]) (HI0 : HI sz en0 en1 po0 po1) (hpp : I2 pp) (hlt : pp < sz) (V_aK : Arp Z h0 aK kK .long (2 : Int32) PJ) (Y_lo : LamO h0 lo cK kq) :
    MetFree l (⟨cH, "siftUp", "(I)I"⟩ : MethodName) (head1 (Jvm.Cond.code (⟨cH, "siftUp", "(I)I"⟩ : MethodName) prog_35_method_8_code 5 (some .int) :: ws) ({ frames := 2, cells := 0, slots := 0, locals := 28 } : Room)) (fun a U => a = #[(.ref hp), (.int pp)] ∧ Z.WarmedH U.vm ∧ U.heap = h0) (fun _ _ _ _ _ => True) (fun _ U o U' => ∃ v L, o = .returned v ∧ Q_rm_up_1 Z hp pp kq aF aO aW aK aB aA aI lo aE aP cK kK kE kP sz en0 en1 po0 po1 h0 n0 v U'.heap L ∧ FrameEnd U o U' L ({ frames := 2, cells := 0, slots := 0, locals := 28 } : Room).cells ({ frames := 2, cells := 0, slots := 0, locals := 28 } : Room).slots) := by
  rcases hpp with rfl | rfl
  · exact rm_up_0 l Z a0 hw ws hp (0 : Int32) kq aF aO aW aK aB aA aI lo aE aP cK kK kE kP sz en0 en1 po0 po1 h0 n0 O0 E_hp F_hp_order F_hp_entries F_hp_positions F_hp_size E_kq F_kq_keys MDc V_aE V_aP g_aE g_aP NDp HI0 rfl hlt V_aK Y_lo
  · exact rm_up_1 l Z a0 hw ws hp (1 : Int32) kq aF aO aW aK aB aA aI lo aE aP cK kK kE kP sz en0 en1 po0 po1 h0 n0 O0 E_hp F_hp_order F_hp_entries F_hp_positions F_hp_size E_kq F_kq_keys MDc V_aE V_aP g_aE g_aP NDp HI0 rfl hlt V_aK Y_lo
theorem d28_0 : decode prog_35_method_9_code 0 = .ok (.aload_n 0, 1) := by decide +kernel
theorem d28_1 : decode prog_35_method_9_code 1 = .ok (.getfield 13, 3) := by decide +kernel
theorem d28_4 : decode prog_35_method_9_code 4 = .ok (.iload_n 1, 1) := by decide +kernel
theorem d28_5 : decode prog_35_method_9_code 5 = .ok (.iaload, 1) := by decide +kernel
theorem d28_6 : decode prog_35_method_9_code 6 = .ok (.istore_n 2, 1) := by decide +kernel
theorem d28_7 : decode prog_35_method_9_code 7 = .ok (.iload_n 1, 1) := by decide +kernel
theorem d28_8 : decode prog_35_method_9_code 8 = .ok (.istore_n 3, 1) := by decide +kernel
theorem d28_9 : decode prog_35_method_9_code 9 = .ok (.iconst 2, 1) := by decide +kernel
theorem d28_10 : decode prog_35_method_9_code 10 = .ok (.iload_n 3, 1) := by decide +kernel
theorem d28_11 : decode prog_35_method_9_code 11 = .ok (.imul, 1) := by decide +kernel
theorem d28_12 : decode prog_35_method_9_code 12 = .ok (.iconst 1, 1) := by decide +kernel
theorem d28_13 : decode prog_35_method_9_code 13 = .ok (.iadd, 1) := by decide +kernel
theorem d28_14 : decode prog_35_method_9_code 14 = .ok (.istore 4, 2) := by decide +kernel
theorem d28_16 : decode prog_35_method_9_code 16 = .ok (.iload 4, 2) := by decide +kernel
theorem d28_18 : decode prog_35_method_9_code 18 = .ok (.aload_n 0, 1) := by decide +kernel
theorem d28_19 : decode prog_35_method_9_code 19 = .ok (.getfield 26, 3) := by decide +kernel
theorem d28_22 : decode prog_35_method_9_code 22 = .ok (.if_icmp .lt 6, 3) := by decide +kernel
theorem d28_25 : decode prog_35_method_9_code 25 = .ok (.goto 86, 3) := by decide +kernel
theorem d28_111 : decode prog_35_method_9_code 111 = .ok (.aload_n 0, 1) := by decide +kernel
theorem d28_112 : decode prog_35_method_9_code 112 = .ok (.iload_n 2, 1) := by decide +kernel
theorem d28_113 : decode prog_35_method_9_code 113 = .ok (.iload_n 3, 1) := by decide +kernel
theorem d28_114 : decode prog_35_method_9_code 114 = .ok (.invokevirtual 62, 3) := by decide +kernel
theorem d28_117 : decode prog_35_method_9_code 117 = .ok (.return_, 1) := by decide +kernel
theorem own_l3_k : ∀ L ∈ hAll, L.length = 1 → [(L.getD 0 0)] ∈ hAll ∧ hPos [(L.getD 0 0)] 0 = (s2 (L.getD 0 0) 0 (0 : Int32) (hPos L 0)) ∧ hPos [(L.getD 0 0)] 1 = (s2 (L.getD 0 0) 1 (0 : Int32) (hPos L 1)) ∧ ((s2 (L.getD 0 0) 0 (0 : Int32) (hPos L 0)) = -1 ↔ hPos L 0 = -1) ∧ ((s2 (L.getD 0 0) 1 (0 : Int32) (hPos L 1)) = -1 ↔ hPos L 1 = -1) := by decide +kernel
theorem own_l3 {e0 e1 p0 p1 : Int32} (H : HI 1 e0 e1 p0 p1) : HI 1 e0 e1 (s2 e0 0 (0 : Int32) p0) (s2 e0 1 (0 : Int32) p1) ∧ SM p0 p1 (s2 e0 0 (0 : Int32) p0) (s2 e0 1 (0 : Int32) p1) := by
  obtain ⟨L, hL, hn, h0, h1, rfl, rfl⟩ := H
  have hlen : L.length = 1 := own_hl1 L hL hn
  have g0 := h0 (by omega); subst g0
  obtain ⟨k1, k2, k3, k4⟩ := own_l3_k L hL hlen
  refine ⟨⟨[(L.getD 0 0)], k1, rfl, ?_, ?_, k2.symm, k3.symm⟩, k4⟩
  all_goals (intro hh; first | rfl | (exfalso; revert hh; decide) | (exfalso; simp at hh))
theorem ef_rm_down_01 (m : MethodId) (x0 : Addr) (x1 : Int32) : entryFrame m #[(.ref x0), (.int x1)] 5 = mkF m 0 #[.val (.ref x0), .val (.int x1), .unset, .unset, .unset] [] := by first | (simp [entryFrame, mkF, argsToLocals, Value.category]; done) | rfl
def Q_rm_down_01 (Z : State) (hp : Addr) (pp : Int32) (kq aF aO aW aK aB aA aI lo aE aP : Addr) (cK kK kE kP : ClassId) (sz en0 en1 po0 po1 : Int32) (h0 : Heap) (n0 : Nat) (v : Option Value) (h : Heap) (L : List Loc) : Prop := ∃ (ve0 : Int32) (ve1 : Int32) (vp0 : Int32) (vp1 : Int32), v = none ∧ Fr n0 L ∧ Keep h0 h [aE, aP] ∧ Arv Z h aE kE .int (2 : Int32) [(.int ve0), (.int ve1)] (.int (0 : Int32)) ∧ Arv Z h aP kP .int (2 : Int32) [(.int vp0), (.int vp1)] (.int (-1 : Int32)) ∧ (HI sz ve0 ve1 vp0 vp1 ∧ SM po0 po1 vp0 vp1)
set_option maxRecDepth 65536 in
set_option maxHeartbeats 40000000 in
theorem rm_down_01 (l : Launch) (Z : State) (a0 : Array Value) (hw : ∀ d ∈ tables_1, d.before a0 Z = true) (ws : List Jvm.Cond) (hp : Addr) (pp : Int32) (kq aF aO aW aK aB aA aI lo aE aP : Addr) (cK kK kE kP : ClassId) (sz en0 en1 po0 po1 : Int32) (h0 : Heap) (n0 : Nat) (O0 : Old Z n0 h0) (E_hp : Exa Z h0 hp cH) (F_hp_order : Fld Z h0 hp cH "order" "Lcom/example/leasewise/leasewise/IndexedHeap$Order;" (.ref lo)) (F_hp_entries : Fld Z h0 hp cH "entries" "[I" (.ref aE)) (F_hp_positions : Fld Z h0 hp cH "positions" "[I" (.ref aP)) (F_hp_size : Fld Z h0 hp cH "size" "I" (.int sz)) (E_kq : Exa Z h0 kq cQ) (F_kq_keys : Fld Z h0 kq cQ "keys" "[J" (.ref aK)) (MDc : Jvm.LamKit.Made Z cQ sgm cK) (V_aE : Arv Z h0 aE kE .int (2 : Int32) [(.int en0), (.int en1)] (.int (0 : Int32))) (V_aP : Arv Z h0 aP kP .int (2 : Int32) [(.int po0), (.int po1)] (.int (-1 : Int32))) (g_aE : n0 ≤ aE) (g_aP : n0 ≤ aP) (NDp : List.Nodup [kq, aF, aO, aW, aK, aB, aA, aI, hp, lo, aE, aP]) (HI0 : HI sz en0 en1 po0 po1) (hpp : pp = (0 : Int32)) (hsz : sz = (1 : Int32)) (V_aK : Arp Z h0 aK kK .long (2 : Int32) PJ) (Y_lo : LamO h0 lo cK kq) :
    MetFree l (⟨cH, "siftDown", "(I)V"⟩ : MethodName) (head1 (Jvm.Cond.code (⟨cH, "siftDown", "(I)V"⟩ : MethodName) prog_35_method_9_code 5 none :: ws) ({ frames := 1, cells := 0, slots := 0, locals := 14 } : Room)) (fun a U => a = #[(.ref hp), (.int pp)] ∧ Z.WarmedH U.vm ∧ U.heap = h0) (fun _ _ _ _ _ => True) (fun _ U o U' => ∃ v L, o = .returned v ∧ Q_rm_down_01 Z hp pp kq aF aO aW aK aB aA aI lo aE aP cK kK kE kP sz en0 en1 po0 po1 h0 n0 v U'.heap L ∧ FrameEnd U o U' L ({ frames := 1, cells := 0, slots := 0, locals := 14 } : Room).cells ({ frames := 1, cells := 0, slots := 0, locals := 14 } : Room).slots) := by
  refine MetFree.of_bodySF (plainFor_of_name pn_1) hisR ?_
  intro p e s m args below meth c s₁ Bd hml0 hP hK
  obtain ⟨rfl, hZH, hh⟩ := hP
  have hZ := hZH.wide
  have hx := Bd.exec
  have hby := Bd.bytes
  have D := fun {pc : Nat} {r : Except ClassFile.DecodeError (ClassFile.Instr × Nat)} (q : decode prog_35_method_9_code pc = r) => hb (pc := pc) hby q
  have hml : c.maxLocals = 5 := hml0
  have hown : s.vm.findClass cH = some m.cls := findClass_of_methodNamed Bd.named
  have hnm := (name_of_methodNamed Bd.named Bd.method).1
  have X0 : Stand p l e ({ frames := 1, cells := 0, slots := 0, locals := 14 } : Room) s m #[(.ref hp), (.int pp)] below meth c s₁ [] 0 0 := Stand.of_body Bd
  have e0 : s₁.heap = h0 := by rw [← hh, Bd.state]; rfl
  have N0 := Fr.nil n0
  have pre0 : ∀ t, Steps p.tables e below (s₁.setTop (mkF m 0 #[.val (.ref hp), .val (.int pp), .unset, .unset, .unset] [])) t → Steps p.tables e below (s₁.setTop (entryFrame m #[(.ref hp), (.int pp)] 5)) t := fun t k => castTop (ef_rm_down_01 m (hp) (pp)) k
  have wd := fun {d : Jvm.Cond} (i : Nat) (h : tables_1[i]? = some d) => hw d (List.mem_of_getElem? h)
  subst hpp hsz
  obtain ⟨T1, X1, e1, st1⟩ := getF X0 hx hZ hown (host := "") (Or.inl (wd 44 rfl)) Via.refl e0 F_hp_entries (g := (mkF m 1 #[.val (.ref hp), .val (.int (0 : Int32)), .unset, .unset, .unset] [(.ref hp)])) rfl rfl (D d28_1)
  obtain ⟨cl2, Ar2, q2, S2, Nn2, H2, G2⟩ := id V_aE
  have hin2 : ¬ ((0 : Int32) < 0 ∨ cl2.slots.size ≤ ((0 : Int32)).toNatClampNeg) := inb_of S2 ⟨by decide, by decide⟩
  obtain ⟨T3, X3, e3, st3⟩ := getF X1 hx hZ hown (host := "") (Or.inl (wd 63 rfl)) Via.refl e1 F_hp_size (g := (mkF m 19 #[.val (.ref hp), .val (.int (0 : Int32)), .val (.int en0), .val (.int (0 : Int32)), .val (.int (1 : Int32))] [(.ref hp), (.int (1 : Int32))])) rfl rfl (D d28_19)
  obtain ⟨cq4, q4, q4'⟩ := E_hp.cell
  obtain ⟨_, _, ⟨T4, L4, k4, n4⟩, -, X4, ⟨Lc4, hQ4, l4, y4, z4⟩, st4⟩ := X3.privateBack hx (y := (⟨cH, "place", "(II)V"⟩ : MethodName)) hown (mvT hZ (wd 141 rfl)) (mvT hZ (wd 142 rfl)) (own_selpriv (y := (⟨cH, "place", "(II)V"⟩ : MethodName)) (mvT hZ (wd 61 rfl)) rfl (Cond.privateMethod_at (mvP hZ (wd 143 rfl) (args := #[]))) (mvT hZ (wd 142 rfl)) (by decide)) (Cond.privateMethod_at (mvP hZ (wd 143 rfl) (args := #[]))) (mvT hZ (wd 144 rfl)) (by decide) (own_backH (W := 0) (rm_place_0 l Z a0 hw [] hp en0 kq aF aO aW aK aB aA aI lo aE aP kE kP en0 en1 po0 po1 h0 n0 O0 E_hp F_hp_order F_hp_entries F_hp_positions V_aE V_aP g_aE g_aP NDp (own_en_0 HI0 (by decide))) hZH (wd 144 rfl) (wd 33 rfl) (by decide) (by decide)) (g := (mkF m 114 #[.val (.ref hp), .val (.int (0 : Int32)), .val (.int en0), .val (.int (0 : Int32)), .val (.int (1 : Int32))] [(.int (0 : Int32)), (.int en0), (.ref hp)])) rfl (by rw [hml]; rfl) (Steps.refl _) (a := hp) (by rw [e3]; exact q4) q4' (argsL := [(.int en0), (.int (0 : Int32))]) (rest := []) (lenOf pd_1 rfl) rfl (by show 2 * 0 + _ ≤ _; exact Nat.le_of_eq rfl) (D d28_114) (fun _ _ => ⟨rfl, e3, (by decide : 0 + 0 ≤ _), (by decide : 0 + 0 ≤ _)⟩)
  dsimp only [Pt.U, Pt.locs, Pt.cells, Pt.slots] at X4 l4 y4 z4 st4 hQ4
  subst l4 y4 z4
  obtain ⟨rfl, N4q, K4, Q4_0, Q4_1⟩ := hQ4
  have O4 := O0.keep K4 (allS g_aE (allS g_aP all0))
  have KK4 : Keep h0 T4.heap [aE, aP] := (Keep.refl h0 [aE, aP]).trans K4 (allS (own_mem 0 rfl) (allS (own_mem 1 rfl) all0))
  have N4 := Fr.app N0 N4q
  obtain ⟨fs, hr, hrun, hended, hW, hsame⟩ := X4.leave (v := none) (fun _ => rfl)
  refine ⟨_, _, pre0 _ ?_, hrun, hended, _, _, rfl, ?_, ⟨_, rfl⟩, hW, hsame.mono (by decide) (by decide)⟩
  · refine s_aloadN X0 hx (D d28_0) rfl rfl ?_
    refine st1 _ ?_
    refine s_iloadN X1 hx (D d28_4) rfl ?_
    refine X1.iaload hx (j := (0 : Int32)) (v := (.int en0)) (by rw [e1]; exact (Ar2).1) (State.isArrayOf_alike hZ.alike (Ar2).2.1) (Ar2).2.2 hin2 (H2.at hin2 rfl) (g := (mkF m 5 #[.val (.ref hp), .val (.int (0 : Int32)), .unset, .unset, .unset] [(.int (0 : Int32)), (.ref aE)])) rfl rfl (D d28_5) _ ?_
    refine s_istoreN X1 hx (D d28_6) (l' := #[.val (.ref hp), .val (.int (0 : Int32)), .val (.int en0), .unset, .unset]) rfl ?_
    refine s_iloadN X1 hx (D d28_7) rfl ?_
    refine s_istoreN X1 hx (D d28_8) (l' := #[.val (.ref hp), .val (.int (0 : Int32)), .val (.int en0), .val (.int (0 : Int32)), .unset]) rfl ?_
    refine s_iconst X1 hx (2 : Int32) (D d28_9) rfl ?_
    refine s_iloadN X1 hx (D d28_10) rfl ?_
    refine s_imul X1 hx (D d28_11) (r := (0 : Int32)) (by decide) ?_
    refine s_iconst X1 hx (1 : Int32) (D d28_12) rfl ?_
    refine s_iadd X1 hx (D d28_13) (r := (1 : Int32)) (by decide) ?_
    refine s_istore X1 hx (D d28_14) (l' := #[.val (.ref hp), .val (.int (0 : Int32)), .val (.int en0), .val (.int (0 : Int32)), .val (.int (1 : Int32))]) rfl ?_
    refine s_iload X1 hx (D d28_16) rfl ?_
    refine s_aloadN X1 hx (D d28_18) rfl rfl ?_
    refine st3 _ ?_
    refine s_icmpNo X3 hx (D d28_22) (flt (by decide : ¬ ((1 : Int32) < (1 : Int32)))).1 ?_
    refine s_goto X3 hx 111 (D d28_25) (of_decide_eq_true rfl) rfl ?_
    refine s_aloadN X3 hx (D d28_111) rfl rfl ?_
    refine s_iloadN X3 hx (D d28_112) rfl ?_
    refine s_iloadN X3 hx (D d28_113) rfl ?_
    refine st4.trans ?_
    exact X4.returnOut hx Bd.returns (D d28_117) hr
  · show Q_rm_down_01 Z hp (0 : Int32) kq aF aO aW aK aB aA aI lo aE aP cK kK kE kP (1 : Int32) en0 en1 po0 po1 h0 n0 _ T4.heap _
    exact ⟨en0, en1, (s2 en0 0 (0 : Int32) po0), (s2 en0 1 (0 : Int32) po1), rfl, N4, KK4, Q4_0, Q4_1, (own_l3 HI0)⟩
def DNp (pp sz : Int32) : Prop := pp = 0 ∧ sz = 1
theorem rm_down (l : Launch) (Z : State) (a0 : Array Value) (hw : ∀ d ∈ tables_1, d.before a0 Z = true) (ws : List Jvm.Cond) (hp : Addr) (pp : Int32) (kq aF aO aW aK aB aA aI lo aE aP : Addr) (cK kK kE kP : ClassId) (sz en0 en1 po0 po1 : Int32) (h0 : Heap) (n0 : Nat) (O0 : Old Z n0 h0) (E_hp : Exa Z h0 hp cH) (F_hp_order : Fld Z h0 hp cH "order" "Lcom/example/leasewise/leasewise/IndexedHeap$Order;" (.ref lo)) (F_hp_entries : Fld Z h0 hp cH "entries" "[I" (.ref aE)) (F_hp_positions : Fld Z h0 hp cH "positions" "[I" (.ref aP)) (F_hp_size : Fld Z h0 hp cH "size" "I" (.int sz)) (E_kq : Exa Z h0 kq cQ) (F_kq_keys : Fld Z h0 kq cQ "keys" "[J" (.ref aK)) (MDc : Jvm.LamKit.Made Z cQ sgm cK) (V_aE : Arv Z h0 aE kE .int (2 : Int32) [(.int en0), (.int en1)] (.int (0 : Int32))) (V_aP : Arv Z h0 aP kP .int (2 : Int32) [(.int po0), (.int po1)] (.int (-1 : Int32))) (g_aE : n0 ≤ aE) (g_aP : n0 ≤ aP) (NDp : List.Nodup [kq, aF, aO, aW, aK, aB, aA, aI, hp, lo, aE, aP]) (HI0 : HI sz en0 en1 po0 po1) (hpp : DNp pp sz) (V_aK : Arp Z h0 aK kK .long (2 : Int32) PJ) (Y_lo : LamO h0 lo cK kq) :
    MetFree l (⟨cH, "siftDown", "(I)V"⟩ : MethodName) (head1 (Jvm.Cond.code (⟨cH, "siftDown", "(I)V"⟩ : MethodName) prog_35_method_9_code 5 none :: ws) ({ frames := 1, cells := 0, slots := 0, locals := 14 } : Room)) (fun a U => a = #[(.ref hp), (.int pp)] ∧ Z.WarmedH U.vm ∧ U.heap = h0) (fun _ _ _ _ _ => True) (fun _ U o U' => ∃ v L, o = .returned v ∧ Q_rm_down_01 Z hp pp kq aF aO aW aK aB aA aI lo aE aP cK kK kE kP sz en0 en1 po0 po1 h0 n0 v U'.heap L ∧ FrameEnd U o U' L ({ frames := 1, cells := 0, slots := 0, locals := 14 } : Room).cells ({ frames := 1, cells := 0, slots := 0, locals := 14 } : Room).slots) := by
  rcases hpp with ⟨rfl, rfl⟩
  · exact rm_down_01 l Z a0 hw ws hp (0 : Int32) kq aF aO aW aK aB aA aI lo aE aP cK kK kE kP (1 : Int32) en0 en1 po0 po1 h0 n0 O0 E_hp F_hp_order F_hp_entries F_hp_positions F_hp_size E_kq F_kq_keys MDc V_aE V_aP g_aE g_aP NDp HI0 rfl rfl V_aK Y_lo
theorem d20_0 : decode prog_35_method_3_code 0 = .ok (.aload_n 0, 1) := by decide +kernel
theorem d20_1 : decode prog_35_method_3_code 1 = .ok (.getfield 17, 3) := by decide +kernel
theorem d20_4 : decode prog_35_method_3_code 4 = .ok (.iload_n 1, 1) := by decide +kernel
theorem d20_5 : decode prog_35_method_3_code 5 = .ok (.iaload, 1) := by decide +kernel
theorem d20_6 : decode prog_35_method_3_code 6 = .ok (.iconst (-1), 1) := by decide +kernel
theorem d20_7 : decode prog_35_method_3_code 7 = .ok (.if_icmp .eq 7, 3) := by decide +kernel
theorem d20_10 : decode prog_35_method_3_code 10 = .ok (.iconst 1, 1) := by decide +kernel
theorem d20_11 : decode prog_35_method_3_code 11 = .ok (.goto 4, 3) := by decide +kernel
theorem d20_14 : decode prog_35_method_3_code 14 = .ok (.iconst 0, 1) := by decide +kernel
theorem d20_15 : decode prog_35_method_3_code 15 = .ok (.ireturn, 1) := by decide +kernel
theorem ef_rm_hcontains (m : MethodId) (x0 : Addr) (x1 : Int32) : entryFrame m #[(.ref x0), (.int x1)] 2 = mkF m 0 #[.val (.ref x0), .val (.int x1)] [] := by first | (simp [entryFrame, mkF, argsToLocals, Value.category]; done) | rfl
def Q_rm_hcontains (Z : State) (hp : Addr) (en : Int32) (kq aF aO aW aK aB aA aI lo aE aP : Addr) (kP : ClassId) (po0 po1 : Int32) (h0 : Heap) (n0 : Nat) (v : Option Value) (h : Heap) (L : List Loc) : Prop := v = some (.int (if g2 en po0 po1 = (-1 : Int32) then (0 : Int32) else (1 : Int32))) ∧ Fr n0 L ∧ h = h0
set_option maxRecDepth 65536 in
set_option maxHeartbeats 40000000 in
theorem rm_hcontains (l : Launch) (Z : State) (a0 : Array Value) (hw : ∀ d ∈ tables_1, d.before a0 Z = true) (ws : List Jvm.Cond) (hp : Addr) (en : Int32) (kq aF aO aW aK aB aA aI lo aE aP : Addr) (kP : ClassId) (po0 po1 : Int32) (h0 : Heap) (n0 : Nat) (O0 : Old Z n0 h0) (E_hp : Exa Z h0 hp cH) (F_hp_order : Fld Z h0 hp cH "order" "Lcom/example/leasewise/leasewise/IndexedHeap$Order;" (.ref lo)) (F_hp_entries : Fld Z h0 hp cH "entries" "[I" (.ref aE)) (F_hp_positions : Fld Z h0 hp cH "positions" "[I" (.ref aP)) (V_aP : Arv Z h0 aP kP .int (2 : Int32) [(.int po0), (.int po1)] (.int (-1 : Int32))) (he : I2 en) :
    MetFree l (⟨cH, "contains", "(I)Z"⟩ : MethodName) (head1 (Jvm.Cond.code (⟨cH, "contains", "(I)Z"⟩ : MethodName) prog_35_method_3_code 2 (some .boolean) :: ws) ({ frames := 0, cells := 0, slots := 0, locals := 0 } : Room)) (fun a U => a = #[(.ref hp), (.int en)] ∧ Z.WarmedH U.vm ∧ U.heap = h0) (fun _ _ _ _ _ => True) (fun _ U o U' => ∃ v L, o = .returned v ∧ Q_rm_hcontains Z hp en kq aF aO aW aK aB aA aI lo aE aP kP po0 po1 h0 n0 v U'.heap L ∧ FrameEnd U o U' L ({ frames := 0, cells := 0, slots := 0, locals := 0 } : Room).cells ({ frames := 0, cells := 0, slots := 0, locals := 0 } : Room).slots) := by
  refine MetFree.of_bodySF (plainFor_of_name pn_1) hisR ?_
  intro p e s m args below meth c s₁ Bd hml0 hP hK
  obtain ⟨rfl, hZH, hh⟩ := hP
  have hZ := hZH.wide
  have hx := Bd.exec
  have hby := Bd.bytes
  have D := fun {pc : Nat} {r : Except ClassFile.DecodeError (ClassFile.Instr × Nat)} (q : decode prog_35_method_3_code pc = r) => hb (pc := pc) hby q
  have hml : c.maxLocals = 2 := hml0
  have hown : s.vm.findClass cH = some m.cls := findClass_of_methodNamed Bd.named
  have hnm := (name_of_methodNamed Bd.named Bd.method).1
  have X0 : Stand p l e ({ frames := 0, cells := 0, slots := 0, locals := 0 } : Room) s m #[(.ref hp), (.int en)] below meth c s₁ [] 0 0 := Stand.of_body Bd
  have e0 : s₁.heap = h0 := by rw [← hh, Bd.state]; rfl
  have N0 := Fr.nil n0
  have pre0 : ∀ t, Steps p.tables e below (s₁.setTop (mkF m 0 #[.val (.ref hp), .val (.int en)] [])) t → Steps p.tables e below (s₁.setTop (entryFrame m #[(.ref hp), (.int en)] 2)) t := fun t k => castTop (ef_rm_hcontains m (hp) (en)) k
  have wd := fun {d : Jvm.Cond} (i : Nat) (h : tables_1[i]? = some d) => hw d (List.mem_of_getElem? h)
  obtain ⟨T1, X1, e1, st1⟩ := getF X0 hx hZ hown (host := "") (Or.inl (wd 46 rfl)) Via.refl e0 F_hp_positions (g := (mkF m 1 #[.val (.ref hp), .val (.int en)] [(.ref hp)])) rfl rfl (D d20_1)
  obtain ⟨cl2, Ar2, q2, S2, Nn2, H2, G2⟩ := id V_aP
  have hin2 : ¬ (en < 0 ∨ cl2.slots.size ≤ (en).toNatClampNeg) := inb_of S2 (own_in2 he)
  obtain ⟨y2, hy2⟩ : ∃ y, y = g2 en po0 po1 := ⟨_, rfl⟩
  have hat2 := own_get2I H2 hin2 he hy2
  have cs3 : Steps p.tables e below (s₁.setTop (mkF m 0 #[.val (.ref hp), .val (.int en)] [])) (T1.setTop (mkF m 7 #[.val (.ref hp), .val (.int en)] [(.int (-1 : Int32)), (.int y2)])) := (by
    refine s_aloadN X0 hx (D d20_0) rfl rfl ?_
    refine st1 _ ?_
    refine s_iloadN X1 hx (D d20_4) rfl ?_
    refine X1.iaload hx (j := en) (v := (.int y2)) (by rw [e1]; exact (Ar2).1) (State.isArrayOf_alike hZ.alike (Ar2).2.1) (Ar2).2.2 hin2 hat2 (g := (mkF m 5 #[.val (.ref hp), .val (.int en)] [(.int en), (.ref aP)])) rfl rfl (D d20_5) _ ?_
    refine s_iconst X1 hx (-1 : Int32) (D d20_6) rfl ?_
    exact Steps.refl _)
  by_cases hc4 : y2 = (-1 : Int32)
  · obtain ⟨fs, hr, hrun, hended, hW, hsame⟩ := X1.leave (v := some (.int (0 : Int32))) (fun h => by rw [Bd.returns] at h; cases h)
    refine ⟨_, _, pre0 _ ?_, hrun, hended, _, _, rfl, ?_, ⟨_, rfl⟩, hW, hsame.mono (by decide) (by decide)⟩
    · refine cs3.trans ?_
      refine s_icmpYes X1 hx 14 (D d20_7) (teq hc4).1 (of_decide_eq_true rfl) rfl ?_
      refine s_iconst X1 hx (0 : Int32) (D d20_14) rfl ?_
      exact retN X1 hx (t := .boolean) Bd.returns (by simp) (D d20_15) hr
    · show Q_rm_hcontains Z hp en kq aF aO aW aK aB aA aI lo aE aP kP po0 po1 h0 n0 _ T1.heap _
      rw [e1]
      exact ⟨by rw [if_pos (hy2.symm.trans hc4)], N0, rfl⟩
  · obtain ⟨fs, hr, hrun, hended, hW, hsame⟩ := X1.leave (v := some (.int (1 : Int32))) (fun h => by rw [Bd.returns] at h; cases h)
    refine ⟨_, _, pre0 _ ?_, hrun, hended, _, _, rfl, ?_, ⟨_, rfl⟩, hW, hsame.mono (by decide) (by decide)⟩
    · refine cs3.trans ?_
      refine s_icmpNo X1 hx (D d20_7) (feq hc4).1 ?_
      refine s_iconst X1 hx (1 : Int32) (D d20_10) rfl ?_
      refine s_goto X1 hx 15 (D d20_11) (of_decide_eq_true rfl) rfl ?_
      exact retN X1 hx (t := .boolean) Bd.returns (by simp) (D d20_15) hr
    · show Q_rm_hcontains Z hp en kq aF aO aW aK aB aA aI lo aE aP kP po0 po1 h0 n0 _ T1.heap _
      rw [e1]
      exact ⟨by rw [if_neg (fun z => hc4 (hy2.trans z))], N0, rfl⟩
theorem d6_0 : decode prog_35_method_2_code 0 = .ok (.aload_n 0, 1) := by decide +kernel
theorem d6_1 : decode prog_35_method_2_code 1 = .ok (.getfield 26, 3) := by decide +kernel
theorem d6_4 : decode prog_35_method_2_code 4 = .ok (.ifCond .ne 7, 3) := by decide +kernel
theorem d6_7 : decode prog_35_method_2_code 7 = .ok (.iconst 1, 1) := by decide +kernel
theorem d6_8 : decode prog_35_method_2_code 8 = .ok (.goto 4, 3) := by decide +kernel
theorem d6_11 : decode prog_35_method_2_code 11 = .ok (.iconst 0, 1) := by decide +kernel
theorem d6_12 : decode prog_35_method_2_code 12 = .ok (.ireturn, 1) := by decide +kernel
theorem ef_rm_hisEmpty (m : MethodId) (x0 : Addr) : entryFrame m #[(.ref x0)] 1 = mkF m 0 #[.val (.ref x0)] [] := by first | (simp [entryFrame, mkF, argsToLocals, Value.category]; done) | rfl
def Q_rm_hisEmpty (Z : State) (hp : Addr) (sz : Int32) (h0 : Heap) (n0 : Nat) (v : Option Value) (h : Heap) (L : List Loc) : Prop := v = some (.int (if sz = (0 : Int32) then (1 : Int32) else (0 : Int32))) ∧ Fr n0 L ∧ h = h0
set_option maxRecDepth 65536 in
set_option maxHeartbeats 40000000 in
theorem rm_hisEmpty (l : Launch) (Z : State) (a0 : Array Value) (hw : ∀ d ∈ tables_1, d.before a0 Z = true) (ws : List Jvm.Cond) (hp : Addr) (sz : Int32) (h0 : Heap) (n0 : Nat) (O0 : Old Z n0 h0) (E_hp : Exa Z h0 hp cH) (F_hp_size : Fld Z h0 hp cH "size" "I" (.int sz)) :
    MetFree l (⟨cH, "isEmpty", "()Z"⟩ : MethodName) (head1 (Jvm.Cond.code (⟨cH, "isEmpty", "()Z"⟩ : MethodName) prog_35_method_2_code 1 (some .boolean) :: ws) ({ frames := 0, cells := 0, slots := 0, locals := 0 } : Room)) (fun a U => a = #[(.ref hp)] ∧ Z.WarmedH U.vm ∧ U.heap = h0) (fun _ _ _ _ _ => True) (fun _ U o U' => ∃ v L, o = .returned v ∧ Q_rm_hisEmpty Z hp sz h0 n0 v U'.heap L ∧ FrameEnd U o U' L ({ frames := 0, cells := 0, slots := 0, locals := 0 } : Room).cells ({ frames := 0, cells := 0, slots := 0, locals := 0 } : Room).slots) := by
  refine MetFree.of_bodySF (plainFor_of_name pn_1) hisR ?_
  intro p e s m args below meth c s₁ Bd hml0 hP hK
  obtain ⟨rfl, hZH, hh⟩ := hP
  have hZ := hZH.wide
  have hx := Bd.exec
  have hby := Bd.bytes
  have D := fun {pc : Nat} {r : Except ClassFile.DecodeError (ClassFile.Instr × Nat)} (q : decode prog_35_method_2_code pc = r) => hb (pc := pc) hby q
  have hml : c.maxLocals = 1 := hml0
  have hown : s.vm.findClass cH = some m.cls := findClass_of_methodNamed Bd.named
  have hnm := (name_of_methodNamed Bd.named Bd.method).1
  have X0 : Stand p l e ({ frames := 0, cells := 0, slots := 0, locals := 0 } : Room) s m #[(.ref hp)] below meth c s₁ [] 0 0 := Stand.of_body Bd
  have e0 : s₁.heap = h0 := by rw [← hh, Bd.state]; rfl
  have N0 := Fr.nil n0
  have pre0 : ∀ t, Steps p.tables e below (s₁.setTop (mkF m 0 #[.val (.ref hp)] [])) t → Steps p.tables e below (s₁.setTop (entryFrame m #[(.ref hp)] 1)) t := fun t k => castTop (ef_rm_hisEmpty m (hp)) k
  have wd := fun {d : Jvm.Cond} (i : Nat) (h : tables_1[i]? = some d) => hw d (List.mem_of_getElem? h)
  obtain ⟨T1, X1, e1, st1⟩ := getF X0 hx hZ hown (host := "") (Or.inl (wd 63 rfl)) Via.refl e0 F_hp_size (g := (mkF m 1 #[.val (.ref hp)] [(.ref hp)])) rfl rfl (D d6_1)
  have cs2 : Steps p.tables e below (s₁.setTop (mkF m 0 #[.val (.ref hp)] [])) (T1.setTop (mkF m 4 #[.val (.ref hp)] [(.int sz)])) := (by
    refine s_aloadN X0 hx (D d6_0) rfl rfl ?_
    refine st1 _ ?_
    exact Steps.refl _)
  by_cases hc3 : sz = (0 : Int32)
  · obtain ⟨fs, hr, hrun, hended, hW, hsame⟩ := X1.leave (v := some (.int (1 : Int32))) (fun h => by rw [Bd.returns] at h; cases h)
    refine ⟨_, _, pre0 _ ?_, hrun, hended, _, _, rfl, ?_, ⟨_, rfl⟩, hW, hsame.mono (by decide) (by decide)⟩
    · refine cs2.trans ?_
      refine s_ifNo X1 hx (D d6_4) ((if0 _ _).trans (teq hc3).2) ?_
      refine s_iconst X1 hx (1 : Int32) (D d6_7) rfl ?_
      refine s_goto X1 hx 12 (D d6_8) (of_decide_eq_true rfl) rfl ?_
      exact retN X1 hx (t := .boolean) Bd.returns (by simp) (D d6_12) hr
    · show Q_rm_hisEmpty Z hp sz h0 n0 _ T1.heap _
      rw [e1]
      exact ⟨by rw [if_pos hc3], N0, rfl⟩
  · obtain ⟨fs, hr, hrun, hended, hW, hsame⟩ := X1.leave (v := some (.int (0 : Int32))) (fun h => by rw [Bd.returns] at h; cases h)
    refine ⟨_, _, pre0 _ ?_, hrun, hended, _, _, rfl, ?_, ⟨_, rfl⟩, hW, hsame.mono (by decide) (by decide)⟩
    · refine cs2.trans ?_
      refine s_ifYes X1 hx 11 (D d6_4) ((if0 _ _).trans (feq hc3).2) (of_decide_eq_true rfl) rfl ?_
      refine s_iconst X1 hx (0 : Int32) (D d6_11) rfl ?_
      exact retN X1 hx (t := .boolean) Bd.returns (by simp) (D d6_12) hr
    · show Q_rm_hisEmpty Z hp sz h0 n0 _ T1.heap _
      rw [e1]
      exact ⟨by rw [if_neg hc3], N0, rfl⟩
theorem d23_0 : decode prog_35_method_4_code 0 = .ok (.aload_n 0, 1) := by decide +kernel
theorem d23_1 : decode prog_35_method_4_code 1 = .ok (.getfield 26, 3) := by decide +kernel
theorem d23_4 : decode prog_35_method_4_code 4 = .ok (.ifCond .ne 13, 3) := by decide +kernel
theorem d23_17 : decode prog_35_method_4_code 17 = .ok (.aload_n 0, 1) := by decide +kernel
theorem d23_18 : decode prog_35_method_4_code 18 = .ok (.getfield 13, 3) := by decide +kernel
theorem d23_21 : decode prog_35_method_4_code 21 = .ok (.iconst 0, 1) := by decide +kernel
theorem d23_22 : decode prog_35_method_4_code 22 = .ok (.iaload, 1) := by decide +kernel
theorem d23_23 : decode prog_35_method_4_code 23 = .ok (.ireturn, 1) := by decide +kernel
theorem ef_rm_hfirst (m : MethodId) (x0 : Addr) : entryFrame m #[(.ref x0)] 1 = mkF m 0 #[.val (.ref x0)] [] := by first | (simp [entryFrame, mkF, argsToLocals, Value.category]; done) | rfl
def Q_rm_hfirst (Z : State) (hp : Addr) (aE : Addr) (kE : ClassId) (sz en0 en1 : Int32) (h0 : Heap) (n0 : Nat) (v : Option Value) (h : Heap) (L : List Loc) : Prop := v = some (.int en0) ∧ Fr n0 L ∧ h = h0
set_option maxRecDepth 65536 in
set_option maxHeartbeats 40000000 in
theorem rm_hfirst (l : Launch) (Z : State) (a0 : Array Value) (hw : ∀ d ∈ tables_1, d.before a0 Z = true) (ws : List Jvm.Cond) (hp : Addr) (aE : Addr) (kE : ClassId) (sz en0 en1 : Int32) (h0 : Heap) (n0 : Nat) (O0 : Old Z n0 h0) (E_hp : Exa Z h0 hp cH) (F_hp_entries : Fld Z h0 hp cH "entries" "[I" (.ref aE)) (F_hp_size : Fld Z h0 hp cH "size" "I" (.int sz)) (V_aE : Arv Z h0 aE kE .int (2 : Int32) [(.int en0), (.int en1)] (.int (0 : Int32))) (hnz : ¬ sz = (0 : Int32)) :
    MetFree l (⟨cH, "first", "()I"⟩ : MethodName) (head1 (Jvm.Cond.code (⟨cH, "first", "()I"⟩ : MethodName) prog_35_method_4_code 1 (some .int) :: ws) ({ frames := 0, cells := 0, slots := 0, locals := 0 } : Room)) (fun a U => a = #[(.ref hp)] ∧ Z.WarmedH U.vm ∧ U.heap = h0) (fun _ _ _ _ _ => True) (fun _ U o U' => ∃ v L, o = .returned v ∧ Q_rm_hfirst Z hp aE kE sz en0 en1 h0 n0 v U'.heap L ∧ FrameEnd U o U' L ({ frames := 0, cells := 0, slots := 0, locals := 0 } : Room).cells ({ frames := 0, cells := 0, slots := 0, locals := 0 } : Room).slots) := by
  refine MetFree.of_bodySF (plainFor_of_name pn_1) hisR ?_
  intro p e s m args below meth c s₁ Bd hml0 hP hK
  obtain ⟨rfl, hZH, hh⟩ := hP
  have hZ := hZH.wide
  have hx := Bd.exec
  have hby := Bd.bytes
  have D := fun {pc : Nat} {r : Except ClassFile.DecodeError (ClassFile.Instr × Nat)} (q : decode prog_35_method_4_code pc = r) => hb (pc := pc) hby q
  have hml : c.maxLocals = 1 := hml0
  have hown : s.vm.findClass cH = some m.cls := findClass_of_methodNamed Bd.named
  have hnm := (name_of_methodNamed Bd.named Bd.method).1
  have X0 : Stand p l e ({ frames := 0, cells := 0, slots := 0, locals := 0 } : Room) s m #[(.ref hp)] below meth c s₁ [] 0 0 := Stand.of_body Bd
  have e0 : s₁.heap = h0 := by rw [← hh, Bd.state]; rfl
  have N0 := Fr.nil n0
  have pre0 : ∀ t, Steps p.tables e below (s₁.setTop (mkF m 0 #[.val (.ref hp)] [])) t → Steps p.tables e below (s₁.setTop (entryFrame m #[(.ref hp)] 1)) t := fun t k => castTop (ef_rm_hfirst m (hp)) k
  have wd := fun {d : Jvm.Cond} (i : Nat) (h : tables_1[i]? = some d) => hw d (List.mem_of_getElem? h)
  obtain ⟨T1, X1, e1, st1⟩ := getF X0 hx hZ hown (host := "") (Or.inl (wd 63 rfl)) Via.refl e0 F_hp_size (g := (mkF m 1 #[.val (.ref hp)] [(.ref hp)])) rfl rfl (D d23_1)
  obtain ⟨T2, X2, e2, st2⟩ := getF X1 hx hZ hown (host := "") (Or.inl (wd 44 rfl)) Via.refl e1 F_hp_entries (g := (mkF m 18 #[.val (.ref hp)] [(.ref hp)])) rfl rfl (D d23_18)
  obtain ⟨cl3, Ar3, q3, S3, Nn3, H3, G3⟩ := id V_aE
  have hin3 : ¬ ((0 : Int32) < 0 ∨ cl3.slots.size ≤ ((0 : Int32)).toNatClampNeg) := inb_of S3 ⟨by decide, by decide⟩
  obtain ⟨fs, hr, hrun, hended, hW, hsame⟩ := X2.leave (v := some (.int en0)) (fun h => by rw [Bd.returns] at h; cases h)
  refine ⟨_, _, pre0 _ ?_, hrun, hended, _, _, rfl, ?_, ⟨_, rfl⟩, hW, hsame.mono (by decide) (by decide)⟩
  · refine s_aloadN X0 hx (D d23_0) rfl rfl ?_
    refine st1 _ ?_
    refine s_ifYes X1 hx 17 (D d23_4) ((if0 _ _).trans (feq (hnz : ¬ (sz = (0 : Int32)))).2) (of_decide_eq_true rfl) rfl ?_
    refine s_aloadN X1 hx (D d23_17) rfl rfl ?_
    refine st2 _ ?_
    refine s_iconst X2 hx (0 : Int32) (D d23_21) rfl ?_
    refine X2.iaload hx (j := (0 : Int32)) (v := (.int en0)) (by rw [e2]; exact (Ar3).1) (State.isArrayOf_alike hZ.alike (Ar3).2.1) (Ar3).2.2 hin3 (H3.at hin3 rfl) (g := (mkF m 22 #[.val (.ref hp)] [(.int (0 : Int32)), (.ref aE)])) rfl rfl (D d23_22) _ ?_
    exact retI X2 hx Bd.returns (D d23_23) hr
  · show Q_rm_hfirst Z hp aE kE sz en0 en1 h0 n0 _ T2.heap _
    rw [e2]
    exact ⟨rfl, N0, rfl⟩
theorem d19_0 : decode prog_35_method_6_code 0 = .ok (.aload_n 0, 1) := by decide +kernel
theorem d19_1 : decode prog_35_method_6_code 1 = .ok (.iload_n 1, 1) := by decide +kernel
theorem d19_2 : decode prog_35_method_6_code 2 = .ok (.invokevirtual 45, 3) := by decide +kernel
theorem d19_5 : decode prog_35_method_6_code 5 = .ok (.ifCond .eq 20, 3) := by decide +kernel
theorem d19_25 : decode prog_35_method_6_code 25 = .ok (.aload_n 0, 1) := by decide +kernel
theorem d19_26 : decode prog_35_method_6_code 26 = .ok (.getfield 13, 3) := by decide +kernel
theorem d19_29 : decode prog_35_method_6_code 29 = .ok (.aload_n 0, 1) := by decide +kernel
theorem d19_30 : decode prog_35_method_6_code 30 = .ok (.getfield 26, 3) := by decide +kernel
theorem d19_33 : decode prog_35_method_6_code 33 = .ok (.iload_n 1, 1) := by decide +kernel
theorem d19_34 : decode prog_35_method_6_code 34 = .ok (.iastore, 1) := by decide +kernel
theorem d19_35 : decode prog_35_method_6_code 35 = .ok (.aload_n 0, 1) := by decide +kernel
theorem d19_36 : decode prog_35_method_6_code 36 = .ok (.getfield 17, 3) := by decide +kernel
theorem d19_39 : decode prog_35_method_6_code 39 = .ok (.iload_n 1, 1) := by decide +kernel
theorem d19_40 : decode prog_35_method_6_code 40 = .ok (.aload_n 0, 1) := by decide +kernel
theorem d19_41 : decode prog_35_method_6_code 41 = .ok (.getfield 26, 3) := by decide +kernel
theorem d19_44 : decode prog_35_method_6_code 44 = .ok (.iastore, 1) := by decide +kernel
theorem d19_45 : decode prog_35_method_6_code 45 = .ok (.aload_n 0, 1) := by decide +kernel
theorem d19_46 : decode prog_35_method_6_code 46 = .ok (.dup, 1) := by decide +kernel
theorem d19_47 : decode prog_35_method_6_code 47 = .ok (.getfield 26, 3) := by decide +kernel
theorem d19_50 : decode prog_35_method_6_code 50 = .ok (.iconst 1, 1) := by decide +kernel
theorem d19_51 : decode prog_35_method_6_code 51 = .ok (.iadd, 1) := by decide +kernel
theorem d19_52 : decode prog_35_method_6_code 52 = .ok (.putfield 26, 3) := by decide +kernel
theorem d19_55 : decode prog_35_method_6_code 55 = .ok (.aload_n 0, 1) := by decide +kernel
theorem d19_56 : decode prog_35_method_6_code 56 = .ok (.aload_n 0, 1) := by decide +kernel
theorem d19_57 : decode prog_35_method_6_code 57 = .ok (.getfield 26, 3) := by decide +kernel
theorem d19_60 : decode prog_35_method_6_code 60 = .ok (.iconst 1, 1) := by decide +kernel
theorem d19_61 : decode prog_35_method_6_code 61 = .ok (.isub, 1) := by decide +kernel
theorem d19_62 : decode prog_35_method_6_code 62 = .ok (.invokevirtual 49, 3) := by decide +kernel
theorem d19_65 : decode prog_35_method_6_code 65 = .ok (.pop, 1) := by decide +kernel
theorem d19_66 : decode prog_35_method_6_code 66 = .ok (.return_, 1) := by decide +kernel
theorem pd_2 : parseMethodDescriptor "(I)Z" = some ⟨[.int], some .boolean⟩ := by decide +kernel
theorem ne8_11 {kq aF aO aW aK aB aA aI hp lo aE aP : Addr} (h : List.Nodup [kq, aF, aO, aW, aK, aB, aA, aI, hp, lo, aE, aP]) : hp ≠ aP := own_nd h 8 11 rfl rfl (by decide)
theorem ne4_10 {kq aF aO aW aK aB aA aI hp lo aE aP : Addr} (h : List.Nodup [kq, aF, aO, aW, aK, aB, aA, aI, hp, lo, aE, aP]) : aK ≠ aE := own_nd h 4 10 rfl rfl (by decide)
theorem ne4_11 {kq aF aO aW aK aB aA aI hp lo aE aP : Addr} (h : List.Nodup [kq, aF, aO, aW, aK, aB, aA, aI, hp, lo, aE, aP]) : aK ≠ aP := own_nd h 4 11 rfl rfl (by decide)
theorem ne4_8 {kq aF aO aW aK aB aA aI hp lo aE aP : Addr} (h : List.Nodup [kq, aF, aO, aW, aK, aB, aA, aI, hp, lo, aE, aP]) : aK ≠ hp := own_nd h 4 8 rfl rfl (by decide)
theorem ne9_10 {kq aF aO aW aK aB aA aI hp lo aE aP : Addr} (h : List.Nodup [kq, aF, aO, aW, aK, aB, aA, aI, hp, lo, aE, aP]) : lo ≠ aE := own_nd h 9 10 rfl rfl (by decide)
theorem ne9_11 {kq aF aO aW aK aB aA aI hp lo aE aP : Addr} (h : List.Nodup [kq, aF, aO, aW, aK, aB, aA, aI, hp, lo, aE, aP]) : lo ≠ aP := own_nd h 9 11 rfl rfl (by decide)
theorem ne9_8 {kq aF aO aW aK aB aA aI hp lo aE aP : Addr} (h : List.Nodup [kq, aF, aO, aW, aK, aB, aA, aI, hp, lo, aE, aP]) : lo ≠ hp := own_nd h 9 8 rfl rfl (by decide)
theorem ne0_10 {kq aF aO aW aK aB aA aI hp lo aE aP : Addr} (h : List.Nodup [kq, aF, aO, aW, aK, aB, aA, aI, hp, lo, aE, aP]) : kq ≠ aE := own_nd h 0 10 rfl rfl (by decide)
theorem ne0_11 {kq aF aO aW aK aB aA aI hp lo aE aP : Addr} (h : List.Nodup [kq, aF, aO, aW, aK, aB, aA, aI, hp, lo, aE, aP]) : kq ≠ aP := own_nd h 0 11 rfl rfl (by decide)
theorem ne0_8 {kq aF aO aW aK aB aA aI hp lo aE aP : Addr} (h : List.Nodup [kq, aF, aO, aW, aK, aB, aA, aI, hp, lo, aE, aP]) : kq ≠ hp := own_nd h 0 8 rfl rfl (by decide)
theorem ne10_8 {kq aF aO aW aK aB aA aI hp lo aE aP : Addr} (h : List.Nodup [kq, aF, aO, aW, aK, aB, aA, aI, hp, lo, aE, aP]) : aE ≠ hp := own_nd h 10 8 rfl rfl (by decide)
theorem ne11_8 {kq aF aO aW aK aB aA aI hp lo aE aP : Addr} (h : List.Nodup [kq, aF, aO, aW, aK, aB, aA, aI, hp, lo, aE, aP]) : aP ≠ hp := own_nd h 11 8 rfl rfl (by decide)
theorem pd_3 : parseMethodDescriptor "(I)I" = some ⟨[.int], some .int⟩ := by decide +kernel
theorem ef_rm_hput (m : MethodId) (x0 : Addr) (x1 : Int32) : entryFrame m #[(.ref x0), (.int x1)] 3 = mkF m 0 #[.val (.ref x0), .val (.int x1), .unset] [] := by first | (simp [entryFrame, mkF, argsToLocals, Value.category]; done) | rfl
def Q_rm_hput (Z : State) (hp : Addr) (en : Int32) (kq aF aO aW aK aB aA aI lo aE aP : Addr) (cK kK kE kP : ClassId) (sz en0 en1 po0 po1 : Int32) (h0 : Heap) (n0 : Nat) (v : Option Value) (h : Heap) (L : List Loc) : Prop := ∃ (ve0 : Int32) (ve1 : Int32) (vp0 : Int32) (vp1 : Int32) (vz_ : Int32), v = none ∧ Fr n0 L ∧ Keep h0 h [hp, aE, aP] ∧ Fld Z h hp cH "order" "Lcom/example/leasewise/leasewise/IndexedHeap$Order;" (.ref lo) ∧ Fld Z h hp cH "entries" "[I" (.ref aE) ∧ Fld Z h hp cH "positions" "[I" (.ref aP) ∧ Fld Z h hp cH "size" "I" (.int vz_) ∧ Arv Z h aE kE .int (2 : Int32) [(.int ve0), (.int ve1)] (.int (0 : Int32)) ∧ Arv Z h aP kP .int (2 : Int32) [(.int vp0), (.int vp1)] (.int (-1 : Int32)) ∧ (HPut en vz_ ve0 ve1 vp0 vp1 po0 po1)
set_option maxRecDepth 65536 in
set_option maxHeartbeats 40000000 in
theorem rm_hput (l : Launch) (Z : State) (a0 : Array Value) (hw : ∀ d ∈ tables_1, d.before a0 Z = true) (ws : List Jvm.Cond) (hp : Addr) (en : Int32) (kq aF aO aW aK aB aA aI lo aE aP : Addr) (cK kK kE kP : ClassId) (sz en0 en1 po0 po1 : Int32) (h0 : Heap) (n0 : Nat) (O0 : Old Z n0 h0) (E_hp : Exa Z h0 hp cH) (F_hp_order : Fld Z h0 hp cH "order" "Lcom/example/leasewise/leasewise/IndexedHeap$Order;" (.ref lo)) (F_hp_entries : Fld Z h0 hp cH "entries" "[I" (.ref aE)) (F_hp_positions : Fld Z h0 hp cH "positions" "[I" (.ref aP)) (F_hp_size : Fld Z h0 hp cH "size" "I" (.int sz)) (E_kq : Exa Z h0 kq cQ) (F_kq_keys : Fld Z h0 kq cQ "keys" "[J" (.ref aK)) (MDc : Jvm.LamKit.Made Z cQ sgm cK) (V_aE : Arv Z h0 aE kE .int (2 : Int32) [(.int en0), (.int en1)] (.int (0 : Int32))) (V_aP : Arv Z h0 aP kP .int (2 : Int32) [(.int po0), (.int po1)] (.int (-1 : Int32))) (g_hp : n0 ≤ hp) (g_aE : n0 ≤ aE) (g_aP : n0 ≤ aP) (NDp : List.Nodup [kq, aF, aO, aW, aK, aB, aA, aI, hp, lo, aE, aP]) (HI0 : HI sz en0 en1 po0 po1) (he : I2 en) (hpk : g2 en po0 po1 = -1) (V_aK : Arp Z h0 aK kK .long (2 : Int32) PJ) (Y_lo : LamO h0 lo cK kq) :
    MetFree l (⟨cH, "put", "(I)V"⟩ : MethodName) (head1 (Jvm.Cond.code (⟨cH, "put", "(I)V"⟩ : MethodName) prog_35_method_6_code 3 none :: ws) ({ frames := 3, cells := 0, slots := 0, locals := 44 } : Room)) (fun a U => a = #[(.ref hp), (.int en)] ∧ Z.WarmedH U.vm ∧ U.heap = h0) (fun _ _ _ _ _ => True) (fun _ U o U' => ∃ v L, o = .returned v ∧ Q_rm_hput Z hp en kq aF aO aW aK aB aA aI lo aE aP cK kK kE kP sz en0 en1 po0 po1 h0 n0 v U'.heap L ∧ FrameEnd U o U' L ({ frames := 3, cells := 0, slots := 0, locals := 44 } : Room).cells ({ frames := 3, cells := 0, slots := 0, locals := 44 } : Room).slots) := by
  refine MetFree.of_bodySF (plainFor_of_name pn_1) hisR ?_
  intro p e s m args below meth c s₁ Bd hml0 hP hK
  obtain ⟨rfl, hZH, hh⟩ := hP
  have hZ := hZH.wide
  have hx := Bd.exec
  have hby := Bd.bytes
  have D := fun {pc : Nat} {r : Except ClassFile.DecodeError (ClassFile.Instr × Nat)} (q : decode prog_35_method_6_code pc = r) => hb (pc := pc) hby q
  have hml : c.maxLocals = 3 := hml0
  have hown : s.vm.findClass cH = some m.cls := findClass_of_methodNamed Bd.named
  have hnm := (name_of_methodNamed Bd.named Bd.method).1
  have X0 : Stand p l e ({ frames := 3, cells := 0, slots := 0, locals := 44 } : Room) s m #[(.ref hp), (.int en)] below meth c s₁ [] 0 0 := Stand.of_body Bd
  have e0 : s₁.heap = h0 := by rw [← hh, Bd.state]; rfl
  have N0 := Fr.nil n0
  have pre0 : ∀ t, Steps p.tables e below (s₁.setTop (mkF m 0 #[.val (.ref hp), .val (.int en), .unset] [])) t → Steps p.tables e below (s₁.setTop (entryFrame m #[(.ref hp), (.int en)] 3)) t := fun t k => castTop (ef_rm_hput m (hp) (en)) k
  have wd := fun {d : Jvm.Cond} (i : Nat) (h : tables_1[i]? = some d) => hw d (List.mem_of_getElem? h)
  obtain ⟨cq1, kq1, q1a, q1b, q1c⟩ := isOf hZ e0 E_hp
  obtain ⟨_, _, ⟨T1, L1, k1, n1⟩, -, X1, ⟨Lc1, hQ1, l1, y1, z1⟩, st1⟩ := X0.virtualBack hx (y := (⟨cH, "contains", "(I)Z"⟩ : MethodName)) (z := (⟨cH, "contains", "(I)Z"⟩ : MethodName)) hown (mvT hZ (wd 132 rfl)) (mvT hZ (wd 133 rfl)) (notFace_of_selects (args := #[]) (mvT hZ (wd 135 rfl))) (mvT hZ (wd 135 rfl)) (mvT hZ (wd 134 rfl)) (by decide) (own_backH (W := 0) (rm_hcontains l Z a0 hw [] hp en kq aF aO aW aK aB aA aI lo aE aP kP po0 po1 h0 n0 O0 E_hp F_hp_order F_hp_entries F_hp_positions V_aP he) hZH (wd 136 rfl) (wd 33 rfl) (by decide) (by decide)) q1a q1c (g := (mkF m 2 #[.val (.ref hp), .val (.int en), .unset] [(.int en), (.ref hp)])) rfl (by rw [hml]; rfl) (Steps.refl _) (argsL := [(.int en)]) (rest := []) (lenOf pd_2 rfl) rfl (by show 2 * 0 + _ ≤ _; exact Nat.le_of_eq rfl) (D d19_2) (fun _ _ => ⟨rfl, e0, (by decide : 0 + 0 ≤ _), (by decide : 0 + 0 ≤ _)⟩)
  dsimp only [Pt.U, Pt.locs, Pt.cells, Pt.slots] at X1 l1 y1 z1 st1 hQ1
  subst l1 y1 z1
  obtain ⟨rfl, N1q, e1⟩ := hQ1
  have N1 := Fr.app N0 N1q
  obtain ⟨T2, X2, e2, st2⟩ := getF X1 hx hZ hown (host := "") (Or.inl (wd 44 rfl)) Via.refl e1 F_hp_entries (g := (mkF m 26 #[.val (.ref hp), .val (.int en), .unset] [(.ref hp)])) rfl rfl (D d19_26)
  obtain ⟨T3, X3, e3, st3⟩ := getF X2 hx hZ hown (host := "") (Or.inl (wd 63 rfl)) Via.refl e2 F_hp_size (g := (mkF m 30 #[.val (.ref hp), .val (.int en), .unset] [(.ref hp), (.ref aE)])) rfl rfl (D d19_30)
  obtain ⟨cl4, Ar4, q4, S4, Nn4, H4, G4⟩ := id V_aE
  have hin4 : ¬ (sz < 0 ∨ cl4.slots.size ≤ (sz).toNatClampNeg) := inb_of S4 (own_in2 (hi_put HI0 he hpk).2.1)
  obtain ⟨T4, h4, X4, e4, W4, st4⟩ := stI X3 hx hZ e3 Ar4 (j := sz) hin4 (g := (mkF m 34 #[.val (.ref hp), .val (.int en), .unset] [(.int en), (.int sz), (.ref aE)])) rfl rfl (D d19_34)
  have V4 : Arv Z h4 aE kE .int (2 : Int32) [(.int (s2 sz 0 en en0)), (.int (s2 sz 1 en en1))] (.int (0 : Int32)) := own_set2I (w := en) Ar4 q4 S4 Nn4 H4 G4 rfl W4 (hi_put HI0 he hpk).2.1
  have N4 := Fr.snoc X4 N1 g_aE
  have Zn4 : n0 ≤ h4.size := Nat.le_trans (own_oldsz O0) (Keep.of_wr W4).1
  have K4 : Keep h0 h4 [hp, aE, aP] := (Keep.refl h0 [hp, aE, aP]).wr W4 (Or.inl (List.mem_of_getElem? (i := 1) rfl))
  have O4 := O0.wr W4 g_aE
  have f5 := (F_hp_positions.other W4 (Or.inl (ne8_10 NDp)))
  obtain ⟨T6, X6, e6, st6⟩ := getF X4 hx hZ hown (host := "") (Or.inl (wd 46 rfl)) Via.refl e4 f5 (g := (mkF m 36 #[.val (.ref hp), .val (.int en), .unset] [(.ref hp)])) rfl rfl (D d19_36)
  have f7 := (F_hp_size.other W4 (Or.inl (ne8_10 NDp)))
  obtain ⟨T8, X8, e8, st8⟩ := getF X6 hx hZ hown (host := "") (Or.inl (wd 63 rfl)) Via.refl e6 f7 (g := (mkF m 41 #[.val (.ref hp), .val (.int en), .unset] [(.ref hp), (.int en), (.ref aP)])) rfl rfl (D d19_41)
  have f10 := (V_aP.other W4 (ne11_10 NDp))
  obtain ⟨cl9, Ar9, q9, S9, Nn9, H9, G9⟩ := id f10
  have hin9 : ¬ (en < 0 ∨ cl9.slots.size ≤ (en).toNatClampNeg) := inb_of S9 (own_in2 he)
  obtain ⟨T9, h9, X9, e9, W9, st9⟩ := stI X8 hx hZ e8 Ar9 (j := en) hin9 (g := (mkF m 44 #[.val (.ref hp), .val (.int en), .unset] [(.int sz), (.int en), (.ref aP)])) rfl rfl (D d19_44)
  have V9 : Arv Z h9 aP kP .int (2 : Int32) [(.int (s2 en 0 sz po0)), (.int (s2 en 1 sz po1))] (.int (-1 : Int32)) := own_set2I (w := sz) Ar9 q9 S9 Nn9 H9 G9 rfl W9 he
  have N9 := Fr.snoc X9 N4 g_aP
  have Zn9 : n0 ≤ h9.size := Nat.le_trans Zn4 (Keep.of_wr W9).1
  have K9 : Keep h0 h9 [hp, aE, aP] := K4.wr W9 (Or.inl (List.mem_of_getElem? (i := 2) rfl))
  have O9 := O4.wr W9 g_aP
  have f11 := (f7.other W9 (Or.inl (ne8_11 NDp)))
  obtain ⟨T12, X12, e12, st12⟩ := getF X9 hx hZ hown (host := "") (Or.inl (wd 63 rfl)) Via.refl e9 f11 (g := (mkF m 47 #[.val (.ref hp), .val (.int en), .unset] [(.ref hp), (.ref hp)])) rfl rfl (D d19_47)
  have f14 := ((E_hp.wr W4).wr W9)
  obtain ⟨T13, h13, X13, e13, W13, st13⟩ := putF X12 hx hZ hown (host := "") (Or.inl (wd 63 rfl)) Via.refl e12 f11 f14 (Or.inl (wd 64 rfl)) (wd 32 rfl) (ty := .int) (by decide) rfl rfl (g := (mkF m 52 #[.val (.ref hp), .val (.int en), .unset] [(.int (sz + (1 : Int32))), (.ref hp)])) rfl rfl (D d19_52)
  have Fw13 : Fld Z h13 hp cH "size" "I" (.int (sz + (1 : Int32))) := Fld.same W13 f11
  have N13 := Fr.snoc X13 N9 g_hp
  have Zn13 : n0 ≤ h13.size := Nat.le_trans Zn9 (Keep.of_wr W13).1
  have K13 : Keep h0 h13 [hp, aE, aP] := K9.wr W13 (Or.inl (List.mem_of_getElem? (i := 0) rfl))
  have O13 := O9.wr W13 g_hp
  obtain ⟨T15, X15, e15, st15⟩ := getF X13 hx hZ hown (host := "") (Or.inl (wd 63 rfl)) Via.refl e13 Fw13 (g := (mkF m 57 #[.val (.ref hp), .val (.int en), .unset] [(.ref hp), (.ref hp)])) rfl rfl (D d19_57)
  have f16 := (((V_aK.other W4 (ne4_10 NDp)).other W9 (ne4_11 NDp)).other W13 (ne4_8 NDp))
  have f17 := (((Y_lo.other W4 (ne9_10 NDp)).other W9 (ne9_11 NDp)).other W13 (ne9_8 NDp))
  have f18 := (f14.wr W13)
  have f19 := (((F_hp_order.other W4 (Or.inl (ne8_10 NDp))).other W9 (Or.inl (ne8_11 NDp))).other W13 (Or.inr (slot_ne (Or.inr (wd 43 rfl)) (Or.inl (wd 64 rfl)) (by decide) (t := (.object "com/example/leasewise/leasewise/IndexedHeap$Order")) (t' := .int) (by decide) (by decide))))
  have f20 := (((F_hp_entries.other W4 (Or.inl (ne8_10 NDp))).other W9 (Or.inl (ne8_11 NDp))).other W13 (Or.inr (slot_ne (Or.inr (wd 45 rfl)) (Or.inl (wd 64 rfl)) (by decide) (t := (.array .int)) (t' := .int) (by decide) (by decide))))
  have f21 := ((f5.other W9 (Or.inl (ne8_11 NDp))).other W13 (Or.inr (slot_ne (Or.inr (wd 47 rfl)) (Or.inl (wd 64 rfl)) (by decide) (t := (.array .int)) (t' := .int) (by decide) (by decide))))
  have f22 := (((E_kq.wr W4).wr W9).wr W13)
  have f23 := (((F_kq_keys.other W4 (Or.inl (ne0_10 NDp))).other W9 (Or.inl (ne0_11 NDp))).other W13 (Or.inl (ne0_8 NDp)))
  have f24 := ((V4.other W9 (ne10_11 NDp)).other W13 (ne10_8 NDp))
  have f25 := (V9.other W13 (ne11_8 NDp))
  obtain ⟨cq26, q26, q26'⟩ := f18.cell
  obtain ⟨_, _, ⟨T26, L26, k26, n26⟩, -, X26, ⟨Lc26, hQ26, l26, y26, z26⟩, st26⟩ := X15.privateBack hx (y := (⟨cH, "siftUp", "(I)I"⟩ : MethodName)) hown (mvT hZ (wd 137 rfl)) (mvT hZ (wd 138 rfl)) (own_selpriv (y := (⟨cH, "siftUp", "(I)I"⟩ : MethodName)) (mvT hZ (wd 61 rfl)) rfl (Cond.privateMethod_at (mvP hZ (wd 139 rfl) (args := #[]))) (mvT hZ (wd 138 rfl)) (by decide)) (Cond.privateMethod_at (mvP hZ (wd 139 rfl) (args := #[]))) (mvT hZ (wd 140 rfl)) (by decide) (own_backH (W := 0) (rm_up l Z a0 hw [] hp ((sz + (1 : Int32)) - (1 : Int32)) kq aF aO aW aK aB aA aI lo aE aP cK kK kE kP (sz + (1 : Int32)) (s2 sz 0 en en0) (s2 sz 1 en en1) (s2 en 0 sz po0) (s2 en 1 sz po1) h13 n0 O13 f18 f19 f20 f21 Fw13 f22 f23 MDc f24 f25 g_aE g_aP NDp ((hi_put HI0 he hpk).1) ((own_putup HI0 he hpk).1) ((own_putup HI0 he hpk).2) f16 f17) hZH (wd 140 rfl) (wd 33 rfl) (by decide) (by decide)) (g := (mkF m 62 #[.val (.ref hp), .val (.int en), .unset] [(.int ((sz + (1 : Int32)) - (1 : Int32))), (.ref hp)])) rfl (by rw [hml]; rfl) (Steps.refl _) (a := hp) (by rw [e15]; exact q26) q26' (argsL := [(.int ((sz + (1 : Int32)) - (1 : Int32)))]) (rest := []) (lenOf pd_3 rfl) rfl (by show 2 * 0 + _ ≤ _; exact Nat.le_of_eq rfl) (D d19_62) (fun _ _ => ⟨rfl, e15, (by decide : 0 + 0 ≤ _), (by decide : 0 + 0 ≤ _)⟩)
  dsimp only [Pt.U, Pt.locs, Pt.cells, Pt.slots] at X26 l26 y26 z26 st26 hQ26
  subst l26 y26 z26
  obtain ⟨ve0_26, ve1_26, vp0_26, vp1_26, r__26, rfl, N26q, K26, Q26_0, Q26_1, Q26_2, Q26_3⟩ := hQ26
  have O26 := O13.keep K26 (allS g_aE (allS g_aP all0))
  have KK26 : Keep h0 T26.heap [hp, aE, aP] := K13.trans K26 (allS (own_mem 1 rfl) (allS (own_mem 2 rfl) all0))
  have N26 := Fr.app N13 N26q
  have f27 := (f19.keep K26 (nn3 NDp))
  have f28 := (f20.keep K26 (nn3 NDp))
  have f29 := (f21.keep K26 (nn3 NDp))
  have f30 := (Fw13.keep K26 (nn3 NDp))
  obtain ⟨fs, hr, hrun, hended, hW, hsame⟩ := X26.leave (v := none) (fun _ => rfl)
  refine ⟨_, _, pre0 _ ?_, hrun, hended, _, _, rfl, ?_, ⟨_, rfl⟩, hW, hsame.mono (by decide) (by decide)⟩
  · refine s_aloadN X0 hx (D d19_0) rfl rfl ?_
    refine s_iloadN X0 hx (D d19_1) rfl ?_
    refine st1.trans ?_
    refine s_ifYes X1 hx 25 (D d19_5) ((if0 _ _).trans (teq (by rw [if_pos hpk] : (if g2 en po0 po1 = (-1 : Int32) then (0 : Int32) else (1 : Int32)) = (0 : Int32))).1) (of_decide_eq_true rfl) rfl ?_
    refine s_aloadN X1 hx (D d19_25) rfl rfl ?_
    refine st2 _ ?_
    refine s_aloadN X2 hx (D d19_29) rfl rfl ?_
    refine st3 _ ?_
    refine s_iloadN X3 hx (D d19_33) rfl ?_
    refine st4 _ ?_
    refine s_aloadN X4 hx (D d19_35) rfl rfl ?_
    refine st6 _ ?_
    refine s_iloadN X6 hx (D d19_39) rfl ?_
    refine s_aloadN X6 hx (D d19_40) rfl rfl ?_
    refine st8 _ ?_
    refine st9 _ ?_
    refine s_aloadN X9 hx (D d19_45) rfl rfl ?_
    refine s_dup X9 hx (D d19_46) rfl ?_
    refine st12 _ ?_
    refine s_iconst X12 hx (1 : Int32) (D d19_50) rfl ?_
    refine s_iadd X12 hx (D d19_51) rfl ?_
    refine st13 _ ?_
    refine s_aloadN X13 hx (D d19_55) rfl rfl ?_
    refine s_aloadN X13 hx (D d19_56) rfl rfl ?_
    refine st15 _ ?_
    refine s_iconst X15 hx (1 : Int32) (D d19_60) rfl ?_
    refine s_isub X15 hx (D d19_61) rfl ?_
    refine st26.trans ?_
    refine s_pop X26 hx (D d19_65) rfl ?_
    exact X26.returnOut hx Bd.returns (D d19_66) hr
  · show Q_rm_hput Z hp en kq aF aO aW aK aB aA aI lo aE aP cK kK kE kP sz en0 en1 po0 po1 h0 n0 _ T26.heap _
    exact ⟨ve0_26, ve1_26, vp0_26, vp1_26, (sz + (1 : Int32)), rfl, N26, KK26, f27, f28, f29, f30, Q26_0, Q26_1, (own_hput HI0 he hpk Q26_2)⟩
theorem own_dn {r n : Int32} (h : I2 r ∧ r < n) (h3 : n = 1) : DNp r n := by
  subst h3
  rcases h.1 with rfl | rfl
  · exact ⟨rfl, rfl⟩
  · exact absurd h.2 (by decide)
theorem d9_0 : decode prog_35_method_7_code 0 = .ok (.aload_n 0, 1) := by decide +kernel
theorem d9_1 : decode prog_35_method_7_code 1 = .ok (.getfield 17, 3) := by decide +kernel
theorem d9_4 : decode prog_35_method_7_code 4 = .ok (.iload_n 1, 1) := by decide +kernel
theorem d9_5 : decode prog_35_method_7_code 5 = .ok (.iaload, 1) := by decide +kernel
theorem d9_6 : decode prog_35_method_7_code 6 = .ok (.istore_n 2, 1) := by decide +kernel
theorem d9_7 : decode prog_35_method_7_code 7 = .ok (.iload_n 2, 1) := by decide +kernel
theorem d9_8 : decode prog_35_method_7_code 8 = .ok (.iconst (-1), 1) := by decide +kernel
theorem d9_9 : decode prog_35_method_7_code 9 = .ok (.if_icmp .ne 4, 3) := by decide +kernel
theorem d9_12 : decode prog_35_method_7_code 12 = .ok (.return_, 1) := by decide +kernel
theorem d9_13 : decode prog_35_method_7_code 13 = .ok (.aload_n 0, 1) := by decide +kernel
theorem d9_14 : decode prog_35_method_7_code 14 = .ok (.dup, 1) := by decide +kernel
theorem d9_15 : decode prog_35_method_7_code 15 = .ok (.getfield 26, 3) := by decide +kernel
theorem d9_18 : decode prog_35_method_7_code 18 = .ok (.iconst 1, 1) := by decide +kernel
theorem d9_19 : decode prog_35_method_7_code 19 = .ok (.isub, 1) := by decide +kernel
theorem d9_20 : decode prog_35_method_7_code 20 = .ok (.putfield 26, 3) := by decide +kernel
theorem d9_23 : decode prog_35_method_7_code 23 = .ok (.aload_n 0, 1) := by decide +kernel
theorem d9_24 : decode prog_35_method_7_code 24 = .ok (.getfield 17, 3) := by decide +kernel
theorem d9_27 : decode prog_35_method_7_code 27 = .ok (.iload_n 1, 1) := by decide +kernel
theorem d9_28 : decode prog_35_method_7_code 28 = .ok (.iconst (-1), 1) := by decide +kernel
theorem d9_29 : decode prog_35_method_7_code 29 = .ok (.iastore, 1) := by decide +kernel
theorem d9_30 : decode prog_35_method_7_code 30 = .ok (.iload_n 2, 1) := by decide +kernel
theorem d9_31 : decode prog_35_method_7_code 31 = .ok (.aload_n 0, 1) := by decide +kernel
theorem d9_32 : decode prog_35_method_7_code 32 = .ok (.getfield 26, 3) := by decide +kernel
theorem d9_35 : decode prog_35_method_7_code 35 = .ok (.if_icmp .ne 4, 3) := by decide +kernel
theorem d9_38 : decode prog_35_method_7_code 38 = .ok (.return_, 1) := by decide +kernel
theorem d9_39 : decode prog_35_method_7_code 39 = .ok (.aload_n 0, 1) := by decide +kernel
theorem d9_40 : decode prog_35_method_7_code 40 = .ok (.getfield 13, 3) := by decide +kernel
theorem d9_43 : decode prog_35_method_7_code 43 = .ok (.aload_n 0, 1) := by decide +kernel
theorem d9_44 : decode prog_35_method_7_code 44 = .ok (.getfield 26, 3) := by decide +kernel
theorem d9_47 : decode prog_35_method_7_code 47 = .ok (.iaload, 1) := by decide +kernel
theorem d9_48 : decode prog_35_method_7_code 48 = .ok (.istore_n 3, 1) := by decide +kernel
theorem d9_49 : decode prog_35_method_7_code 49 = .ok (.aload_n 0, 1) := by decide +kernel
theorem d9_50 : decode prog_35_method_7_code 50 = .ok (.getfield 13, 3) := by decide +kernel
theorem d9_53 : decode prog_35_method_7_code 53 = .ok (.iload_n 2, 1) := by decide +kernel
theorem d9_54 : decode prog_35_method_7_code 54 = .ok (.iload_n 3, 1) := by decide +kernel
theorem d9_55 : decode prog_35_method_7_code 55 = .ok (.iastore, 1) := by decide +kernel
theorem d9_56 : decode prog_35_method_7_code 56 = .ok (.aload_n 0, 1) := by decide +kernel
theorem d9_57 : decode prog_35_method_7_code 57 = .ok (.getfield 17, 3) := by decide +kernel
theorem d9_60 : decode prog_35_method_7_code 60 = .ok (.iload_n 3, 1) := by decide +kernel
theorem d9_61 : decode prog_35_method_7_code 61 = .ok (.iload_n 2, 1) := by decide +kernel
theorem d9_62 : decode prog_35_method_7_code 62 = .ok (.iastore, 1) := by decide +kernel
theorem d9_63 : decode prog_35_method_7_code 63 = .ok (.aload_n 0, 1) := by decide +kernel
theorem d9_64 : decode prog_35_method_7_code 64 = .ok (.aload_n 0, 1) := by decide +kernel
theorem d9_65 : decode prog_35_method_7_code 65 = .ok (.iload_n 2, 1) := by decide +kernel
theorem d9_66 : decode prog_35_method_7_code 66 = .ok (.invokevirtual 49, 3) := by decide +kernel
theorem d9_69 : decode prog_35_method_7_code 69 = .ok (.invokevirtual 53, 3) := by decide +kernel
theorem d9_72 : decode prog_35_method_7_code 72 = .ok (.return_, 1) := by decide +kernel
theorem nn16 {kq aF aO aW aK aB aA aI hp lo aE aP : Addr} (h : List.Nodup [kq, aF, aO, aW, aK, aB, aA, aI, hp, lo, aE, aP]) : aK ∉ [aE, aP] := own_nin h 4 [10, 11] rfl rfl (by decide)
theorem nn17 {kq aF aO aW aK aB aA aI hp lo aE aP : Addr} (h : List.Nodup [kq, aF, aO, aW, aK, aB, aA, aI, hp, lo, aE, aP]) : lo ∉ [aE, aP] := own_nin h 9 [10, 11] rfl rfl (by decide)
theorem nn18 {kq aF aO aW aK aB aA aI hp lo aE aP : Addr} (h : List.Nodup [kq, aF, aO, aW, aK, aB, aA, aI, hp, lo, aE, aP]) : kq ∉ [aE, aP] := own_nin h 0 [10, 11] rfl rfl (by decide)
theorem pd_4 : parseMethodDescriptor "(I)V" = some ⟨[.int], none⟩ := by decide +kernel
theorem ef_rm_hremove (m : MethodId) (x0 : Addr) (x1 : Int32) : entryFrame m #[(.ref x0), (.int x1)] 4 = mkF m 0 #[.val (.ref x0), .val (.int x1), .unset, .unset] [] := by first | (simp [entryFrame, mkF, argsToLocals, Value.category]; done) | rfl
def Q_rm_hremove (Z : State) (hp : Addr) (en : Int32) (kq aF aO aW aK aB aA aI lo aE aP : Addr) (cK kK kE kP : ClassId) (sz en0 en1 po0 po1 : Int32) (h0 : Heap) (n0 : Nat) (v : Option Value) (h : Heap) (L : List Loc) : Prop := ∃ (ve0 : Int32) (ve1 : Int32) (vp0 : Int32) (vp1 : Int32) (vz_ : Int32), v = none ∧ Fr n0 L ∧ Keep h0 h [hp, aE, aP] ∧ Fld Z h hp cH "order" "Lcom/example/leasewise/leasewise/IndexedHeap$Order;" (.ref lo) ∧ Fld Z h hp cH "entries" "[I" (.ref aE) ∧ Fld Z h hp cH "positions" "[I" (.ref aP) ∧ Fld Z h hp cH "size" "I" (.int vz_) ∧ Arv Z h aE kE .int (2 : Int32) [(.int ve0), (.int ve1)] (.int (0 : Int32)) ∧ Arv Z h aP kP .int (2 : Int32) [(.int vp0), (.int vp1)] (.int (-1 : Int32)) ∧ (HRem en vz_ ve0 ve1 vp0 vp1 po0 po1) ∧ ((g2 en po0 po1 = -1 → vz_ = sz) ∧ (¬ g2 en po0 po1 = -1 → vz_ = sz - 1))
set_option maxRecDepth 65536 in
set_option maxHeartbeats 40000000 in
theorem rm_hremove (l : Launch) (Z : State) (a0 : Array Value) (hw : ∀ d ∈ tables_1, d.before a0 Z = true) (ws : List Jvm.Cond) (hp : Addr) (en : Int32) (kq aF aO aW aK aB aA aI lo aE aP : Addr) (cK kK kE kP : ClassId) (sz en0 en1 po0 po1 : Int32) (h0 : Heap) (n0 : Nat) (O0 : Old Z n0 h0) (E_hp : Exa Z h0 hp cH) (F_hp_order : Fld Z h0 hp cH "order" "Lcom/example/leasewise/leasewise/IndexedHeap$Order;" (.ref lo)) (F_hp_entries : Fld Z h0 hp cH "entries" "[I" (.ref aE)) (F_hp_positions : Fld Z h0 hp cH "positions" "[I" (.ref aP)) (F_hp_size : Fld Z h0 hp cH "size" "I" (.int sz)) (E_kq : Exa Z h0 kq cQ) (F_kq_keys : Fld Z h0 kq cQ "keys" "[J" (.ref aK)) (MDc : Jvm.LamKit.Made Z cQ sgm cK) (V_aE : Arv Z h0 aE kE .int (2 : Int32) [(.int en0), (.int en1)] (.int (0 : Int32))) (V_aP : Arv Z h0 aP kP .int (2 : Int32) [(.int po0), (.int po1)] (.int (-1 : Int32))) (g_hp : n0 ≤ hp) (g_aE : n0 ≤ aE) (g_aP : n0 ≤ aP) (NDp : List.Nodup [kq, aF, aO, aW, aK, aB, aA, aI, hp, lo, aE, aP]) (HI0 : HI sz en0 en1 po0 po1) (he : I2 en) (V_aK : Arp Z h0 aK kK .long (2 : Int32) PJ) (Y_lo : LamO h0 lo cK kq) :
    MetFree l (⟨cH, "remove", "(I)V"⟩ : MethodName) (head1 (Jvm.Cond.code (⟨cH, "remove", "(I)V"⟩ : MethodName) prog_35_method_7_code 4 none :: ws) ({ frames := 3, cells := 0, slots := 0, locals := 45 } : Room)) (fun a U => a = #[(.ref hp), (.int en)] ∧ Z.WarmedH U.vm ∧ U.heap = h0) (fun _ _ _ _ _ => True) (fun _ U o U' => ∃ v L, o = .returned v ∧ Q_rm_hremove Z hp en kq aF aO aW aK aB aA aI lo aE aP cK kK kE kP sz en0 en1 po0 po1 h0 n0 v U'.heap L ∧ FrameEnd U o U' L ({ frames := 3, cells := 0, slots := 0, locals := 45 } : Room).cells ({ frames := 3, cells := 0, slots := 0, locals := 45 } : Room).slots) := by
  refine MetFree.of_bodySF (plainFor_of_name pn_1) hisR ?_
  intro p e s m args below meth c s₁ Bd hml0 hP hK
  obtain ⟨rfl, hZH, hh⟩ := hP
  have hZ := hZH.wide
  have hx := Bd.exec
  have hby := Bd.bytes
  have D := fun {pc : Nat} {r : Except ClassFile.DecodeError (ClassFile.Instr × Nat)} (q : decode prog_35_method_7_code pc = r) => hb (pc := pc) hby q
  have hml : c.maxLocals = 4 := hml0
  have hown : s.vm.findClass cH = some m.cls := findClass_of_methodNamed Bd.named
  have hnm := (name_of_methodNamed Bd.named Bd.method).1
  have X0 : Stand p l e ({ frames := 3, cells := 0, slots := 0, locals := 45 } : Room) s m #[(.ref hp), (.int en)] below meth c s₁ [] 0 0 := Stand.of_body Bd
  have e0 : s₁.heap = h0 := by rw [← hh, Bd.state]; rfl
  have N0 := Fr.nil n0
  have pre0 : ∀ t, Steps p.tables e below (s₁.setTop (mkF m 0 #[.val (.ref hp), .val (.int en), .unset, .unset] [])) t → Steps p.tables e below (s₁.setTop (entryFrame m #[(.ref hp), (.int en)] 4)) t := fun t k => castTop (ef_rm_hremove m (hp) (en)) k
  have wd := fun {d : Jvm.Cond} (i : Nat) (h : tables_1[i]? = some d) => hw d (List.mem_of_getElem? h)
  obtain ⟨T1, X1, e1, st1⟩ := getF X0 hx hZ hown (host := "") (Or.inl (wd 46 rfl)) Via.refl e0 F_hp_positions (g := (mkF m 1 #[.val (.ref hp), .val (.int en), .unset, .unset] [(.ref hp)])) rfl rfl (D d9_1)
  obtain ⟨cl2, Ar2, q2, S2, Nn2, H2, G2⟩ := id V_aP
  have hin2 : ¬ (en < 0 ∨ cl2.slots.size ≤ (en).toNatClampNeg) := inb_of S2 (own_in2 he)
  obtain ⟨y2, hy2⟩ : ∃ y, y = g2 en po0 po1 := ⟨_, rfl⟩
  have hat2 := own_get2I H2 hin2 he hy2
  have cs3 : Steps p.tables e below (s₁.setTop (mkF m 0 #[.val (.ref hp), .val (.int en), .unset, .unset] [])) (T1.setTop (mkF m 9 #[.val (.ref hp), .val (.int en), .val (.int y2), .unset] [(.int (-1 : Int32)), (.int y2)])) := (by
    refine s_aloadN X0 hx (D d9_0) rfl rfl ?_
    refine st1 _ ?_
    refine s_iloadN X1 hx (D d9_4) rfl ?_
    refine X1.iaload hx (j := en) (v := (.int y2)) (by rw [e1]; exact (Ar2).1) (State.isArrayOf_alike hZ.alike (Ar2).2.1) (Ar2).2.2 hin2 hat2 (g := (mkF m 5 #[.val (.ref hp), .val (.int en), .unset, .unset] [(.int en), (.ref aP)])) rfl rfl (D d9_5) _ ?_
    refine s_istoreN X1 hx (D d9_6) (l' := #[.val (.ref hp), .val (.int en), .val (.int y2), .unset]) rfl ?_
    refine s_iloadN X1 hx (D d9_7) rfl ?_
    refine s_iconst X1 hx (-1 : Int32) (D d9_8) rfl ?_
    exact Steps.refl _)
  by_cases hc4 : y2 = (-1 : Int32)
  · obtain ⟨fs, hr, hrun, hended, hW, hsame⟩ := X1.leave (v := none) (fun _ => rfl)
    refine ⟨_, _, pre0 _ ?_, hrun, hended, _, _, rfl, ?_, ⟨_, rfl⟩, hW, hsame.mono (by decide) (by decide)⟩
    · refine cs3.trans ?_
      refine s_icmpNo X1 hx (D d9_9) (teq hc4).2 ?_
      exact X1.returnOut hx Bd.returns (D d9_12) hr
    · show Q_rm_hremove Z hp en kq aF aO aW aK aB aA aI lo aE aP cK kK kE kP sz en0 en1 po0 po1 h0 n0 _ T1.heap _
      rw [e1]
      exact ⟨en0, en1, po0, po1, sz, rfl, N0, (Keep.refl h0 [hp, aE, aP]), F_hp_order, F_hp_entries, F_hp_positions, F_hp_size, V_aE, V_aP, (own_rn HI0 hy2 hc4), ⟨fun _ => rfl, fun z => absurd (hy2.symm.trans hc4) z⟩⟩
  · obtain ⟨T5, X5, e5, st5⟩ := getF X1 hx hZ hown (host := "") (Or.inl (wd 63 rfl)) Via.refl e1 F_hp_size (g := (mkF m 15 #[.val (.ref hp), .val (.int en), .val (.int y2), .unset] [(.ref hp), (.ref hp)])) rfl rfl (D d9_15)
    obtain ⟨T6, h6, X6, e6, W6, st6⟩ := putF X5 hx hZ hown (host := "") (Or.inl (wd 63 rfl)) Via.refl e5 F_hp_size E_hp (Or.inl (wd 64 rfl)) (wd 32 rfl) (ty := .int) (by decide) rfl rfl (g := (mkF m 20 #[.val (.ref hp), .val (.int en), .val (.int y2), .unset] [(.int (sz - (1 : Int32))), (.ref hp)])) rfl rfl (D d9_20)
    have Fw6 : Fld Z h6 hp cH "size" "I" (.int (sz - (1 : Int32))) := Fld.same W6 F_hp_size
    have N6 := Fr.snoc X6 N0 g_hp
    have Zn6 : n0 ≤ h6.size := Nat.le_trans (own_oldsz O0) (Keep.of_wr W6).1
    have K6 : Keep h0 h6 [hp, aE, aP] := (Keep.refl h0 [hp, aE, aP]).wr W6 (Or.inl (List.mem_of_getElem? (i := 0) rfl))
    have O6 := O0.wr W6 g_hp
    have f7 := (F_hp_positions.other W6 (Or.inr (slot_ne (Or.inr (wd 47 rfl)) (Or.inl (wd 64 rfl)) (by decide) (t := (.array .int)) (t' := .int) (by decide) (by decide))))
    obtain ⟨T8, X8, e8, st8⟩ := getF X6 hx hZ hown (host := "") (Or.inl (wd 46 rfl)) Via.refl e6 f7 (g := (mkF m 24 #[.val (.ref hp), .val (.int en), .val (.int y2), .unset] [(.ref hp)])) rfl rfl (D d9_24)
    have f10 := (V_aP.other W6 (ne11_8 NDp))
    obtain ⟨cl9, Ar9, q9, S9, Nn9, H9, G9⟩ := id f10
    have hin9 : ¬ (en < 0 ∨ cl9.slots.size ≤ (en).toNatClampNeg) := inb_of S9 (own_in2 he)
    obtain ⟨T9, h9, X9, e9, W9, st9⟩ := stI X8 hx hZ e8 Ar9 (j := en) hin9 (g := (mkF m 29 #[.val (.ref hp), .val (.int en), .val (.int y2), .unset] [(.int (-1 : Int32)), (.int en), (.ref aP)])) rfl rfl (D d9_29)
    have V9 : Arv Z h9 aP kP .int (2 : Int32) [(.int (s2 en 0 (-1 : Int32) po0)), (.int (s2 en 1 (-1 : Int32) po1))] (.int (-1 : Int32)) := own_set2I (w := (-1 : Int32)) Ar9 q9 S9 Nn9 H9 G9 rfl W9 he
    have N9 := Fr.snoc X9 N6 g_aP
    have Zn9 : n0 ≤ h9.size := Nat.le_trans Zn6 (Keep.of_wr W9).1
    have K9 : Keep h0 h9 [hp, aE, aP] := K6.wr W9 (Or.inl (List.mem_of_getElem? (i := 2) rfl))
    have O9 := O6.wr W9 g_aP
    have f11 := (Fw6.other W9 (Or.inl (ne8_11 NDp)))
    obtain ⟨T12, X12, e12, st12⟩ := getF X9 hx hZ hown (host := "") (Or.inl (wd 63 rfl)) Via.refl e9 f11 (g := (mkF m 32 #[.val (.ref hp), .val (.int en), .val (.int y2), .unset] [(.ref hp), (.int y2)])) rfl rfl (D d9_32)
    have cs13 : Steps p.tables e below (s₁.setTop (mkF m 0 #[.val (.ref hp), .val (.int en), .unset, .unset] [])) (T12.setTop (mkF m 35 #[.val (.ref hp), .val (.int en), .val (.int y2), .unset] [(.int (sz - (1 : Int32))), (.int y2)])) := cs3.trans (by
      refine s_icmpYes X1 hx 13 (D d9_9) (feq hc4).2 (of_decide_eq_true rfl) rfl ?_
      refine s_aloadN X1 hx (D d9_13) rfl rfl ?_
      refine s_dup X1 hx (D d9_14) rfl ?_
      refine st5 _ ?_
      refine s_iconst X5 hx (1 : Int32) (D d9_18) rfl ?_
      refine s_isub X5 hx (D d9_19) rfl ?_
      refine st6 _ ?_
      refine s_aloadN X6 hx (D d9_23) rfl rfl ?_
      refine st8 _ ?_
      refine s_iloadN X8 hx (D d9_27) rfl ?_
      refine s_iconst X8 hx (-1 : Int32) (D d9_28) rfl ?_
      refine st9 _ ?_
      refine s_iloadN X9 hx (D d9_30) rfl ?_
      refine s_aloadN X9 hx (D d9_31) rfl rfl ?_
      refine st12 _ ?_
      exact Steps.refl _)
    by_cases hc14 : y2 = (sz - (1 : Int32))
    · have f15 := ((F_hp_order.other W6 (Or.inr (slot_ne (Or.inr (wd 43 rfl)) (Or.inl (wd 64 rfl)) (by decide) (t := (.object "com/example/leasewise/leasewise/IndexedHeap$Order")) (t' := .int) (by decide) (by decide)))).other W9 (Or.inl (ne8_11 NDp)))
      have f16 := ((F_hp_entries.other W6 (Or.inr (slot_ne (Or.inr (wd 45 rfl)) (Or.inl (wd 64 rfl)) (by decide) (t := (.array .int)) (t' := .int) (by decide) (by decide)))).other W9 (Or.inl (ne8_11 NDp)))
      have f17 := (f7.other W9 (Or.inl (ne8_11 NDp)))
      have f18 := ((V_aE.other W6 (ne10_8 NDp)).other W9 (ne10_11 NDp))
      obtain ⟨fs, hr, hrun, hended, hW, hsame⟩ := X12.leave (v := none) (fun _ => rfl)
      refine ⟨_, _, pre0 _ ?_, hrun, hended, _, _, rfl, ?_, ⟨_, rfl⟩, hW, hsame.mono (by decide) (by decide)⟩
      · refine cs13.trans ?_
        refine s_icmpNo X12 hx (D d9_35) (teq hc14).2 ?_
        exact X12.returnOut hx Bd.returns (D d9_38) hr
      · show Q_rm_hremove Z hp en kq aF aO aW aK aB aA aI lo aE aP cK kK kE kP sz en0 en1 po0 po1 h0 n0 _ T12.heap _
        rw [e12]
        exact ⟨en0, en1, (s2 en 0 (-1 : Int32) po0), (s2 en 1 (-1 : Int32) po1), (sz - (1 : Int32)), rfl, N9, K9, f15, f16, f17, f11, f18, V9, (own_rl HI0 he hy2 hc4 hc14), ⟨fun z => absurd (hy2.trans z) hc4, fun _ => rfl⟩⟩
    · have f19 := ((F_hp_entries.other W6 (Or.inr (slot_ne (Or.inr (wd 45 rfl)) (Or.inl (wd 64 rfl)) (by decide) (t := (.array .int)) (t' := .int) (by decide) (by decide)))).other W9 (Or.inl (ne8_11 NDp)))
      obtain ⟨T20, X20, e20, st20⟩ := getF X12 hx hZ hown (host := "") (Or.inl (wd 44 rfl)) Via.refl e12 f19 (g := (mkF m 40 #[.val (.ref hp), .val (.int en), .val (.int y2), .unset] [(.ref hp)])) rfl rfl (D d9_40)
      obtain ⟨T21, X21, e21, st21⟩ := getF X20 hx hZ hown (host := "") (Or.inl (wd 63 rfl)) Via.refl e20 f11 (g := (mkF m 44 #[.val (.ref hp), .val (.int en), .val (.int y2), .unset] [(.ref hp), (.ref aE)])) rfl rfl (D d9_44)
      have f23 := ((V_aE.other W6 (ne10_8 NDp)).other W9 (ne10_11 NDp))
      obtain ⟨cl22, Ar22, q22, S22, Nn22, H22, G22⟩ := id f23
      have hin22 : ¬ ((sz - (1 : Int32)) < 0 ∨ cl22.slots.size ≤ ((sz - (1 : Int32))).toNatClampNeg) := inb_of S22 (own_in2 (own_rs HI0 he hy2 hc4))
      obtain ⟨y22, hy22⟩ : ∃ y, y = g2 (sz - (1 : Int32)) en0 en1 := ⟨_, rfl⟩
      have hat22 := own_get2I H22 hin22 (own_rs HI0 he hy2 hc4) hy22
      obtain ⟨T24, X24, e24, st24⟩ := getF X21 hx hZ hown (host := "") (Or.inl (wd 44 rfl)) Via.refl e21 f19 (g := (mkF m 50 #[.val (.ref hp), .val (.int en), .val (.int y2), .val (.int y22)] [(.ref hp)])) rfl rfl (D d9_50)
      obtain ⟨cl25, Ar25, q25, S25, Nn25, H25, G25⟩ := id f23
      have hin25 : ¬ (y2 < 0 ∨ cl25.slots.size ≤ (y2).toNatClampNeg) := inb_of S25 (own_in2 (own_rr HI0 he hy2 hc4 hc14 hy22).2.1.1)
      obtain ⟨T25, h25, X25, e25, W25, st25⟩ := stI X24 hx hZ e24 Ar25 (j := y2) hin25 (g := (mkF m 55 #[.val (.ref hp), .val (.int en), .val (.int y2), .val (.int y22)] [(.int y22), (.int y2), (.ref aE)])) rfl rfl (D d9_55)
      have V25 : Arv Z h25 aE kE .int (2 : Int32) [(.int (s2 y2 0 y22 en0)), (.int (s2 y2 1 y22 en1))] (.int (0 : Int32)) := own_set2I (w := y22) Ar25 q25 S25 Nn25 H25 G25 rfl W25 (own_rr HI0 he hy2 hc4 hc14 hy22).2.1.1
      have N25 := Fr.snoc X25 N9 g_aE
      have Zn25 : n0 ≤ h25.size := Nat.le_trans Zn9 (Keep.of_wr W25).1
      have K25 : Keep h0 h25 [hp, aE, aP] := K9.wr W25 (Or.inl (List.mem_of_getElem? (i := 1) rfl))
      have O25 := O9.wr W25 g_aE
      have f26 := ((f7.other W9 (Or.inl (ne8_11 NDp))).other W25 (Or.inl (ne8_10 NDp)))
      obtain ⟨T27, X27, e27, st27⟩ := getF X25 hx hZ hown (host := "") (Or.inl (wd 46 rfl)) Via.refl e25 f26 (g := (mkF m 57 #[.val (.ref hp), .val (.int en), .val (.int y2), .val (.int y22)] [(.ref hp)])) rfl rfl (D d9_57)
      have f29 := (V9.other W25 (ne11_10 NDp))
      obtain ⟨cl28, Ar28, q28, S28, Nn28, H28, G28⟩ := id f29
      have hin28 : ¬ (y22 < 0 ∨ cl28.slots.size ≤ (y22).toNatClampNeg) := inb_of S28 (own_in2 (own_rr HI0 he hy2 hc4 hc14 hy22).2.1.2.1)
      obtain ⟨T28, h28, X28, e28, W28, st28⟩ := stI X27 hx hZ e27 Ar28 (j := y22) hin28 (g := (mkF m 62 #[.val (.ref hp), .val (.int en), .val (.int y2), .val (.int y22)] [(.int y2), (.int y22), (.ref aP)])) rfl rfl (D d9_62)
      have V28 : Arv Z h28 aP kP .int (2 : Int32) [(.int (s2 y22 0 y2 (s2 en 0 (-1 : Int32) po0))), (.int (s2 y22 1 y2 (s2 en 1 (-1 : Int32) po1)))] (.int (-1 : Int32)) := own_set2I (w := y2) Ar28 q28 S28 Nn28 H28 G28 rfl W28 (own_rr HI0 he hy2 hc4 hc14 hy22).2.1.2.1
      have N28 := Fr.snoc X28 N25 g_aP
      have Zn28 : n0 ≤ h28.size := Nat.le_trans Zn25 (Keep.of_wr W28).1
      have K28 : Keep h0 h28 [hp, aE, aP] := K25.wr W28 (Or.inl (List.mem_of_getElem? (i := 2) rfl))
      have O28 := O25.wr W28 g_aP
      have f30 := ((((V_aK.other W6 (ne4_8 NDp)).other W9 (ne4_11 NDp)).other W25 (ne4_10 NDp)).other W28 (ne4_11 NDp))
      have f31 := ((((Y_lo.other W6 (ne9_8 NDp)).other W9 (ne9_11 NDp)).other W25 (ne9_10 NDp)).other W28 (ne9_11 NDp))
      have f32 := ((((E_hp.wr W6).wr W9).wr W25).wr W28)
      have f33 := ((((F_hp_order.other W6 (Or.inr (slot_ne (Or.inr (wd 43 rfl)) (Or.inl (wd 64 rfl)) (by decide) (t := (.object "com/example/leasewise/leasewise/IndexedHeap$Order")) (t' := .int) (by decide) (by decide)))).other W9 (Or.inl (ne8_11 NDp))).other W25 (Or.inl (ne8_10 NDp))).other W28 (Or.inl (ne8_11 NDp)))
      have f34 := ((f19.other W25 (Or.inl (ne8_10 NDp))).other W28 (Or.inl (ne8_11 NDp)))
      have f35 := (f26.other W28 (Or.inl (ne8_11 NDp)))
      have f36 := ((f11.other W25 (Or.inl (ne8_10 NDp))).other W28 (Or.inl (ne8_11 NDp)))
      have f37 := ((((E_kq.wr W6).wr W9).wr W25).wr W28)
      have f38 := ((((F_kq_keys.other W6 (Or.inl (ne0_8 NDp))).other W9 (Or.inl (ne0_11 NDp))).other W25 (Or.inl (ne0_10 NDp))).other W28 (Or.inl (ne0_11 NDp)))
      have f39 := (V25.other W28 (ne10_11 NDp))
      obtain ⟨cq40, q40, q40'⟩ := f32.cell
      obtain ⟨_, _, ⟨T40, L40, k40, n40⟩, -, X40, ⟨Lc40, hQ40, l40, y40, z40⟩, st40⟩ := X28.privateBack hx (y := (⟨cH, "siftUp", "(I)I"⟩ : MethodName)) hown (mvT hZ (wd 137 rfl)) (mvT hZ (wd 138 rfl)) (own_selpriv (y := (⟨cH, "siftUp", "(I)I"⟩ : MethodName)) (mvT hZ (wd 61 rfl)) rfl (Cond.privateMethod_at (mvP hZ (wd 139 rfl) (args := #[]))) (mvT hZ (wd 138 rfl)) (by decide)) (Cond.privateMethod_at (mvP hZ (wd 139 rfl) (args := #[]))) (mvT hZ (wd 140 rfl)) (by decide) (own_backH (W := 1) (rm_up l Z a0 hw [] hp y2 kq aF aO aW aK aB aA aI lo aE aP cK kK kE kP (sz - (1 : Int32)) (s2 y2 0 y22 en0) (s2 y2 1 y22 en1) (s2 y22 0 y2 (s2 en 0 (-1 : Int32) po0)) (s2 y22 1 y2 (s2 en 1 (-1 : Int32) po1)) h28 n0 O28 f32 f33 f34 f35 f36 f37 f38 MDc f39 V28 g_aE g_aP NDp ((own_rr HI0 he hy2 hc4 hc14 hy22).1.1) ((own_rr HI0 he hy2 hc4 hc14 hy22).2.1.1) ((own_rr HI0 he hy2 hc4 hc14 hy22).2.1.2.2) f30 f31) hZH (wd 140 rfl) (wd 33 rfl) (by decide) (by decide)) (g := (mkF m 66 #[.val (.ref hp), .val (.int en), .val (.int y2), .val (.int y22)] [(.int y2), (.ref hp), (.ref hp)])) rfl (by rw [hml]; rfl) (Steps.refl _) (a := hp) (by rw [e28]; exact q40) q40' (argsL := [(.int y2)]) (rest := [(.ref hp)]) (lenOf pd_3 rfl) rfl (by show 2 * 0 + _ ≤ _; exact Nat.le_of_eq rfl) (D d9_66) (fun _ _ => ⟨rfl, e28, (by decide : 0 + 0 ≤ _), (by decide : 0 + 0 ≤ _)⟩)
      dsimp only [Pt.U, Pt.locs, Pt.cells, Pt.slots] at X40 l40 y40 z40 st40 hQ40
      subst l40 y40 z40
      obtain ⟨ve0_40, ve1_40, vp0_40, vp1_40, r__40, rfl, N40q, K40, Q40_0, Q40_1, Q40_2, Q40_3⟩ := hQ40
      have O40 := O28.keep K40 (allS g_aE (allS g_aP all0))
      have KK40 : Keep h0 T40.heap [hp, aE, aP] := K28.trans K40 (allS (own_mem 1 rfl) (allS (own_mem 2 rfl) all0))
      have N40 := Fr.app N28 N40q
      have f41 := (f30.keep K40 (nn16 NDp))
      have f42 := (f31.keep K40 (nn17 NDp))
      have f43 := (f32.keep K40)
      have f44 := (f33.keep K40 (nn3 NDp))
      have f45 := (f34.keep K40 (nn3 NDp))
      have f46 := (f35.keep K40 (nn3 NDp))
      have f47 := (f36.keep K40 (nn3 NDp))
      have f48 := (f37.keep K40)
      have f49 := (f38.keep K40 (nn18 NDp))
      obtain ⟨cq50, q50, q50'⟩ := f43.cell
      obtain ⟨_, _, ⟨T50, L50, k50, n50⟩, -, X50, ⟨Lc50, hQ50, l50, y50, z50⟩, st50⟩ := X40.privateBack hx (y := (⟨cH, "siftDown", "(I)V"⟩ : MethodName)) hown (mvT hZ (wd 170 rfl)) (mvT hZ (wd 171 rfl)) (own_selpriv (y := (⟨cH, "siftDown", "(I)V"⟩ : MethodName)) (mvT hZ (wd 61 rfl)) rfl (Cond.privateMethod_at (mvP hZ (wd 172 rfl) (args := #[]))) (mvT hZ (wd 171 rfl)) (by decide)) (Cond.privateMethod_at (mvP hZ (wd 172 rfl) (args := #[]))) (mvT hZ (wd 173 rfl)) (by decide) (own_backH (W := 0) (rm_down l Z a0 hw [] hp r__40 kq aF aO aW aK aB aA aI lo aE aP cK kK kE kP (sz - (1 : Int32)) ve0_40 ve1_40 vp0_40 vp1_40 T40.heap n0 O40 f43 f44 f45 f46 f47 f48 f49 MDc Q40_0 Q40_1 g_aE g_aP NDp Q40_2.1 (own_dn Q40_3 (own_rr HI0 he hy2 hc4 hc14 hy22).2.2.2) f41 f42) hZH (wd 173 rfl) (wd 33 rfl) (by decide) (by decide)) (g := (mkF m 69 #[.val (.ref hp), .val (.int en), .val (.int y2), .val (.int y22)] [(.int r__40), (.ref hp)])) rfl (by rw [hml]; rfl) (Steps.refl _) (a := hp) (by exact q50) q50' (argsL := [(.int r__40)]) (rest := []) (lenOf pd_4 rfl) rfl (by show 2 * 0 + _ ≤ _; exact Nat.le_of_eq rfl) (D d9_69) (fun _ _ => ⟨rfl, rfl, (by decide : 0 + 0 ≤ _), (by decide : 0 + 0 ≤ _)⟩)
      dsimp only [Pt.U, Pt.locs, Pt.cells, Pt.slots] at X50 l50 y50 z50 st50 hQ50
      subst l50 y50 z50
      obtain ⟨ve0_50, ve1_50, vp0_50, vp1_50, rfl, N50q, K50, Q50_0, Q50_1, Q50_2⟩ := hQ50
      have O50 := O40.keep K50 (allS g_aE (allS g_aP all0))
      have KK50 : Keep h0 T50.heap [hp, aE, aP] := KK40.trans K50 (allS (own_mem 1 rfl) (allS (own_mem 2 rfl) all0))
      have N50 := Fr.app N40 N50q
      have f51 := (f44.keep K50 (nn3 NDp))
      have f52 := (f45.keep K50 (nn3 NDp))
      have f53 := (f46.keep K50 (nn3 NDp))
      have f54 := (f47.keep K50 (nn3 NDp))
      obtain ⟨fs, hr, hrun, hended, hW, hsame⟩ := X50.leave (v := none) (fun _ => rfl)
      refine ⟨_, _, pre0 _ ?_, hrun, hended, _, _, rfl, ?_, ⟨_, rfl⟩, hW, hsame.mono (by decide) (by decide)⟩
      · refine cs13.trans ?_
        refine s_icmpYes X12 hx 39 (D d9_35) (feq hc14).2 (of_decide_eq_true rfl) rfl ?_
        refine s_aloadN X12 hx (D d9_39) rfl rfl ?_
        refine st20 _ ?_
        refine s_aloadN X20 hx (D d9_43) rfl rfl ?_
        refine st21 _ ?_
        refine X21.iaload hx (j := (sz - (1 : Int32))) (v := (.int y22)) (by rw [e21]; exact (Ar22).1) (State.isArrayOf_alike hZ.alike (Ar22).2.1) (Ar22).2.2 hin22 hat22 (g := (mkF m 47 #[.val (.ref hp), .val (.int en), .val (.int y2), .unset] [(.int (sz - (1 : Int32))), (.ref aE)])) rfl rfl (D d9_47) _ ?_
        refine s_istoreN X21 hx (D d9_48) (l' := #[.val (.ref hp), .val (.int en), .val (.int y2), .val (.int y22)]) rfl ?_
        refine s_aloadN X21 hx (D d9_49) rfl rfl ?_
        refine st24 _ ?_
        refine s_iloadN X24 hx (D d9_53) rfl ?_
        refine s_iloadN X24 hx (D d9_54) rfl ?_
        refine st25 _ ?_
        refine s_aloadN X25 hx (D d9_56) rfl rfl ?_
        refine st27 _ ?_
        refine s_iloadN X27 hx (D d9_60) rfl ?_
        refine s_iloadN X27 hx (D d9_61) rfl ?_
        refine st28 _ ?_
        refine s_aloadN X28 hx (D d9_63) rfl rfl ?_
        refine s_aloadN X28 hx (D d9_64) rfl rfl ?_
        refine s_iloadN X28 hx (D d9_65) rfl ?_
        refine st40.trans ?_
        refine st50.trans ?_
        exact X50.returnOut hx Bd.returns (D d9_72) hr
      · show Q_rm_hremove Z hp en kq aF aO aW aK aB aA aI lo aE aP cK kK kE kP sz en0 en1 po0 po1 h0 n0 _ T50.heap _
        exact ⟨ve0_50, ve1_50, vp0_50, vp1_50, (sz - (1 : Int32)), rfl, N50, KK50, f51, f52, f53, f54, Q50_0, Q50_1, (own_rt (own_rr HI0 he hy2 hc4 hc14 hy22).1 Q40_2 Q50_2), ⟨fun z => absurd (hy2.trans z) hc4, fun _ => rfl⟩⟩
theorem d24_0 : decode prog_35_method_5_code 0 = .ok (.aload_n 0, 1) := by decide +kernel
theorem d24_1 : decode prog_35_method_5_code 1 = .ok (.invokevirtual 37, 3) := by decide +kernel
theorem d24_4 : decode prog_35_method_5_code 4 = .ok (.istore_n 1, 1) := by decide +kernel
theorem d24_5 : decode prog_35_method_5_code 5 = .ok (.aload_n 0, 1) := by decide +kernel
theorem d24_6 : decode prog_35_method_5_code 6 = .ok (.iload_n 1, 1) := by decide +kernel
theorem d24_7 : decode prog_35_method_5_code 7 = .ok (.invokevirtual 41, 3) := by decide +kernel
theorem d24_10 : decode prog_35_method_5_code 10 = .ok (.iload_n 1, 1) := by decide +kernel
theorem d24_11 : decode prog_35_method_5_code 11 = .ok (.ireturn, 1) := by decide +kernel
theorem pd_5 : parseMethodDescriptor "()I" = some ⟨[], some .int⟩ := by decide +kernel
theorem ef_rm_hpoll (m : MethodId) (x0 : Addr) : entryFrame m #[(.ref x0)] 2 = mkF m 0 #[.val (.ref x0), .unset] [] := by first | (simp [entryFrame, mkF, argsToLocals, Value.category]; done) | rfl
def Q_rm_hpoll (Z : State) (hp : Addr) (kq aF aO aW aK aB aA aI lo aE aP : Addr) (cK kK kE kP : ClassId) (sz en0 en1 po0 po1 : Int32) (h0 : Heap) (n0 : Nat) (v : Option Value) (h : Heap) (L : List Loc) : Prop := ∃ (ve0 : Int32) (ve1 : Int32) (vp0 : Int32) (vp1 : Int32), v = some (.int en0) ∧ Fr n0 L ∧ Keep h0 h [hp, aE, aP] ∧ Fld Z h hp cH "order" "Lcom/example/leasewise/leasewise/IndexedHeap$Order;" (.ref lo) ∧ Fld Z h hp cH "entries" "[I" (.ref aE) ∧ Fld Z h hp cH "positions" "[I" (.ref aP) ∧ Fld Z h hp cH "size" "I" (.int (sz - (1 : Int32))) ∧ Arv Z h aE kE .int (2 : Int32) [(.int ve0), (.int ve1)] (.int (0 : Int32)) ∧ Arv Z h aP kP .int (2 : Int32) [(.int vp0), (.int vp1)] (.int (-1 : Int32)) ∧ (HRem en0 (sz - 1) ve0 ve1 vp0 vp1 po0 po1)
set_option maxRecDepth 65536 in
set_option maxHeartbeats 40000000 in
theorem rm_hpoll (l : Launch) (Z : State) (a0 : Array Value) (hw : ∀ d ∈ tables_1, d.before a0 Z = true) (ws : List Jvm.Cond) (hp : Addr) (kq aF aO aW aK aB aA aI lo aE aP : Addr) (cK kK kE kP : ClassId) (sz en0 en1 po0 po1 : Int32) (h0 : Heap) (n0 : Nat) (O0 : Old Z n0 h0) (E_hp : Exa Z h0 hp cH) (F_hp_order : Fld Z h0 hp cH "order" "Lcom/example/leasewise/leasewise/IndexedHeap$Order;" (.ref lo)) (F_hp_entries : Fld Z h0 hp cH "entries" "[I" (.ref aE)) (F_hp_positions : Fld Z h0 hp cH "positions" "[I" (.ref aP)) (F_hp_size : Fld Z h0 hp cH "size" "I" (.int sz)) (E_kq : Exa Z h0 kq cQ) (F_kq_keys : Fld Z h0 kq cQ "keys" "[J" (.ref aK)) (MDc : Jvm.LamKit.Made Z cQ sgm cK) (V_aE : Arv Z h0 aE kE .int (2 : Int32) [(.int en0), (.int en1)] (.int (0 : Int32))) (V_aP : Arv Z h0 aP kP .int (2 : Int32) [(.int po0), (.int po1)] (.int (-1 : Int32))) (g_hp : n0 ≤ hp) (g_aE : n0 ≤ aE) (g_aP : n0 ≤ aP) (NDp : List.Nodup [kq, aF, aO, aW, aK, aB, aA, aI, hp, lo, aE, aP]) (HI0 : HI sz en0 en1 po0 po1) (hnz : ¬ sz = (0 : Int32)) (V_aK : Arp Z h0 aK kK .long (2 : Int32) PJ) (Y_lo : LamO h0 lo cK kq) :
    MetFree l (⟨cH, "poll", "()I"⟩ : MethodName) (head1 (Jvm.Cond.code (⟨cH, "poll", "()I"⟩ : MethodName) prog_35_method_5_code 2 (some .int) :: ws) ({ frames := 4, cells := 0, slots := 0, locals := 60 } : Room)) (fun a U => a = #[(.ref hp)] ∧ Z.WarmedH U.vm ∧ U.heap = h0) (fun _ _ _ _ _ => True) (fun _ U o U' => ∃ v L, o = .returned v ∧ Q_rm_hpoll Z hp kq aF aO aW aK aB aA aI lo aE aP cK kK kE kP sz en0 en1 po0 po1 h0 n0 v U'.heap L ∧ FrameEnd U o U' L ({ frames := 4, cells := 0, slots := 0, locals := 60 } : Room).cells ({ frames := 4, cells := 0, slots := 0, locals := 60 } : Room).slots) := by
  refine MetFree.of_bodySF (plainFor_of_name pn_1) hisR ?_
  intro p e s m args below meth c s₁ Bd hml0 hP hK
  obtain ⟨rfl, hZH, hh⟩ := hP
  have hZ := hZH.wide
  have hx := Bd.exec
  have hby := Bd.bytes
  have D := fun {pc : Nat} {r : Except ClassFile.DecodeError (ClassFile.Instr × Nat)} (q : decode prog_35_method_5_code pc = r) => hb (pc := pc) hby q
  have hml : c.maxLocals = 2 := hml0
  have hown : s.vm.findClass cH = some m.cls := findClass_of_methodNamed Bd.named
  have hnm := (name_of_methodNamed Bd.named Bd.method).1
  have X0 : Stand p l e ({ frames := 4, cells := 0, slots := 0, locals := 60 } : Room) s m #[(.ref hp)] below meth c s₁ [] 0 0 := Stand.of_body Bd
  have e0 : s₁.heap = h0 := by rw [← hh, Bd.state]; rfl
  have N0 := Fr.nil n0
  have pre0 : ∀ t, Steps p.tables e below (s₁.setTop (mkF m 0 #[.val (.ref hp), .unset] [])) t → Steps p.tables e below (s₁.setTop (entryFrame m #[(.ref hp)] 2)) t := fun t k => castTop (ef_rm_hpoll m (hp)) k
  have wd := fun {d : Jvm.Cond} (i : Nat) (h : tables_1[i]? = some d) => hw d (List.mem_of_getElem? h)
  obtain ⟨cq1, kq1, q1a, q1b, q1c⟩ := isOf hZ e0 E_hp
  obtain ⟨_, _, ⟨T1, L1, k1, n1⟩, -, X1, ⟨Lc1, hQ1, l1, y1, z1⟩, st1⟩ := X0.virtualBack hx (y := (⟨cH, "first", "()I"⟩ : MethodName)) (z := (⟨cH, "first", "()I"⟩ : MethodName)) hown (mvT hZ (wd 155 rfl)) (mvT hZ (wd 146 rfl)) (notFace_of_selects (args := #[]) (mvT hZ (wd 148 rfl))) (mvT hZ (wd 148 rfl)) (mvT hZ (wd 147 rfl)) (by decide) (own_backH (W := 0) (rm_hfirst l Z a0 hw [] hp aE kE sz en0 en1 h0 n0 O0 E_hp F_hp_entries F_hp_size V_aE hnz) hZH (wd 149 rfl) (wd 33 rfl) (by decide) (by decide)) q1a q1c (g := (mkF m 1 #[.val (.ref hp), .unset] [(.ref hp)])) rfl (by rw [hml]; rfl) (Steps.refl _) (argsL := []) (rest := []) (lenOf pd_5 rfl) rfl (by show 2 * 0 + _ ≤ _; exact Nat.le_of_eq rfl) (D d24_1) (fun _ _ => ⟨rfl, e0, (by decide : 0 + 0 ≤ _), (by decide : 0 + 0 ≤ _)⟩)
  dsimp only [Pt.U, Pt.locs, Pt.cells, Pt.slots] at X1 l1 y1 z1 st1 hQ1
  subst l1 y1 z1
  obtain ⟨rfl, N1q, e1⟩ := hQ1
  have N1 := Fr.app N0 N1q
  obtain ⟨cq2, kq2, q2a, q2b, q2c⟩ := isOf hZ e1 E_hp
  obtain ⟨_, _, ⟨T2, L2, k2, n2⟩, -, X2, ⟨Lc2, hQ2, l2, y2, z2⟩, st2⟩ := X1.virtualBack hx (y := (⟨cH, "remove", "(I)V"⟩ : MethodName)) (z := (⟨cH, "remove", "(I)V"⟩ : MethodName)) hown (mvT hZ (wd 156 rfl)) (mvT hZ (wd 79 rfl)) (notFace_of_selects (args := #[]) (mvT hZ (wd 81 rfl))) (mvT hZ (wd 81 rfl)) (mvT hZ (wd 80 rfl)) (by decide) (own_backH (W := 0) (rm_hremove l Z a0 hw [] hp en0 kq aF aO aW aK aB aA aI lo aE aP cK kK kE kP sz en0 en1 po0 po1 h0 n0 O0 E_hp F_hp_order F_hp_entries F_hp_positions F_hp_size E_kq F_kq_keys MDc V_aE V_aP g_hp g_aE g_aP NDp HI0 ((own_first HI0 hnz).1) V_aK Y_lo) hZH (wd 82 rfl) (wd 33 rfl) (by decide) (by decide)) q2a q2c (g := (mkF m 7 #[.val (.ref hp), .val (.int en0)] [(.int en0), (.ref hp)])) rfl (by rw [hml]; rfl) (Steps.refl _) (argsL := [(.int en0)]) (rest := []) (lenOf pd_4 rfl) rfl (by show 2 * 0 + _ ≤ _; exact Nat.le_of_eq rfl) (D d24_7) (fun _ _ => ⟨rfl, e1, (by decide : 0 + 0 ≤ _), (by decide : 0 + 0 ≤ _)⟩)
  dsimp only [Pt.U, Pt.locs, Pt.cells, Pt.slots] at X2 l2 y2 z2 st2 hQ2
  subst l2 y2 z2
  obtain ⟨ve0_2, ve1_2, vp0_2, vp1_2, vz__2, rfl, N2q, K2, Q2_0, Q2_1, Q2_2, Q2_3, Q2_4, Q2_5, Q2_6, Q2_7⟩ := hQ2
  have O2 := O0.keep K2 (allS g_hp (allS g_aE (allS g_aP all0)))
  have KK2 : Keep h0 T2.heap [hp, aE, aP] := (Keep.refl h0 [hp, aE, aP]).trans K2 (allS (own_mem 0 rfl) (allS (own_mem 1 rfl) (allS (own_mem 2 rfl) all0)))
  have N2 := Fr.app N1 N2q
  have Fz3 : Fld Z T2.heap hp cH "size" "I" (.int (sz - (1 : Int32))) := by have q := Q2_3; rw [Q2_7.2 (own_first HI0 hnz).2] at q; exact q
  obtain ⟨fs, hr, hrun, hended, hW, hsame⟩ := X2.leave (v := some (.int en0)) (fun h => by rw [Bd.returns] at h; cases h)
  refine ⟨_, _, pre0 _ ?_, hrun, hended, _, _, rfl, ?_, ⟨_, rfl⟩, hW, hsame.mono (by decide) (by decide)⟩
  · refine s_aloadN X0 hx (D d24_0) rfl rfl ?_
    refine st1.trans ?_
    refine s_istoreN X1 hx (D d24_4) (l' := #[.val (.ref hp), .val (.int en0)]) rfl ?_
    refine s_aloadN X1 hx (D d24_5) rfl rfl ?_
    refine s_iloadN X1 hx (D d24_6) rfl ?_
    refine st2.trans ?_
    refine s_iloadN X2 hx (D d24_10) rfl ?_
    exact retI X2 hx Bd.returns (D d24_11) hr
  · show Q_rm_hpoll Z hp kq aF aO aW aK aB aA aI lo aE aP cK kK kE kP sz en0 en1 po0 po1 h0 n0 _ T2.heap _
    exact ⟨ve0_2, ve1_2, vp0_2, vp1_2, rfl, N2, KK2, Q2_0, Q2_1, Q2_2, Fz3, Q2_4, Q2_5, (by have q := Q2_6; rw [Q2_7.2 (own_first HI0 hnz).2] at q; exact q)⟩
theorem own_bk (v : Int64) : 0 ≤ ((v &&& (65535 : Int64)).toInt32).toInt ∧ ((v &&& (65535 : Int64)).toInt32).toInt < 65536 := by
  have e1 := c_maskL v 65535 16 (by decide) (by decide)
  have e2 := c_l2i (v &&& (65535 : Int64))
  have h3 : ((2 ^ 16 : Nat) : Int) = 65536 := by decide
  rw [h3] at e1
  have r := rng32 ((v &&& (65535 : Int64)).toInt32)
  omega
theorem own_bkl {x : Int32} {n : Int} {y : Int32} (h : 0 ≤ x.toInt ∧ x.toInt < n) (hy : y.toInt = n) : ¬ x < 0 ∧ x < y := by
  have e0 : (0 : Int32).toInt = 0 := by decide
  rw [Int32.lt_iff_toInt_lt, Int32.lt_iff_toInt_lt, hy, e0]; omega
theorem own_div64 {x : Int32} {n : Int} (h : 0 ≤ x.toInt ∧ x.toInt < n * 64) : 0 ≤ (x / (64 : Int32)).toInt ∧ (x / (64 : Int32)).toInt < n := by
  have e := (c_idiv x 64 64 (by decide) (by decide)).1 h.1
  rw [e]; omega

theorem own_pi2 {y : Int32} (h : y = -1 ∨ y = 0 ∨ y = 1) (hn : ¬ y = (-1 : Int32)) : ¬ y < 0 ∧ y < 2 := own_in2 (h.resolve_left hn)
theorem own_bkc (k : Int64) : ((k &&& (65535 : Int64)).toInt32).toInt = ((bkN k : Nat) : Int) ∧ bkN k < 65536 := by
  have h := own_bk k
  have e : (((k &&& (65535 : Int64)).toInt32).toInt.toNat : Int) = ((k &&& (65535 : Int64)).toInt32).toInt := Int.toNat_of_nonneg h.1
  refine ⟨e.symm, ?_⟩
  have e2 : (bkN k : Int) = ((k &&& (65535 : Int64)).toInt32).toInt := e
  omega
theorem own_d64 {x : Int32} {n : Nat} (h : x.toInt = n) : (x / (64 : Int32)).toInt = ((n / 64 : Nat) : Int) := by
  have e := (c_idiv x 64 64 (by decide) (by decide)).1 (by omega)
  rw [e, h]; rfl
theorem own_m64 {x : Int32} {n : Nat} (h : x.toInt = n) : (x % (64 : Int32)).toInt = ((n % 64 : Nat) : Int) := by
  have e := (c_irem x 64 64 (by decide)).1 (by omega)
  rw [e, h]; rfl
/-- the buckets' bits at an entry's key -/
theorem own_bs (k : Int64) : (((k &&& (65535 : Int64)).toInt32) / (64 : Int32)).toNatClampNeg = bkN k / 64 ∧ ((((k &&& (65535 : Int64)).toInt32) / (64 : Int32)) / (64 : Int32)).toNatClampNeg = bkN k / 64 / 64 ∧ (∀ j, j < 64 → bt ((1 : Int64) <<< ((((k &&& (65535 : Int64)).toInt32) % (64 : Int32)) &&& 0x3f).toInt64) j = decide (j = bkN k % 64)) ∧ (∀ j, j < 64 → bt ((1 : Int64) <<< (((((k &&& (65535 : Int64)).toInt32) / (64 : Int32)) % (64 : Int32)) &&& 0x3f).toInt64) j = decide (j = bkN k / 64 % 64)) :=
  have h := (own_bkc k).1
  ⟨own_cln (own_d64 h), own_cln (own_d64 (own_d64 h)), own_mask (own_m64 h) (Nat.mod_lt _ (by decide)), own_mask (own_m64 (own_d64 h)) (Nat.mod_lt _ (by decide))⟩
def KI (b n e0 e1 p0 p1 i0 i1 m0 m1 : Int32) : Prop := HI n e0 e1 p0 p1 ∧ b = i0 + i1 ∧ MB i0 p0 m0 ∧ MB i1 p1 m1
theorem own_mb_iff {i p q m : Int32} (h : MB i p m) (e : q = -1 ↔ p = -1) : MB i q m := by
  rcases h with ⟨a, b, d⟩ | ⟨a, b, d⟩ | ⟨a, b, d⟩
  · exact Or.inl ⟨a, e.mpr b, d⟩
  · exact Or.inr (Or.inl ⟨a, fun z => b (e.mp z), d⟩)
  · exact Or.inr (Or.inr ⟨a, e.mpr b, d⟩)
theorem own_mb_1 {i p m : Int32} (h : MB i p m) (hi : ¬ i = 0) : i = 1 ∧ p = -1 ∧ m = 1 := by
  rcases h with h | ⟨a, b, d⟩ | ⟨a, b, d⟩
  · exact h
  · exact absurd a hi
  · exact absurd a hi
theorem own_mb_z {i p m : Int32} (h : MB i p m) (hm : m = 0) : i = 0 ∧ p = -1 := by
  rcases h with ⟨a, b, d⟩ | ⟨a, b, d⟩ | ⟨a, b, d⟩
  · rw [hm] at d; exact absurd d (by decide)
  · rw [hm] at d; exact absurd d (by decide)
  · exact ⟨a, b⟩
theorem own_mb_01 {i p m : Int32} (h : MB i p m) : (i = 0 ∨ i = 1) ∧ (m = 0 ∨ m = 1) := by
  rcases h with ⟨a, b, d⟩ | ⟨a, b, d⟩ | ⟨a, b, d⟩
  · exact ⟨Or.inr a, Or.inr d⟩
  · exact ⟨Or.inl a, Or.inr d⟩
  · exact ⟨Or.inl a, Or.inl d⟩
theorem own_mb_u {en k i p m : Int32} (hM : MB i p m) (hi : en = k → ¬ i = 0) : MB (s2 en k 0 i) p (s2 en k 0 m) := by
  unfold s2
  by_cases u : en = k
  · rw [if_pos u, if_pos u]; exact Or.inr (Or.inr ⟨rfl, (own_mb_1 hM (hi u)).2.1, rfl⟩)
  · rw [if_neg u, if_neg u]; exact hM
theorem own_mb_h {en k i p q m : Int32} (hM : MB i p m) (hi : en = k → i = 0) (e : q = -1 ↔ (en = k ∨ p = -1)) : MB i q (s2 en k 0 m) := by
  unfold s2
  by_cases u : en = k
  · rw [if_pos u]; exact Or.inr (Or.inr ⟨hi u, e.mpr (Or.inl u), rfl⟩)
  · rw [if_neg u]; exact own_mb_iff hM ⟨fun z => (e.mp z).resolve_left u, fun z => e.mpr (Or.inr z)⟩
theorem own_mb_l {en k i p m : Int32} (hM : MB i p (s2 en k 0 m)) : MB (s2 en k 1 i) p (s2 en k 1 m) := by
  unfold s2 at hM ⊢
  by_cases u : en = k
  · rw [if_pos u] at hM; rw [if_pos u, if_pos u]; exact Or.inl ⟨rfl, (own_mb_z hM rfl).2, rfl⟩
  · rw [if_neg u] at hM; rw [if_neg u, if_neg u]; exact hM
theorem own_mb_p {en k i p q m : Int32} (hM : MB i p (s2 en k 0 m)) (e : q = -1 ↔ (¬ en = k ∧ p = -1)) : MB i q (s2 en k 1 m) := by
  unfold s2 at hM ⊢
  by_cases u : en = k
  · rw [if_pos u] at hM; rw [if_pos u]; exact Or.inr (Or.inl ⟨(own_mb_z hM rfl).1, fun z => (e.mp z).1 u, rfl⟩)
  · rw [if_neg u] at hM; rw [if_neg u]; exact own_mb_iff hM ⟨fun z => (e.mp z).2, fun z => e.mpr ⟨u, z⟩⟩
/-- polled from the heap, linked into a bucket -/
theorem own_mb_q {en k i p q m : Int32} (hM : MB i p m) (hp : en = k → ¬ p = -1) (e : q = -1 ↔ (en = k ∨ p = -1)) : MB (s2 en k 1 i) q m := by
  unfold s2
  by_cases u : en = k
  · rw [if_pos u]
    refine Or.inl ⟨rfl, e.mpr (Or.inl u), ?_⟩
    rcases hM with ⟨a, b, d⟩ | ⟨a, b, d⟩ | ⟨a, b, d⟩
    · exact d
    · exact d
    · exact absurd b (hp u)
  · rw [if_neg u]; exact own_mb_iff hM ⟨fun z => (e.mp z).resolve_left u, fun z => e.mpr (Or.inr z)⟩
theorem own_sum0 {en i0 i1 : Int32} (he : I2 en) (h0 : i0 = 0 ∨ i0 = 1) (h1 : i1 = 0 ∨ i1 = 1) (hi : ¬ g2 en i0 i1 = 0) : i0 + i1 - 1 = s2 en 0 0 i0 + s2 en 1 0 i1 := by
  rcases he with rfl | rfl <;> rcases h0 with rfl | rfl <;> rcases h1 with rfl | rfl <;> first | rfl | exact absurd rfl hi
theorem own_sum1 {en i0 i1 : Int32} (he : I2 en) (h0 : i0 = 0 ∨ i0 = 1) (h1 : i1 = 0 ∨ i1 = 1) (hi : g2 en i0 i1 = 0) : i0 + i1 + 1 = s2 en 0 1 i0 + s2 en 1 1 i1 := by
  rcases he with rfl | rfl <;> rcases h0 with rfl | rfl <;> rcases h1 with rfl | rfl <;> first | rfl | exact absurd hi (by decide)
theorem own_ku {en y b n e0 e1 p0 p1 i0 i1 m0 m1 : Int32} (h : KI b n e0 e1 p0 p1 i0 i1 m0 m1) (he : I2 en) (hy : y = g2 en i0 i1) (hi : ¬ y = 0) : KI (b - 1) n e0 e1 p0 p1 (s2 en 0 0 i0) (s2 en 1 0 i1) (s2 en 0 0 m0) (s2 en 1 0 m1) := by
  rw [hy] at hi
  refine ⟨h.1, by rw [h.2.1]; exact own_sum0 he (own_mb_01 h.2.2.1).1 (own_mb_01 h.2.2.2).1 hi, own_mb_u h.2.2.1 (fun u => by rw [u, own_g0] at hi; exact hi), own_mb_u h.2.2.2 (fun u => by rw [u, own_g1] at hi; exact hi)⟩
theorem own_kh {en y b n e0 e1 p0 p1 i0 i1 m0 m1 n' f0 f1 q0 q1 : Int32} (h : KI b n e0 e1 p0 p1 i0 i1 m0 m1) (hy : y = g2 en i0 i1) (hi : y = 0) (g : HRem en n' f0 f1 q0 q1 p0 p1) : KI b n' f0 f1 q0 q1 i0 i1 (s2 en 0 0 m0) (s2 en 1 0 m1) := by
  rw [hy] at hi
  exact ⟨g.1, h.2.1, own_mb_h h.2.2.1 (fun u => by rw [u, own_g0] at hi; exact hi) g.2.1, own_mb_h h.2.2.2 (fun u => by rw [u, own_g1] at hi; exact hi) g.2.2⟩
theorem own_kz {en b n e0 e1 p0 p1 i0 i1 m0 m1 : Int32} (h : KI b n e0 e1 p0 p1 i0 i1 (s2 en 0 0 m0) (s2 en 1 0 m1)) (he : I2 en) : g2 en i0 i1 = 0 ∧ g2 en p0 p1 = -1 := by
  rcases he with rfl | rfl
  · rw [own_g0, own_g0]; exact own_mb_z h.2.2.1 (if_pos rfl)
  · rw [own_g1, own_g1]; exact own_mb_z h.2.2.2 (if_pos rfl)
theorem own_kl {en b n e0 e1 p0 p1 i0 i1 m0 m1 : Int32} (h : KI b n e0 e1 p0 p1 i0 i1 (s2 en 0 0 m0) (s2 en 1 0 m1)) (he : I2 en) : KI (b + 1) n e0 e1 p0 p1 (s2 en 0 1 i0) (s2 en 1 1 i1) (s2 en 0 1 m0) (s2 en 1 1 m1) :=
  ⟨h.1, by rw [h.2.1]; exact own_sum1 he (own_mb_01 h.2.2.1).1 (own_mb_01 h.2.2.2).1 (own_kz h he).1, own_mb_l h.2.2.1, own_mb_l h.2.2.2⟩
theorem own_kp {en b n e0 e1 p0 p1 i0 i1 m0 m1 n' f0 f1 q0 q1 : Int32} (h : KI b n e0 e1 p0 p1 i0 i1 (s2 en 0 0 m0) (s2 en 1 0 m1)) (g : HPut en n' f0 f1 q0 q1 p0 p1) : KI b n' f0 f1 q0 q1 i0 i1 (s2 en 0 1 m0) (s2 en 1 1 m1) := ⟨g.1, h.2.1, own_mb_p h.2.2.1 g.2.1, own_mb_p h.2.2.2 g.2.2⟩
theorem own_kq {en b n e0 e1 p0 p1 i0 i1 m0 m1 n' f0 f1 q0 q1 : Int32} (h : KI b n e0 e1 p0 p1 i0 i1 m0 m1) (he : I2 en) (hp : ¬ g2 en p0 p1 = -1) (g : HRem en n' f0 f1 q0 q1 p0 p1) : KI (b + 1) n' f0 f1 q0 q1 (s2 en 0 1 i0) (s2 en 1 1 i1) m0 m1 := by
  have hi : g2 en i0 i1 = 0 := by
    rcases he with rfl | rfl
    · rw [own_g0] at hp ⊢
      exact Classical.byContradiction fun z => hp (own_mb_1 h.2.2.1 z).2.1
    · rw [own_g1] at hp ⊢
      exact Classical.byContradiction fun z => hp (own_mb_1 h.2.2.2 z).2.1
  exact ⟨g.1, by rw [h.2.1]; exact own_sum1 he (own_mb_01 h.2.2.1).1 (own_mb_01 h.2.2.2).1 hi, own_mb_q h.2.2.1 (fun u => by rw [u, own_g0] at hp; exact hp) g.2.1, own_mb_q h.2.2.2 (fun u => by rw [u, own_g1] at hp; exact hp) g.2.2⟩
/-- no member -/
def EM (m0 m1 : Int32) : Int32 := if m0 = 0 ∧ m1 = 0 then 1 else 0
theorem own_em {b n e0 e1 p0 p1 i0 i1 m0 m1 : Int32} (h : KI b n e0 e1 p0 p1 i0 i1 m0 m1) : EM m0 m1 = if b = 0 ∧ n = 0 then 1 else 0 := by
  have hz := own_hz h.1
  have hb := h.2.1
  unfold EM
  refine ite_congr (propext ⟨fun q => ?_, fun q => ?_⟩) (fun _ => rfl) (fun _ => rfl)
  · have a := own_mb_z h.2.2.1 q.1
    have d := own_mb_z h.2.2.2 q.2
    exact ⟨by rw [hb, a.1, d.1]; rfl, hz.mpr ⟨a.2, d.2⟩⟩
  · have hp := hz.mp q.2
    have h1 := h.2.2.1
    have h2 := h.2.2.2
    have s0 := (own_mb_01 h1).1
    have s1 := (own_mb_01 h2).1
    have hs : i0 = 0 ∧ i1 = 0 := by
      have e := hb.symm.trans q.1
      rcases s0 with rfl | rfl <;> rcases s1 with rfl | rfl <;> first | exact ⟨rfl, rfl⟩ | exact absurd e (by decide)
    rw [hs.1, hp.1] at h1
    rw [hs.2, hp.2] at h2
    refine ⟨?_, ?_⟩
    · rcases h1 with ⟨a, -, -⟩ | ⟨-, a, -⟩ | ⟨-, -, a⟩
      · exact absurd a (by decide)
      · exact absurd rfl a
      · exact a
    · rcases h2 with ⟨a, -, -⟩ | ⟨-, a, -⟩ | ⟨-, -, a⟩
      · exact absurd a (by decide)
      · exact absurd rfl a
      · exact a
def PV (x : Int32) : Prop := x = -1 ∨ x = 0 ∨ x = 1
theorem own_pvs {j k w x : Int32} (hw : PV w) (hx : PV x) : PV (s2 j k w x) := by
  unfold s2
  by_cases u : j = k
  · rw [if_pos u]; exact hw
  · rw [if_neg u]; exact hx
def PV4 (a b d e : Int32) : Prop := PV a ∧ PV b ∧ PV d ∧ PV e
theorem own_liv {F : Nat → Int32} {i0 i1 b0 b1 a0 a1 : Int32} {k0 k1 : Int64} (H : LI F i0 i1 k0 k1 b0 b1 a0 a1) (b : Nat) : PV (F b) := by
  rcases H.1 b with h | ⟨h, -⟩ | ⟨h, -⟩
  · exact Or.inl h
  · exact Or.inr (Or.inl h)
  · exact Or.inr (Or.inr h)
theorem d10_0 : decode prog_39_method_13_code 0 = .ok (.aload_n 0, 1) := by decide +kernel
theorem d10_1 : decode prog_39_method_13_code 1 = .ok (.getfield 23, 3) := by decide +kernel
theorem d10_4 : decode prog_39_method_13_code 4 = .ok (.iload_n 1, 1) := by decide +kernel
theorem d10_5 : decode prog_39_method_13_code 5 = .ok (.laload, 1) := by decide +kernel
theorem d10_6 : decode prog_39_method_13_code 6 = .ok (.ldc2_w 117, 3) := by decide +kernel
theorem d10_9 : decode prog_39_method_13_code 9 = .ok (.land, 1) := by decide +kernel
theorem d10_10 : decode prog_39_method_13_code 10 = .ok (.l2i, 1) := by decide +kernel
theorem d10_11 : decode prog_39_method_13_code 11 = .ok (.istore_n 2, 1) := by decide +kernel
theorem d10_12 : decode prog_39_method_13_code 12 = .ok (.aload_n 0, 1) := by decide +kernel
theorem d10_13 : decode prog_39_method_13_code 13 = .ok (.getfield 10, 3) := by decide +kernel
theorem d10_16 : decode prog_39_method_13_code 16 = .ok (.iload_n 2, 1) := by decide +kernel
theorem d10_17 : decode prog_39_method_13_code 17 = .ok (.iaload, 1) := by decide +kernel
theorem d10_18 : decode prog_39_method_13_code 18 = .ok (.istore_n 3, 1) := by decide +kernel
theorem d10_19 : decode prog_39_method_13_code 19 = .ok (.aload_n 0, 1) := by decide +kernel
theorem d10_20 : decode prog_39_method_13_code 20 = .ok (.getfield 26, 3) := by decide +kernel
theorem d10_23 : decode prog_39_method_13_code 23 = .ok (.iload_n 1, 1) := by decide +kernel
theorem d10_24 : decode prog_39_method_13_code 24 = .ok (.iconst (-1), 1) := by decide +kernel
theorem d10_25 : decode prog_39_method_13_code 25 = .ok (.iastore, 1) := by decide +kernel
theorem d10_26 : decode prog_39_method_13_code 26 = .ok (.aload_n 0, 1) := by decide +kernel
theorem d10_27 : decode prog_39_method_13_code 27 = .ok (.getfield 29, 3) := by decide +kernel
theorem d10_30 : decode prog_39_method_13_code 30 = .ok (.iload_n 1, 1) := by decide +kernel
theorem d10_31 : decode prog_39_method_13_code 31 = .ok (.iload_n 3, 1) := by decide +kernel
theorem d10_32 : decode prog_39_method_13_code 32 = .ok (.iastore, 1) := by decide +kernel
theorem d10_33 : decode prog_39_method_13_code 33 = .ok (.iload_n 3, 1) := by decide +kernel
theorem d10_34 : decode prog_39_method_13_code 34 = .ok (.iconst (-1), 1) := by decide +kernel
theorem d10_35 : decode prog_39_method_13_code 35 = .ok (.if_icmp .eq 13, 3) := by decide +kernel
theorem d10_38 : decode prog_39_method_13_code 38 = .ok (.aload_n 0, 1) := by decide +kernel
theorem d10_39 : decode prog_39_method_13_code 39 = .ok (.getfield 26, 3) := by decide +kernel
theorem d10_42 : decode prog_39_method_13_code 42 = .ok (.iload_n 3, 1) := by decide +kernel
theorem d10_43 : decode prog_39_method_13_code 43 = .ok (.iload_n 1, 1) := by decide +kernel
theorem d10_44 : decode prog_39_method_13_code 44 = .ok (.iastore, 1) := by decide +kernel
theorem d10_45 : decode prog_39_method_13_code 45 = .ok (.goto 45, 3) := by decide +kernel
theorem d10_48 : decode prog_39_method_13_code 48 = .ok (.aload_n 0, 1) := by decide +kernel
theorem d10_49 : decode prog_39_method_13_code 49 = .ok (.getfield 16, 3) := by decide +kernel
theorem d10_52 : decode prog_39_method_13_code 52 = .ok (.iload_n 2, 1) := by decide +kernel
theorem d10_53 : decode prog_39_method_13_code 53 = .ok (.bipush 64, 2) := by decide +kernel
theorem d10_55 : decode prog_39_method_13_code 55 = .ok (.idiv, 1) := by decide +kernel
theorem d10_56 : decode prog_39_method_13_code 56 = .ok (.dup2, 1) := by decide +kernel
theorem d10_57 : decode prog_39_method_13_code 57 = .ok (.laload, 1) := by decide +kernel
theorem d10_58 : decode prog_39_method_13_code 58 = .ok (.lconst 1, 1) := by decide +kernel
theorem d10_59 : decode prog_39_method_13_code 59 = .ok (.iload_n 2, 1) := by decide +kernel
theorem d10_60 : decode prog_39_method_13_code 60 = .ok (.bipush 64, 2) := by decide +kernel
theorem d10_62 : decode prog_39_method_13_code 62 = .ok (.irem, 1) := by decide +kernel
theorem d10_63 : decode prog_39_method_13_code 63 = .ok (.lshl, 1) := by decide +kernel
theorem d10_64 : decode prog_39_method_13_code 64 = .ok (.lor, 1) := by decide +kernel
theorem d10_65 : decode prog_39_method_13_code 65 = .ok (.lastore, 1) := by decide +kernel
theorem d10_66 : decode prog_39_method_13_code 66 = .ok (.aload_n 0, 1) := by decide +kernel
theorem d10_67 : decode prog_39_method_13_code 67 = .ok (.getfield 20, 3) := by decide +kernel
theorem d10_70 : decode prog_39_method_13_code 70 = .ok (.iload_n 2, 1) := by decide +kernel
theorem d10_71 : decode prog_39_method_13_code 71 = .ok (.bipush 64, 2) := by decide +kernel
theorem d10_73 : decode prog_39_method_13_code 73 = .ok (.idiv, 1) := by decide +kernel
theorem d10_74 : decode prog_39_method_13_code 74 = .ok (.bipush 64, 2) := by decide +kernel
theorem d10_76 : decode prog_39_method_13_code 76 = .ok (.idiv, 1) := by decide +kernel
theorem d10_77 : decode prog_39_method_13_code 77 = .ok (.dup2, 1) := by decide +kernel
theorem d10_78 : decode prog_39_method_13_code 78 = .ok (.laload, 1) := by decide +kernel
theorem d10_79 : decode prog_39_method_13_code 79 = .ok (.lconst 1, 1) := by decide +kernel
theorem d10_80 : decode prog_39_method_13_code 80 = .ok (.iload_n 2, 1) := by decide +kernel
theorem d10_81 : decode prog_39_method_13_code 81 = .ok (.bipush 64, 2) := by decide +kernel
theorem d10_83 : decode prog_39_method_13_code 83 = .ok (.idiv, 1) := by decide +kernel
theorem d10_84 : decode prog_39_method_13_code 84 = .ok (.bipush 64, 2) := by decide +kernel
theorem d10_86 : decode prog_39_method_13_code 86 = .ok (.irem, 1) := by decide +kernel
theorem d10_87 : decode prog_39_method_13_code 87 = .ok (.lshl, 1) := by decide +kernel
theorem d10_88 : decode prog_39_method_13_code 88 = .ok (.lor, 1) := by decide +kernel
theorem d10_89 : decode prog_39_method_13_code 89 = .ok (.lastore, 1) := by decide +kernel
theorem d10_90 : decode prog_39_method_13_code 90 = .ok (.aload_n 0, 1) := by decide +kernel
theorem d10_91 : decode prog_39_method_13_code 91 = .ok (.getfield 10, 3) := by decide +kernel
theorem d10_94 : decode prog_39_method_13_code 94 = .ok (.iload_n 2, 1) := by decide +kernel
theorem d10_95 : decode prog_39_method_13_code 95 = .ok (.iload_n 1, 1) := by decide +kernel
theorem d10_96 : decode prog_39_method_13_code 96 = .ok (.iastore, 1) := by decide +kernel
theorem d10_97 : decode prog_39_method_13_code 97 = .ok (.aload_n 0, 1) := by decide +kernel
theorem d10_98 : decode prog_39_method_13_code 98 = .ok (.getfield 32, 3) := by decide +kernel
theorem d10_101 : decode prog_39_method_13_code 101 = .ok (.iload_n 1, 1) := by decide +kernel
theorem d10_102 : decode prog_39_method_13_code 102 = .ok (.iconst 1, 1) := by decide +kernel
theorem d10_103 : decode prog_39_method_13_code 103 = .ok (.bastore, 1) := by decide +kernel
theorem d10_104 : decode prog_39_method_13_code 104 = .ok (.aload_n 0, 1) := by decide +kernel
theorem d10_105 : decode prog_39_method_13_code 105 = .ok (.dup, 1) := by decide +kernel
theorem d10_106 : decode prog_39_method_13_code 106 = .ok (.getfield 54, 3) := by decide +kernel
theorem d10_109 : decode prog_39_method_13_code 109 = .ok (.iconst 1, 1) := by decide +kernel
theorem d10_110 : decode prog_39_method_13_code 110 = .ok (.iadd, 1) := by decide +kernel
theorem d10_111 : decode prog_39_method_13_code 111 = .ok (.putfield 54, 3) := by decide +kernel
theorem d10_114 : decode prog_39_method_13_code 114 = .ok (.return_, 1) := by decide +kernel
theorem ne0_5 {kq aF aO aW aK aB aA aI hp lo aE aP : Addr} (h : List.Nodup [kq, aF, aO, aW, aK, aB, aA, aI, hp, lo, aE, aP]) : kq ≠ aB := own_nd h 0 5 rfl rfl (by decide)
theorem ne6_5 {kq aF aO aW aK aB aA aI hp lo aE aP : Addr} (h : List.Nodup [kq, aF, aO, aW, aK, aB, aA, aI, hp, lo, aE, aP]) : aA ≠ aB := own_nd h 6 5 rfl rfl (by decide)
theorem ne0_6 {kq aF aO aW aK aB aA aI hp lo aE aP : Addr} (h : List.Nodup [kq, aF, aO, aW, aK, aB, aA, aI, hp, lo, aE, aP]) : kq ≠ aA := own_nd h 0 6 rfl rfl (by decide)
theorem ne2_5 {kq aF aO aW aK aB aA aI hp lo aE aP : Addr} (h : List.Nodup [kq, aF, aO, aW, aK, aB, aA, aI, hp, lo, aE, aP]) : aO ≠ aB := own_nd h 2 5 rfl rfl (by decide)
theorem ne2_6 {kq aF aO aW aK aB aA aI hp lo aE aP : Addr} (h : List.Nodup [kq, aF, aO, aW, aK, aB, aA, aI, hp, lo, aE, aP]) : aO ≠ aA := own_nd h 2 6 rfl rfl (by decide)
theorem ne0_2 {kq aF aO aW aK aB aA aI hp lo aE aP : Addr} (h : List.Nodup [kq, aF, aO, aW, aK, aB, aA, aI, hp, lo, aE, aP]) : kq ≠ aO := own_nd h 0 2 rfl rfl (by decide)
theorem ne3_5 {kq aF aO aW aK aB aA aI hp lo aE aP : Addr} (h : List.Nodup [kq, aF, aO, aW, aK, aB, aA, aI, hp, lo, aE, aP]) : aW ≠ aB := own_nd h 3 5 rfl rfl (by decide)
theorem ne3_6 {kq aF aO aW aK aB aA aI hp lo aE aP : Addr} (h : List.Nodup [kq, aF, aO, aW, aK, aB, aA, aI, hp, lo, aE, aP]) : aW ≠ aA := own_nd h 3 6 rfl rfl (by decide)
theorem ne3_2 {kq aF aO aW aK aB aA aI hp lo aE aP : Addr} (h : List.Nodup [kq, aF, aO, aW, aK, aB, aA, aI, hp, lo, aE, aP]) : aW ≠ aO := own_nd h 3 2 rfl rfl (by decide)
theorem ne0_3 {kq aF aO aW aK aB aA aI hp lo aE aP : Addr} (h : List.Nodup [kq, aF, aO, aW, aK, aB, aA, aI, hp, lo, aE, aP]) : kq ≠ aW := own_nd h 0 3 rfl rfl (by decide)
theorem ne7_5 {kq aF aO aW aK aB aA aI hp lo aE aP : Addr} (h : List.Nodup [kq, aF, aO, aW, aK, aB, aA, aI, hp, lo, aE, aP]) : aI ≠ aB := own_nd h 7 5 rfl rfl (by decide)
theorem ne7_6 {kq aF aO aW aK aB aA aI hp lo aE aP : Addr} (h : List.Nodup [kq, aF, aO, aW, aK, aB, aA, aI, hp, lo, aE, aP]) : aI ≠ aA := own_nd h 7 6 rfl rfl (by decide)
theorem ne7_2 {kq aF aO aW aK aB aA aI hp lo aE aP : Addr} (h : List.Nodup [kq, aF, aO, aW, aK, aB, aA, aI, hp, lo, aE, aP]) : aI ≠ aO := own_nd h 7 2 rfl rfl (by decide)
theorem ne7_3 {kq aF aO aW aK aB aA aI hp lo aE aP : Addr} (h : List.Nodup [kq, aF, aO, aW, aK, aB, aA, aI, hp, lo, aE, aP]) : aI ≠ aW := own_nd h 7 3 rfl rfl (by decide)
theorem ne4_5 {kq aF aO aW aK aB aA aI hp lo aE aP : Addr} (h : List.Nodup [kq, aF, aO, aW, aK, aB, aA, aI, hp, lo, aE, aP]) : aK ≠ aB := own_nd h 4 5 rfl rfl (by decide)
theorem ne4_6 {kq aF aO aW aK aB aA aI hp lo aE aP : Addr} (h : List.Nodup [kq, aF, aO, aW, aK, aB, aA, aI, hp, lo, aE, aP]) : aK ≠ aA := own_nd h 4 6 rfl rfl (by decide)
theorem ne4_2 {kq aF aO aW aK aB aA aI hp lo aE aP : Addr} (h : List.Nodup [kq, aF, aO, aW, aK, aB, aA, aI, hp, lo, aE, aP]) : aK ≠ aO := own_nd h 4 2 rfl rfl (by decide)
theorem ne4_3 {kq aF aO aW aK aB aA aI hp lo aE aP : Addr} (h : List.Nodup [kq, aF, aO, aW, aK, aB, aA, aI, hp, lo, aE, aP]) : aK ≠ aW := own_nd h 4 3 rfl rfl (by decide)
theorem ne5_6 {kq aF aO aW aK aB aA aI hp lo aE aP : Addr} (h : List.Nodup [kq, aF, aO, aW, aK, aB, aA, aI, hp, lo, aE, aP]) : aB ≠ aA := own_nd h 5 6 rfl rfl (by decide)
theorem ne5_2 {kq aF aO aW aK aB aA aI hp lo aE aP : Addr} (h : List.Nodup [kq, aF, aO, aW, aK, aB, aA, aI, hp, lo, aE, aP]) : aB ≠ aO := own_nd h 5 2 rfl rfl (by decide)
theorem ne5_3 {kq aF aO aW aK aB aA aI hp lo aE aP : Addr} (h : List.Nodup [kq, aF, aO, aW, aK, aB, aA, aI, hp, lo, aE, aP]) : aB ≠ aW := own_nd h 5 3 rfl rfl (by decide)
theorem ne6_2 {kq aF aO aW aK aB aA aI hp lo aE aP : Addr} (h : List.Nodup [kq, aF, aO, aW, aK, aB, aA, aI, hp, lo, aE, aP]) : aA ≠ aO := own_nd h 6 2 rfl rfl (by decide)
theorem ne6_3 {kq aF aO aW aK aB aA aI hp lo aE aP : Addr} (h : List.Nodup [kq, aF, aO, aW, aK, aB, aA, aI, hp, lo, aE, aP]) : aA ≠ aW := own_nd h 6 3 rfl rfl (by decide)
theorem ne1_5 {kq aF aO aW aK aB aA aI hp lo aE aP : Addr} (h : List.Nodup [kq, aF, aO, aW, aK, aB, aA, aI, hp, lo, aE, aP]) : aF ≠ aB := own_nd h 1 5 rfl rfl (by decide)
theorem ne1_6 {kq aF aO aW aK aB aA aI hp lo aE aP : Addr} (h : List.Nodup [kq, aF, aO, aW, aK, aB, aA, aI, hp, lo, aE, aP]) : aF ≠ aA := own_nd h 1 6 rfl rfl (by decide)
theorem ne1_2 {kq aF aO aW aK aB aA aI hp lo aE aP : Addr} (h : List.Nodup [kq, aF, aO, aW, aK, aB, aA, aI, hp, lo, aE, aP]) : aF ≠ aO := own_nd h 1 2 rfl rfl (by decide)
theorem ne1_3 {kq aF aO aW aK aB aA aI hp lo aE aP : Addr} (h : List.Nodup [kq, aF, aO, aW, aK, aB, aA, aI, hp, lo, aE, aP]) : aF ≠ aW := own_nd h 1 3 rfl rfl (by decide)
theorem ne2_3 {kq aF aO aW aK aB aA aI hp lo aE aP : Addr} (h : List.Nodup [kq, aF, aO, aW, aK, aB, aA, aI, hp, lo, aE, aP]) : aO ≠ aW := own_nd h 2 3 rfl rfl (by decide)
theorem ne0_1 {kq aF aO aW aK aB aA aI hp lo aE aP : Addr} (h : List.Nodup [kq, aF, aO, aW, aK, aB, aA, aI, hp, lo, aE, aP]) : kq ≠ aF := own_nd h 0 1 rfl rfl (by decide)
theorem ne7_1 {kq aF aO aW aK aB aA aI hp lo aE aP : Addr} (h : List.Nodup [kq, aF, aO, aW, aK, aB, aA, aI, hp, lo, aE, aP]) : aI ≠ aF := own_nd h 7 1 rfl rfl (by decide)
theorem ne0_7 {kq aF aO aW aK aB aA aI hp lo aE aP : Addr} (h : List.Nodup [kq, aF, aO, aW, aK, aB, aA, aI, hp, lo, aE, aP]) : kq ≠ aI := own_nd h 0 7 rfl rfl (by decide)
theorem ne5_1 {kq aF aO aW aK aB aA aI hp lo aE aP : Addr} (h : List.Nodup [kq, aF, aO, aW, aK, aB, aA, aI, hp, lo, aE, aP]) : aB ≠ aF := own_nd h 5 1 rfl rfl (by decide)
theorem ne5_7 {kq aF aO aW aK aB aA aI hp lo aE aP : Addr} (h : List.Nodup [kq, aF, aO, aW, aK, aB, aA, aI, hp, lo, aE, aP]) : aB ≠ aI := own_nd h 5 7 rfl rfl (by decide)
theorem ne5_0 {kq aF aO aW aK aB aA aI hp lo aE aP : Addr} (h : List.Nodup [kq, aF, aO, aW, aK, aB, aA, aI, hp, lo, aE, aP]) : aB ≠ kq := own_nd h 5 0 rfl rfl (by decide)
theorem ne6_1 {kq aF aO aW aK aB aA aI hp lo aE aP : Addr} (h : List.Nodup [kq, aF, aO, aW, aK, aB, aA, aI, hp, lo, aE, aP]) : aA ≠ aF := own_nd h 6 1 rfl rfl (by decide)
theorem ne6_7 {kq aF aO aW aK aB aA aI hp lo aE aP : Addr} (h : List.Nodup [kq, aF, aO, aW, aK, aB, aA, aI, hp, lo, aE, aP]) : aA ≠ aI := own_nd h 6 7 rfl rfl (by decide)
theorem ne6_0 {kq aF aO aW aK aB aA aI hp lo aE aP : Addr} (h : List.Nodup [kq, aF, aO, aW, aK, aB, aA, aI, hp, lo, aE, aP]) : aA ≠ kq := own_nd h 6 0 rfl rfl (by decide)
theorem ne7_0 {kq aF aO aW aK aB aA aI hp lo aE aP : Addr} (h : List.Nodup [kq, aF, aO, aW, aK, aB, aA, aI, hp, lo, aE, aP]) : aI ≠ kq := own_nd h 7 0 rfl rfl (by decide)
theorem ne1_7 {kq aF aO aW aK aB aA aI hp lo aE aP : Addr} (h : List.Nodup [kq, aF, aO, aW, aK, aB, aA, aI, hp, lo, aE, aP]) : aF ≠ aI := own_nd h 1 7 rfl rfl (by decide)
theorem ne1_0 {kq aF aO aW aK aB aA aI hp lo aE aP : Addr} (h : List.Nodup [kq, aF, aO, aW, aK, aB, aA, aI, hp, lo, aE, aP]) : aF ≠ kq := own_nd h 1 0 rfl rfl (by decide)
theorem ne2_1 {kq aF aO aW aK aB aA aI hp lo aE aP : Addr} (h : List.Nodup [kq, aF, aO, aW, aK, aB, aA, aI, hp, lo, aE, aP]) : aO ≠ aF := own_nd h 2 1 rfl rfl (by decide)
theorem ne2_7 {kq aF aO aW aK aB aA aI hp lo aE aP : Addr} (h : List.Nodup [kq, aF, aO, aW, aK, aB, aA, aI, hp, lo, aE, aP]) : aO ≠ aI := own_nd h 2 7 rfl rfl (by decide)
theorem ne2_0 {kq aF aO aW aK aB aA aI hp lo aE aP : Addr} (h : List.Nodup [kq, aF, aO, aW, aK, aB, aA, aI, hp, lo, aE, aP]) : aO ≠ kq := own_nd h 2 0 rfl rfl (by decide)
theorem ne3_1 {kq aF aO aW aK aB aA aI hp lo aE aP : Addr} (h : List.Nodup [kq, aF, aO, aW, aK, aB, aA, aI, hp, lo, aE, aP]) : aW ≠ aF := own_nd h 3 1 rfl rfl (by decide)
theorem ne3_7 {kq aF aO aW aK aB aA aI hp lo aE aP : Addr} (h : List.Nodup [kq, aF, aO, aW, aK, aB, aA, aI, hp, lo, aE, aP]) : aW ≠ aI := own_nd h 3 7 rfl rfl (by decide)
theorem ne3_0 {kq aF aO aW aK aB aA aI hp lo aE aP : Addr} (h : List.Nodup [kq, aF, aO, aW, aK, aB, aA, aI, hp, lo, aE, aP]) : aW ≠ kq := own_nd h 3 0 rfl rfl (by decide)
theorem ef_rm_klink2 (m : MethodId) (x0 : Addr) (x1 : Int32) : entryFrame m #[(.ref x0), (.int x1)] 4 = mkF m 0 #[.val (.ref x0), .val (.int x1), .unset, .unset] [] := by first | (simp [entryFrame, mkF, argsToLocals, Value.category]; done) | rfl
def Q_rm_klink2 (Z : State) (kq : Addr) (en : Int32) (aF aO aW aK aB aA aI hp lo aE aP : Addr) (kK kB kA kI kF kO kW : ClassId) (bk ib0 ib1 : Int32) (fl : Int64) (h0 : Heap) (n0 : Nat) (v : Option Value) (h : Heap) (L : List Loc) : Prop := v = none ∧ Fr n0 L ∧ Keep h0 h [kq, aB, aA, aI, aF, aO, aW] ∧ Fld Z h kq cQ "keys" "[J" (.ref aK) ∧ Fld Z h kq cQ "before" "[I" (.ref aB) ∧ Fld Z h kq cQ "after" "[I" (.ref aA) ∧ Fld Z h kq cQ "inBucket" "[Z" (.ref aI) ∧ Fld Z h kq cQ "firsts" "[I" (.ref aF) ∧ Fld Z h kq cQ "occupied" "[J" (.ref aO) ∧ Fld Z h kq cQ "occupiedWords" "[J" (.ref aW) ∧ Fld Z h kq cQ "further" "Lcom/example/leasewise/leasewise/IndexedHeap;" (.ref hp) ∧ Fld Z h kq cQ "bucketed" "I" (.int (bk + (1 : Int32))) ∧ Fld Z h kq cQ "floor" "J" (.long fl) ∧ Arp Z h aB kB .int (2 : Int32) PI ∧ Arp Z h aA kA .int (2 : Int32) PI ∧ Arv Z h aI kI .boolean (2 : Int32) [(.int (s2 en 0 (1 : Int32) ib0)), (.int (s2 en 1 (1 : Int32) ib1))] (.int (0 : Int32)) ∧ Arp Z h aF kF .int (65536 : Int32) PI ∧ Arp Z h aO kO .long (1024 : Int32) PJ ∧ Arp Z h aW kW .long (16 : Int32) PJ
set_option maxRecDepth 65536 in
set_option maxHeartbeats 40000000 in
theorem rm_klink2 (l : Launch) (Z : State) (a0 : Array Value) (hw : ∀ d ∈ tables_1, d.before a0 Z = true) (ws : List Jvm.Cond) (kq : Addr) (en : Int32) (aF aO aW aK aB aA aI hp lo aE aP : Addr) (kK kB kA kI kF kO kW : ClassId) (bk ib0 ib1 : Int32) (fl : Int64) (h0 : Heap) (n0 : Nat) (O0 : Old Z n0 h0) (E_kq : Exa Z h0 kq cQ) (F_kq_keys : Fld Z h0 kq cQ "keys" "[J" (.ref aK)) (F_kq_before : Fld Z h0 kq cQ "before" "[I" (.ref aB)) (F_kq_after : Fld Z h0 kq cQ "after" "[I" (.ref aA)) (F_kq_inBucket : Fld Z h0 kq cQ "inBucket" "[Z" (.ref aI)) (F_kq_firsts : Fld Z h0 kq cQ "firsts" "[I" (.ref aF)) (F_kq_occupied : Fld Z h0 kq cQ "occupied" "[J" (.ref aO)) (F_kq_occupiedWords : Fld Z h0 kq cQ "occupiedWords" "[J" (.ref aW)) (F_kq_further : Fld Z h0 kq cQ "further" "Lcom/example/leasewise/leasewise/IndexedHeap;" (.ref hp)) (F_kq_bucketed : Fld Z h0 kq cQ "bucketed" "I" (.int bk)) (F_kq_floor : Fld Z h0 kq cQ "floor" "J" (.long fl)) (V_aI : Arv Z h0 aI kI .boolean (2 : Int32) [(.int ib0), (.int ib1)] (.int (0 : Int32))) (NDp : List.Nodup [kq, aF, aO, aW, aK, aB, aA, aI, hp, lo, aE, aP]) (he : I2 en) (g_kq : n0 ≤ kq) (g_aB : n0 ≤ aB) (g_aA : n0 ≤ aA) (g_aI : n0 ≤ aI) (g_aF : n0 ≤ aF) (g_aO : n0 ≤ aO) (g_aW : n0 ≤ aW) (V_aK : Arp Z h0 aK kK .long (2 : Int32) PJ) (V_aB : Arp Z h0 aB kB .int (2 : Int32) PI) (V_aA : Arp Z h0 aA kA .int (2 : Int32) PI) (V_aF : Arp Z h0 aF kF .int (65536 : Int32) PI) (V_aO : Arp Z h0 aO kO .long (1024 : Int32) PJ) (V_aW : Arp Z h0 aW kW .long (16 : Int32) PJ) :
    MetFree l (⟨cQ, "link", "(I)V"⟩ : MethodName) (head1 (Jvm.Cond.code (⟨cQ, "link", "(I)V"⟩ : MethodName) prog_39_method_13_code 4 none :: ws) ({ frames := 0, cells := 0, slots := 0, locals := 0 } : Room)) (fun a U => a = #[(.ref kq), (.int en)] ∧ Z.WarmedH U.vm ∧ U.heap = h0) (fun _ _ _ _ _ => True) (fun _ U o U' => ∃ v L, o = .returned v ∧ Q_rm_klink2 Z kq en aF aO aW aK aB aA aI hp lo aE aP kK kB kA kI kF kO kW bk ib0 ib1 fl h0 n0 v U'.heap L ∧ FrameEnd U o U' L ({ frames := 0, cells := 0, slots := 0, locals := 0 } : Room).cells ({ frames := 0, cells := 0, slots := 0, locals := 0 } : Room).slots) := by
  refine MetFree.of_bodySF (plainFor_of_name pn_2) hisR ?_
  intro p e s m args below meth c s₁ Bd hml0 hP hK
  obtain ⟨rfl, hZH, hh⟩ := hP
  have hZ := hZH.wide
  have hx := Bd.exec
  have hby := Bd.bytes
  have D := fun {pc : Nat} {r : Except ClassFile.DecodeError (ClassFile.Instr × Nat)} (q : decode prog_39_method_13_code pc = r) => hb (pc := pc) hby q
  have hml : c.maxLocals = 4 := hml0
  have hown : s.vm.findClass cQ = some m.cls := findClass_of_methodNamed Bd.named
  have hnm := (name_of_methodNamed Bd.named Bd.method).1
  have X0 : Stand p l e ({ frames := 0, cells := 0, slots := 0, locals := 0 } : Room) s m #[(.ref kq), (.int en)] below meth c s₁ [] 0 0 := Stand.of_body Bd
  have e0 : s₁.heap = h0 := by rw [← hh, Bd.state]; rfl
  have N0 := Fr.nil n0
  have pre0 : ∀ t, Steps p.tables e below (s₁.setTop (mkF m 0 #[.val (.ref kq), .val (.int en), .unset, .unset] [])) t → Steps p.tables e below (s₁.setTop (entryFrame m #[(.ref kq), (.int en)] 4)) t := fun t k => castTop (ef_rm_klink2 m (kq) (en)) k
  have wd := fun {d : Jvm.Cond} (i : Nat) (h : tables_1[i]? = some d) => hw d (List.mem_of_getElem? h)
  obtain ⟨T1, X1, e1, st1⟩ := getF X0 hx hZ hown (host := "") (Or.inl (wd 18 rfl)) Via.refl e0 F_kq_keys (g := (mkF m 1 #[.val (.ref kq), .val (.int en), .unset, .unset] [(.ref kq)])) rfl rfl (D d10_1)
  obtain ⟨cl2, Ar2, q2, S2, Nn2, H2, -⟩ := id V_aK
  have hin2 : ¬ (en < 0 ∨ cl2.slots.size ≤ (en).toNatClampNeg) := inb_of S2 (own_in2 he)
  obtain ⟨_, hat2, v2, rfl⟩ := Arp.get H2 hin2
  have C2 : Elt h0 aK (en).toNatClampNeg (.long v2) := ⟨cl2, Ar2.1, hat2⟩
  obtain ⟨T3, X3, e3, st3⟩ := getF X1 hx hZ hown (host := "") (Or.inl (wd 11 rfl)) Via.refl e1 F_kq_firsts (g := (mkF m 13 #[.val (.ref kq), .val (.int en), .val (.int ((v2 &&& (65535 : Int64)).toInt32)), .unset] [(.ref kq)])) rfl rfl (D d10_13)
  obtain ⟨cl4, Ar4, q4, S4, Nn4, H4, -⟩ := id V_aF
  have hin4 : ¬ (((v2 &&& (65535 : Int64)).toInt32) < 0 ∨ cl4.slots.size ≤ (((v2 &&& (65535 : Int64)).toInt32)).toNatClampNeg) := inb_of S4 (own_bkl (own_bk v2) (by decide))
  obtain ⟨_, hat4, v4, rfl, pi4⟩ := Arp.get H4 hin4
  have C4 : Elt h0 aF (((v2 &&& (65535 : Int64)).toInt32)).toNatClampNeg (.int v4) := ⟨cl4, Ar4.1, hat4⟩
  obtain ⟨T5, X5, e5, st5⟩ := getF X3 hx hZ hown (host := "") (Or.inl (wd 20 rfl)) Via.refl e3 F_kq_before (g := (mkF m 20 #[.val (.ref kq), .val (.int en), .val (.int ((v2 &&& (65535 : Int64)).toInt32)), .val (.int v4)] [(.ref kq)])) rfl rfl (D d10_20)
  obtain ⟨cl6, Ar6, q6, S6, Nn6, H6, G6⟩ := id V_aB
  have hin6 : ¬ (en < 0 ∨ cl6.slots.size ≤ (en).toNatClampNeg) := inb_of S6 (own_in2 he)
  obtain ⟨T6, h6, X6, e6, W6, st6⟩ := stI X5 hx hZ e5 Ar6 (j := en) hin6 (g := (mkF m 25 #[.val (.ref kq), .val (.int en), .val (.int ((v2 &&& (65535 : Int64)).toInt32)), .val (.int v4)] [(.int (-1 : Int32)), (.int en), (.ref aB)])) rfl rfl (D d10_25)
  have V6 : Arp Z h6 aB kB .int (2 : Int32) PI := Arp.set Ar6 q6 S6 Nn6 H6 (own_PI (by decide)) W6
  have N6 := Fr.snoc X6 N0 g_aB
  have Zn6 : n0 ≤ h6.size := Nat.le_trans (own_oldsz O0) (Keep.of_wr W6).1
  have K6 : Keep h0 h6 [kq, aB, aA, aI, aF, aO, aW] := (Keep.refl h0 [kq, aB, aA, aI, aF, aO, aW]).wr W6 (Or.inl (List.mem_of_getElem? (i := 1) rfl))
  have O6 := O0.wr W6 g_aB
  have f7 := (F_kq_after.other W6 (Or.inl (ne0_5 NDp)))
  obtain ⟨T8, X8, e8, st8⟩ := getF X6 hx hZ hown (host := "") (Or.inl (wd 22 rfl)) Via.refl e6 f7 (g := (mkF m 27 #[.val (.ref kq), .val (.int en), .val (.int ((v2 &&& (65535 : Int64)).toInt32)), .val (.int v4)] [(.ref kq)])) rfl rfl (D d10_27)
  have f10 := (V_aA.other W6 (ne6_5 NDp))
  obtain ⟨cl9, Ar9, q9, S9, Nn9, H9, G9⟩ := id f10
  have hin9 : ¬ (en < 0 ∨ cl9.slots.size ≤ (en).toNatClampNeg) := inb_of S9 (own_in2 he)
  obtain ⟨T9, h9, X9, e9, W9, st9⟩ := stI X8 hx hZ e8 Ar9 (j := en) hin9 (g := (mkF m 32 #[.val (.ref kq), .val (.int en), .val (.int ((v2 &&& (65535 : Int64)).toInt32)), .val (.int v4)] [(.int v4), (.int en), (.ref aA)])) rfl rfl (D d10_32)
  have V9 : Arp Z h9 aA kA .int (2 : Int32) PI := Arp.set Ar9 q9 S9 Nn9 H9 (own_PI pi4) W9
  have N9 := Fr.snoc X9 N6 g_aA
  have Zn9 : n0 ≤ h9.size := Nat.le_trans Zn6 (Keep.of_wr W9).1
  have K9 : Keep h0 h9 [kq, aB, aA, aI, aF, aO, aW] := K6.wr W9 (Or.inl (List.mem_of_getElem? (i := 2) rfl))
  have O9 := O6.wr W9 g_aA
  have cs12 : Steps p.tables e below (s₁.setTop (mkF m 0 #[.val (.ref kq), .val (.int en), .unset, .unset] [])) (T9.setTop (mkF m 35 #[.val (.ref kq), .val (.int en), .val (.int ((v2 &&& (65535 : Int64)).toInt32)), .val (.int v4)] [(.int (-1 : Int32)), (.int v4)])) := (by
    refine s_aloadN X0 hx (D d10_0) rfl rfl ?_
    refine st1 _ ?_
    refine s_iloadN X1 hx (D d10_4) rfl ?_
    refine X1.laload hx (j := en) (v := (.long v2)) (by rw [e1]; exact (Ar2).1) (State.isArrayOf_alike hZ.alike (Ar2).2.1) (Ar2).2.2 hin2 hat2 (g := (mkF m 5 #[.val (.ref kq), .val (.int en), .unset, .unset] [(.int en), (.ref aK)])) rfl rfl (D d10_5) _ ?_
    refine X1.ldc2Long hx hown (mvT hZ (wd 88 rfl)) (g := (mkF m 6 #[.val (.ref kq), .val (.int en), .unset, .unset] [(.long v2)])) rfl (D d10_6) _ ?_
    refine s_land X1 hx (D d10_9) rfl ?_
    refine s_l2i X1 hx (D d10_10) rfl ?_
    refine s_istoreN X1 hx (D d10_11) (l' := #[.val (.ref kq), .val (.int en), .val (.int ((v2 &&& (65535 : Int64)).toInt32)), .unset]) rfl ?_
    refine s_aloadN X1 hx (D d10_12) rfl rfl ?_
    refine st3 _ ?_
    refine s_iloadN X3 hx (D d10_16) rfl ?_
    refine X3.iaload hx (j := ((v2 &&& (65535 : Int64)).toInt32)) (v := (.int v4)) (by rw [e3]; exact (Ar4).1) (State.isArrayOf_alike hZ.alike (Ar4).2.1) (Ar4).2.2 hin4 hat4 (g := (mkF m 17 #[.val (.ref kq), .val (.int en), .val (.int ((v2 &&& (65535 : Int64)).toInt32)), .unset] [(.int ((v2 &&& (65535 : Int64)).toInt32)), (.ref aF)])) rfl rfl (D d10_17) _ ?_
    refine s_istoreN X3 hx (D d10_18) (l' := #[.val (.ref kq), .val (.int en), .val (.int ((v2 &&& (65535 : Int64)).toInt32)), .val (.int v4)]) rfl ?_
    refine s_aloadN X3 hx (D d10_19) rfl rfl ?_
    refine st5 _ ?_
    refine s_iloadN X5 hx (D d10_23) rfl ?_
    refine s_iconst X5 hx (-1 : Int32) (D d10_24) rfl ?_
    refine st6 _ ?_
    refine s_aloadN X6 hx (D d10_26) rfl rfl ?_
    refine st8 _ ?_
    refine s_iloadN X8 hx (D d10_30) rfl ?_
    refine s_iloadN X8 hx (D d10_31) rfl ?_
    refine st9 _ ?_
    refine s_iloadN X9 hx (D d10_33) rfl ?_
    refine s_iconst X9 hx (-1 : Int32) (D d10_34) rfl ?_
    exact Steps.refl _)
  have jn11 : ∃ (T : State) (L : List Loc) (h : Heap), Stand p l e ({ frames := 0, cells := 0, slots := 0, locals := 0 } : Room) s m #[(.ref kq), (.int en)] below meth c T L 0 0 ∧ T.heap = h ∧ Fr n0 L ∧ Keep h0 h [kq, aB, aA, aI, aF, aO, aW] ∧ Old Z n0 h ∧ Exa Z h kq cQ ∧ Fld Z h kq cQ "keys" "[J" (.ref aK) ∧ Fld Z h kq cQ "before" "[I" (.ref aB) ∧ Fld Z h kq cQ "after" "[I" (.ref aA) ∧ Fld Z h kq cQ "inBucket" "[Z" (.ref aI) ∧ Fld Z h kq cQ "firsts" "[I" (.ref aF) ∧ Fld Z h kq cQ "occupied" "[J" (.ref aO) ∧ Fld Z h kq cQ "occupiedWords" "[J" (.ref aW) ∧ Fld Z h kq cQ "further" "Lcom/example/leasewise/leasewise/IndexedHeap;" (.ref hp) ∧ Fld Z h kq cQ "bucketed" "I" (.int bk) ∧ Fld Z h kq cQ "floor" "J" (.long fl) ∧ Arv Z h aI kI .boolean (2 : Int32) [(.int ib0), (.int ib1)] (.int (0 : Int32)) ∧ Arp Z h aK kK .long (2 : Int32) PJ ∧ Arp Z h aB kB .int (2 : Int32) PI ∧ Arp Z h aA kA .int (2 : Int32) PI ∧ Arp Z h aF kF .int (65536 : Int32) PI ∧ Arp Z h aO kO .long (1024 : Int32) PJ ∧ Arp Z h aW kW .long (16 : Int32) PJ ∧ Steps p.tables e below (s₁.setTop (mkF m 0 #[.val (.ref kq), .val (.int en), .unset, .unset] [])) (T.setTop (mkF m 90 #[.val (.ref kq), .val (.int en), .val (.int ((v2 &&& (65535 : Int64)).toInt32)), .val (.int v4)] [])) := by
    by_cases hc13 : v4 = (-1 : Int32)
    · have f14 := ((F_kq_occupied.other W6 (Or.inl (ne0_5 NDp))).other W9 (Or.inl (ne0_6 NDp)))
      obtain ⟨T15, X15, e15, st15⟩ := getF X9 hx hZ hown (host := "") (Or.inl (wd 14 rfl)) Via.refl e9 f14 (g := (mkF m 49 #[.val (.ref kq), .val (.int en), .val (.int ((v2 &&& (65535 : Int64)).toInt32)), .val (.int v4)] [(.ref kq)])) rfl rfl (D d10_49)
      have f17 := ((V_aO.other W6 (ne2_5 NDp)).other W9 (ne2_6 NDp))
      obtain ⟨cl16, Ar16, q16, S16, Nn16, H16, -⟩ := id f17
      have hin16 : ¬ ((((v2 &&& (65535 : Int64)).toInt32) / (64 : Int32)) < 0 ∨ cl16.slots.size ≤ ((((v2 &&& (65535 : Int64)).toInt32) / (64 : Int32))).toNatClampNeg) := inb_of S16 (own_bkl (own_div64 (n := 1024) (own_bk v2)) (by decide))
      obtain ⟨_, hat16, v16, rfl⟩ := Arp.get H16 hin16
      have C16 : Elt h9 aO ((((v2 &&& (65535 : Int64)).toInt32) / (64 : Int32))).toNatClampNeg (.long v16) := ⟨cl16, Ar16.1, hat16⟩
      obtain ⟨cl18, Ar18, q18, S18, Nn18, H18, G18⟩ := id f17
      have hin18 : ¬ ((((v2 &&& (65535 : Int64)).toInt32) / (64 : Int32)) < 0 ∨ cl18.slots.size ≤ ((((v2 &&& (65535 : Int64)).toInt32) / (64 : Int32))).toNatClampNeg) := inb_of S18 (own_bkl (own_div64 (n := 1024) (own_bk v2)) (by decide))
      obtain ⟨T18, h18, X18, e18, W18, st18⟩ := stJ X15 hx hZ e15 Ar18 (j := (((v2 &&& (65535 : Int64)).toInt32) / (64 : Int32))) hin18 (g := (mkF m 65 #[.val (.ref kq), .val (.int en), .val (.int ((v2 &&& (65535 : Int64)).toInt32)), .val (.int v4)] [(.long (v16 ||| ((1 : Int64) <<< ((((v2 &&& (65535 : Int64)).toInt32) % (64 : Int32)) &&& 0x3f).toInt64))), (.int (((v2 &&& (65535 : Int64)).toInt32) / (64 : Int32))), (.ref aO)])) rfl rfl (D d10_65)
      have V18 : Arp Z h18 aO kO .long (1024 : Int32) PJ := Arp.set Ar18 q18 S18 Nn18 H18 (own_PJ _) W18
      have N18 := Fr.snoc X18 N9 g_aO
      have Zn18 : n0 ≤ h18.size := Nat.le_trans Zn9 (Keep.of_wr W18).1
      have K18 : Keep h0 h18 [kq, aB, aA, aI, aF, aO, aW] := K9.wr W18 (Or.inl (List.mem_of_getElem? (i := 5) rfl))
      have O18 := O9.wr W18 g_aO
      have f19 := (((F_kq_occupiedWords.other W6 (Or.inl (ne0_5 NDp))).other W9 (Or.inl (ne0_6 NDp))).other W18 (Or.inl (ne0_2 NDp)))
      obtain ⟨T20, X20, e20, st20⟩ := getF X18 hx hZ hown (host := "") (Or.inl (wd 16 rfl)) Via.refl e18 f19 (g := (mkF m 67 #[.val (.ref kq), .val (.int en), .val (.int ((v2 &&& (65535 : Int64)).toInt32)), .val (.int v4)] [(.ref kq)])) rfl rfl (D d10_67)
      have f22 := (((V_aW.other W6 (ne3_5 NDp)).other W9 (ne3_6 NDp)).other W18 (ne3_2 NDp))
      obtain ⟨cl21, Ar21, q21, S21, Nn21, H21, -⟩ := id f22
      have hin21 : ¬ (((((v2 &&& (65535 : Int64)).toInt32) / (64 : Int32)) / (64 : Int32)) < 0 ∨ cl21.slots.size ≤ (((((v2 &&& (65535 : Int64)).toInt32) / (64 : Int32)) / (64 : Int32))).toNatClampNeg) := inb_of S21 (own_bkl (own_div64 (n := 16) (own_div64 (n := 1024) (own_bk v2))) (by decide))
      obtain ⟨_, hat21, v21, rfl⟩ := Arp.get H21 hin21
      have C21 : Elt h18 aW (((((v2 &&& (65535 : Int64)).toInt32) / (64 : Int32)) / (64 : Int32))).toNatClampNeg (.long v21) := ⟨cl21, Ar21.1, hat21⟩
      obtain ⟨cl23, Ar23, q23, S23, Nn23, H23, G23⟩ := id f22
      have hin23 : ¬ (((((v2 &&& (65535 : Int64)).toInt32) / (64 : Int32)) / (64 : Int32)) < 0 ∨ cl23.slots.size ≤ (((((v2 &&& (65535 : Int64)).toInt32) / (64 : Int32)) / (64 : Int32))).toNatClampNeg) := inb_of S23 (own_bkl (own_div64 (n := 16) (own_div64 (n := 1024) (own_bk v2))) (by decide))
      obtain ⟨T23, h23, X23, e23, W23, st23⟩ := stJ X20 hx hZ e20 Ar23 (j := ((((v2 &&& (65535 : Int64)).toInt32) / (64 : Int32)) / (64 : Int32))) hin23 (g := (mkF m 89 #[.val (.ref kq), .val (.int en), .val (.int ((v2 &&& (65535 : Int64)).toInt32)), .val (.int v4)] [(.long (v21 ||| ((1 : Int64) <<< (((((v2 &&& (65535 : Int64)).toInt32) / (64 : Int32)) % (64 : Int32)) &&& 0x3f).toInt64))), (.int ((((v2 &&& (65535 : Int64)).toInt32) / (64 : Int32)) / (64 : Int32))), (.ref aW)])) rfl rfl (D d10_89)
      have V23 : Arp Z h23 aW kW .long (16 : Int32) PJ := Arp.set Ar23 q23 S23 Nn23 H23 (own_PJ _) W23
      have N23 := Fr.snoc X23 N18 g_aW
      have Zn23 : n0 ≤ h23.size := Nat.le_trans Zn18 (Keep.of_wr W23).1
      have K23 : Keep h0 h23 [kq, aB, aA, aI, aF, aO, aW] := K18.wr W23 (Or.inl (List.mem_of_getElem? (i := 6) rfl))
      have O23 := O18.wr W23 g_aW
      have cs24 : Steps p.tables e below (s₁.setTop (mkF m 0 #[.val (.ref kq), .val (.int en), .unset, .unset] [])) (T23.setTop (mkF m 90 #[.val (.ref kq), .val (.int en), .val (.int ((v2 &&& (65535 : Int64)).toInt32)), .val (.int v4)] [])) := cs12.trans (by
        refine s_icmpYes X9 hx 48 (D d10_35) (teq hc13).1 (of_decide_eq_true rfl) rfl ?_
        refine s_aloadN X9 hx (D d10_48) rfl rfl ?_
        refine st15 _ ?_
        refine s_iloadN X15 hx (D d10_52) rfl ?_
        refine s_bipush X15 hx (64 : Int32) (D d10_53) rfl ?_
        refine s_idiv X15 hx (D d10_55) (by decide) rfl ?_
        refine s_dup2 X15 hx (D d10_56) rfl rfl ?_
        refine X15.laload hx (j := (((v2 &&& (65535 : Int64)).toInt32) / (64 : Int32))) (v := (.long v16)) (by rw [e15]; exact (Ar16).1) (State.isArrayOf_alike hZ.alike (Ar16).2.1) (Ar16).2.2 hin16 hat16 (g := (mkF m 57 #[.val (.ref kq), .val (.int en), .val (.int ((v2 &&& (65535 : Int64)).toInt32)), .val (.int v4)] [(.int (((v2 &&& (65535 : Int64)).toInt32) / (64 : Int32))), (.ref aO), (.int (((v2 &&& (65535 : Int64)).toInt32) / (64 : Int32))), (.ref aO)])) rfl rfl (D d10_57) _ ?_
        refine s_lconst X15 hx (1 : Int64) (D d10_58) rfl ?_
        refine s_iloadN X15 hx (D d10_59) rfl ?_
        refine s_bipush X15 hx (64 : Int32) (D d10_60) rfl ?_
        refine s_irem X15 hx (D d10_62) (by decide) rfl ?_
        refine s_lshl X15 hx (D d10_63) rfl ?_
        refine s_lor X15 hx (D d10_64) rfl ?_
        refine st18 _ ?_
        refine s_aloadN X18 hx (D d10_66) rfl rfl ?_
        refine st20 _ ?_
        refine s_iloadN X20 hx (D d10_70) rfl ?_
        refine s_bipush X20 hx (64 : Int32) (D d10_71) rfl ?_
        refine s_idiv X20 hx (D d10_73) (by decide) rfl ?_
        refine s_bipush X20 hx (64 : Int32) (D d10_74) rfl ?_
        refine s_idiv X20 hx (D d10_76) (by decide) rfl ?_
        refine s_dup2 X20 hx (D d10_77) rfl rfl ?_
        refine X20.laload hx (j := ((((v2 &&& (65535 : Int64)).toInt32) / (64 : Int32)) / (64 : Int32))) (v := (.long v21)) (by rw [e20]; exact (Ar21).1) (State.isArrayOf_alike hZ.alike (Ar21).2.1) (Ar21).2.2 hin21 hat21 (g := (mkF m 78 #[.val (.ref kq), .val (.int en), .val (.int ((v2 &&& (65535 : Int64)).toInt32)), .val (.int v4)] [(.int ((((v2 &&& (65535 : Int64)).toInt32) / (64 : Int32)) / (64 : Int32))), (.ref aW), (.int ((((v2 &&& (65535 : Int64)).toInt32) / (64 : Int32)) / (64 : Int32))), (.ref aW)])) rfl rfl (D d10_78) _ ?_
        refine s_lconst X20 hx (1 : Int64) (D d10_79) rfl ?_
        refine s_iloadN X20 hx (D d10_80) rfl ?_
        refine s_bipush X20 hx (64 : Int32) (D d10_81) rfl ?_
        refine s_idiv X20 hx (D d10_83) (by decide) rfl ?_
        refine s_bipush X20 hx (64 : Int32) (D d10_84) rfl ?_
        refine s_irem X20 hx (D d10_86) (by decide) rfl ?_
        refine s_lshl X20 hx (D d10_87) rfl ?_
        refine s_lor X20 hx (D d10_88) rfl ?_
        refine st23 _ ?_
        exact Steps.refl _)
      have f25 := ((((E_kq.wr W6).wr W9).wr W18).wr W23)
      have f26 := ((((F_kq_keys.other W6 (Or.inl (ne0_5 NDp))).other W9 (Or.inl (ne0_6 NDp))).other W18 (Or.inl (ne0_2 NDp))).other W23 (Or.inl (ne0_3 NDp)))
      have f27 := ((((F_kq_before.other W6 (Or.inl (ne0_5 NDp))).other W9 (Or.inl (ne0_6 NDp))).other W18 (Or.inl (ne0_2 NDp))).other W23 (Or.inl (ne0_3 NDp)))
      have f28 := (((f7.other W9 (Or.inl (ne0_6 NDp))).other W18 (Or.inl (ne0_2 NDp))).other W23 (Or.inl (ne0_3 NDp)))
      have f29 := ((((F_kq_inBucket.other W6 (Or.inl (ne0_5 NDp))).other W9 (Or.inl (ne0_6 NDp))).other W18 (Or.inl (ne0_2 NDp))).other W23 (Or.inl (ne0_3 NDp)))
      have f30 := ((((F_kq_firsts.other W6 (Or.inl (ne0_5 NDp))).other W9 (Or.inl (ne0_6 NDp))).other W18 (Or.inl (ne0_2 NDp))).other W23 (Or.inl (ne0_3 NDp)))
      have f31 := ((f14.other W18 (Or.inl (ne0_2 NDp))).other W23 (Or.inl (ne0_3 NDp)))
      have f32 := (f19.other W23 (Or.inl (ne0_3 NDp)))
      have f33 := ((((F_kq_further.other W6 (Or.inl (ne0_5 NDp))).other W9 (Or.inl (ne0_6 NDp))).other W18 (Or.inl (ne0_2 NDp))).other W23 (Or.inl (ne0_3 NDp)))
      have f34 := ((((F_kq_bucketed.other W6 (Or.inl (ne0_5 NDp))).other W9 (Or.inl (ne0_6 NDp))).other W18 (Or.inl (ne0_2 NDp))).other W23 (Or.inl (ne0_3 NDp)))
      have f35 := ((((F_kq_floor.other W6 (Or.inl (ne0_5 NDp))).other W9 (Or.inl (ne0_6 NDp))).other W18 (Or.inl (ne0_2 NDp))).other W23 (Or.inl (ne0_3 NDp)))
      have f36 := ((((V_aI.other W6 (ne7_5 NDp)).other W9 (ne7_6 NDp)).other W18 (ne7_2 NDp)).other W23 (ne7_3 NDp))
      have f37 := ((((V_aK.other W6 (ne4_5 NDp)).other W9 (ne4_6 NDp)).other W18 (ne4_2 NDp)).other W23 (ne4_3 NDp))
      have f38 := (((V6.other W9 (ne5_6 NDp)).other W18 (ne5_2 NDp)).other W23 (ne5_3 NDp))
      have f39 := ((V9.other W18 (ne6_2 NDp)).other W23 (ne6_3 NDp))
      have f40 := ((((V_aF.other W6 (ne1_5 NDp)).other W9 (ne1_6 NDp)).other W18 (ne1_2 NDp)).other W23 (ne1_3 NDp))
      have f41 := (V18.other W23 (ne2_3 NDp))
      exact ⟨T23, _, _, X23, e23, N23, K23, O23, f25, f26, f27, f28, f29, f30, f31, f32, f33, f34, f35, f36, f37, f38, f39, f40, f41, V23, cs24⟩
    · have f42 := ((F_kq_before.other W6 (Or.inl (ne0_5 NDp))).other W9 (Or.inl (ne0_6 NDp)))
      obtain ⟨T43, X43, e43, st43⟩ := getF X9 hx hZ hown (host := "") (Or.inl (wd 20 rfl)) Via.refl e9 f42 (g := (mkF m 39 #[.val (.ref kq), .val (.int en), .val (.int ((v2 &&& (65535 : Int64)).toInt32)), .val (.int v4)] [(.ref kq)])) rfl rfl (D d10_39)
      have f45 := (V6.other W9 (ne5_6 NDp))
      obtain ⟨cl44, Ar44, q44, S44, Nn44, H44, G44⟩ := id f45
      have hin44 : ¬ (v4 < 0 ∨ cl44.slots.size ≤ (v4).toNatClampNeg) := inb_of S44 (own_pi2 pi4 hc13)
      obtain ⟨T44, h44, X44, e44, W44, st44⟩ := stI X43 hx hZ e43 Ar44 (j := v4) hin44 (g := (mkF m 44 #[.val (.ref kq), .val (.int en), .val (.int ((v2 &&& (65535 : Int64)).toInt32)), .val (.int v4)] [(.int en), (.int v4), (.ref aB)])) rfl rfl (D d10_44)
      have V44 : Arp Z h44 aB kB .int (2 : Int32) PI := Arp.set Ar44 q44 S44 Nn44 H44 (own_PI (Or.inr he)) W44
      have N44 := Fr.snoc X44 N9 g_aB
      have Zn44 : n0 ≤ h44.size := Nat.le_trans Zn9 (Keep.of_wr W44).1
      have K44 : Keep h0 h44 [kq, aB, aA, aI, aF, aO, aW] := K9.wr W44 (Or.inl (List.mem_of_getElem? (i := 1) rfl))
      have O44 := O9.wr W44 g_aB
      have cs46 : Steps p.tables e below (s₁.setTop (mkF m 0 #[.val (.ref kq), .val (.int en), .unset, .unset] [])) (T44.setTop (mkF m 90 #[.val (.ref kq), .val (.int en), .val (.int ((v2 &&& (65535 : Int64)).toInt32)), .val (.int v4)] [])) := cs12.trans (by
        refine s_icmpNo X9 hx (D d10_35) (feq hc13).1 ?_
        refine s_aloadN X9 hx (D d10_38) rfl rfl ?_
        refine st43 _ ?_
        refine s_iloadN X43 hx (D d10_42) rfl ?_
        refine s_iloadN X43 hx (D d10_43) rfl ?_
        refine st44 _ ?_
        refine s_goto X44 hx 90 (D d10_45) (of_decide_eq_true rfl) rfl ?_
        exact Steps.refl _)
      have f47 := (((E_kq.wr W6).wr W9).wr W44)
      have f48 := (((F_kq_keys.other W6 (Or.inl (ne0_5 NDp))).other W9 (Or.inl (ne0_6 NDp))).other W44 (Or.inl (ne0_5 NDp)))
      have f49 := (f42.other W44 (Or.inl (ne0_5 NDp)))
      have f50 := ((f7.other W9 (Or.inl (ne0_6 NDp))).other W44 (Or.inl (ne0_5 NDp)))
      have f51 := (((F_kq_inBucket.other W6 (Or.inl (ne0_5 NDp))).other W9 (Or.inl (ne0_6 NDp))).other W44 (Or.inl (ne0_5 NDp)))
      have f52 := (((F_kq_firsts.other W6 (Or.inl (ne0_5 NDp))).other W9 (Or.inl (ne0_6 NDp))).other W44 (Or.inl (ne0_5 NDp)))
      have f53 := (((F_kq_occupied.other W6 (Or.inl (ne0_5 NDp))).other W9 (Or.inl (ne0_6 NDp))).other W44 (Or.inl (ne0_5 NDp)))
      have f54 := (((F_kq_occupiedWords.other W6 (Or.inl (ne0_5 NDp))).other W9 (Or.inl (ne0_6 NDp))).other W44 (Or.inl (ne0_5 NDp)))
      have f55 := (((F_kq_further.other W6 (Or.inl (ne0_5 NDp))).other W9 (Or.inl (ne0_6 NDp))).other W44 (Or.inl (ne0_5 NDp)))
      have f56 := (((F_kq_bucketed.other W6 (Or.inl (ne0_5 NDp))).other W9 (Or.inl (ne0_6 NDp))).other W44 (Or.inl (ne0_5 NDp)))
      have f57 := (((F_kq_floor.other W6 (Or.inl (ne0_5 NDp))).other W9 (Or.inl (ne0_6 NDp))).other W44 (Or.inl (ne0_5 NDp)))
      have f58 := (((V_aI.other W6 (ne7_5 NDp)).other W9 (ne7_6 NDp)).other W44 (ne7_5 NDp))
      have f59 := (((V_aK.other W6 (ne4_5 NDp)).other W9 (ne4_6 NDp)).other W44 (ne4_5 NDp))
      have f60 := (V9.other W44 (ne6_5 NDp))
      have f61 := (((V_aF.other W6 (ne1_5 NDp)).other W9 (ne1_6 NDp)).other W44 (ne1_5 NDp))
      have f62 := (((V_aO.other W6 (ne2_5 NDp)).other W9 (ne2_6 NDp)).other W44 (ne2_5 NDp))
      have f63 := (((V_aW.other W6 (ne3_5 NDp)).other W9 (ne3_6 NDp)).other W44 (ne3_5 NDp))
      exact ⟨T44, _, _, X44, e44, N44, K44, O44, f47, f48, f49, f50, f51, f52, f53, f54, f55, f56, f57, f58, f59, V44, f60, f61, f62, f63, cs46⟩
  obtain ⟨Tj11, Lj11, hj11, Xj11, ej11, Nj11, Kj11, Oj11, J11_0, J11_1, J11_2, J11_3, J11_4, J11_5, J11_6, J11_7, J11_8, J11_9, J11_10, J11_11, J11_12, J11_13, J11_14, J11_15, J11_16, J11_17, cj11⟩ := jn11
  obtain ⟨T64, X64, e64, st64⟩ := getF Xj11 hx hZ hown (host := "") (Or.inl (wd 11 rfl)) Via.refl ej11 J11_5 (g := (mkF m 91 #[.val (.ref kq), .val (.int en), .val (.int ((v2 &&& (65535 : Int64)).toInt32)), .val (.int v4)] [(.ref kq)])) rfl rfl (D d10_91)
  obtain ⟨cl65, Ar65, q65, S65, Nn65, H65, G65⟩ := id J11_15
  have hin65 : ¬ (((v2 &&& (65535 : Int64)).toInt32) < 0 ∨ cl65.slots.size ≤ (((v2 &&& (65535 : Int64)).toInt32)).toNatClampNeg) := inb_of S65 (own_bkl (own_bk v2) (by decide))
  obtain ⟨T65, h65, X65, e65, W65, st65⟩ := stI X64 hx hZ e64 Ar65 (j := ((v2 &&& (65535 : Int64)).toInt32)) hin65 (g := (mkF m 96 #[.val (.ref kq), .val (.int en), .val (.int ((v2 &&& (65535 : Int64)).toInt32)), .val (.int v4)] [(.int en), (.int ((v2 &&& (65535 : Int64)).toInt32)), (.ref aF)])) rfl rfl (D d10_96)
  have V65 : Arp Z h65 aF kF .int (65536 : Int32) PI := Arp.set Ar65 q65 S65 Nn65 H65 (own_PI (Or.inr he)) W65
  have N65 := Fr.snoc X65 Nj11 g_aF
  have Zn65 : n0 ≤ h65.size := Nat.le_trans (own_oldsz Oj11) (Keep.of_wr W65).1
  have K65 : Keep h0 h65 [kq, aB, aA, aI, aF, aO, aW] := Kj11.wr W65 (Or.inl (List.mem_of_getElem? (i := 4) rfl))
  have O65 := Oj11.wr W65 g_aF
  have f66 := (J11_4.other W65 (Or.inl (ne0_1 NDp)))
  obtain ⟨T67, X67, e67, st67⟩ := getF X65 hx hZ hown (host := "") (Or.inl (wd 25 rfl)) Via.refl e65 f66 (g := (mkF m 98 #[.val (.ref kq), .val (.int en), .val (.int ((v2 &&& (65535 : Int64)).toInt32)), .val (.int v4)] [(.ref kq)])) rfl rfl (D d10_98)
  have f69 := (J11_11.other W65 (ne7_1 NDp))
  obtain ⟨cl68, Ar68, q68, S68, Nn68, H68, G68⟩ := id f69
  have hin68 : ¬ (en < 0 ∨ cl68.slots.size ≤ (en).toNatClampNeg) := inb_of S68 (own_in2 he)
  obtain ⟨T68, h68, X68, e68, W68, st68⟩ := stZ X67 hx hZ e67 Ar68 (j := en) hin68 (g := (mkF m 103 #[.val (.ref kq), .val (.int en), .val (.int ((v2 &&& (65535 : Int64)).toInt32)), .val (.int v4)] [(.int (1 : Int32)), (.int en), (.ref aI)])) rfl rfl (D d10_103)
  have V68 : Arv Z h68 aI kI .boolean (2 : Int32) [(.int (s2 en 0 (1 : Int32) ib0)), (.int (s2 en 1 (1 : Int32) ib1))] (.int (0 : Int32)) := own_set2I (w := (1 : Int32)) Ar68 q68 S68 Nn68 H68 G68 rfl W68 he
  have N68 := Fr.snoc X68 N65 g_aI
  have Zn68 : n0 ≤ h68.size := Nat.le_trans Zn65 (Keep.of_wr W68).1
  have K68 : Keep h0 h68 [kq, aB, aA, aI, aF, aO, aW] := K65.wr W68 (Or.inl (List.mem_of_getElem? (i := 3) rfl))
  have O68 := O65.wr W68 g_aI
  have f70 := ((J11_9.other W65 (Or.inl (ne0_1 NDp))).other W68 (Or.inl (ne0_7 NDp)))
  obtain ⟨T71, X71, e71, st71⟩ := getF X68 hx hZ hown (host := "") (Or.inl (wd 56 rfl)) Via.refl e68 f70 (g := (mkF m 106 #[.val (.ref kq), .val (.int en), .val (.int ((v2 &&& (65535 : Int64)).toInt32)), .val (.int v4)] [(.ref kq), (.ref kq)])) rfl rfl (D d10_106)
  have f73 := ((J11_0.wr W65).wr W68)
  obtain ⟨T72, h72, X72, e72, W72, st72⟩ := putF X71 hx hZ hown (host := "") (Or.inl (wd 56 rfl)) Via.refl e71 f70 f73 (Or.inl (wd 57 rfl)) (wd 1 rfl) (ty := .int) (by decide) rfl rfl (g := (mkF m 111 #[.val (.ref kq), .val (.int en), .val (.int ((v2 &&& (65535 : Int64)).toInt32)), .val (.int v4)] [(.int (bk + (1 : Int32))), (.ref kq)])) rfl rfl (D d10_111)
  have Fw72 : Fld Z h72 kq cQ "bucketed" "I" (.int (bk + (1 : Int32))) := Fld.same W72 f70
  have N72 := Fr.snoc X72 N68 g_kq
  have Zn72 : n0 ≤ h72.size := Nat.le_trans Zn68 (Keep.of_wr W72).1
  have K72 : Keep h0 h72 [kq, aB, aA, aI, aF, aO, aW] := K68.wr W72 (Or.inl (List.mem_of_getElem? (i := 0) rfl))
  have O72 := O68.wr W72 g_kq
  have f74 := (((J11_1.other W65 (Or.inl (ne0_1 NDp))).other W68 (Or.inl (ne0_7 NDp))).other W72 (Or.inr (slot_ne (Or.inr (wd 19 rfl)) (Or.inl (wd 57 rfl)) (by decide) (t := (.array .long)) (t' := .int) (by decide) (by decide))))
  have f75 := (((J11_2.other W65 (Or.inl (ne0_1 NDp))).other W68 (Or.inl (ne0_7 NDp))).other W72 (Or.inr (slot_ne (Or.inr (wd 21 rfl)) (Or.inl (wd 57 rfl)) (by decide) (t := (.array .int)) (t' := .int) (by decide) (by decide))))
  have f76 := (((J11_3.other W65 (Or.inl (ne0_1 NDp))).other W68 (Or.inl (ne0_7 NDp))).other W72 (Or.inr (slot_ne (Or.inr (wd 23 rfl)) (Or.inl (wd 57 rfl)) (by decide) (t := (.array .int)) (t' := .int) (by decide) (by decide))))
  have f77 := ((f66.other W68 (Or.inl (ne0_7 NDp))).other W72 (Or.inr (slot_ne (Or.inr (wd 26 rfl)) (Or.inl (wd 57 rfl)) (by decide) (t := (.array .boolean)) (t' := .int) (by decide) (by decide))))
  have f78 := (((J11_5.other W65 (Or.inl (ne0_1 NDp))).other W68 (Or.inl (ne0_7 NDp))).other W72 (Or.inr (slot_ne (Or.inr (wd 12 rfl)) (Or.inl (wd 57 rfl)) (by decide) (t := (.array .int)) (t' := .int) (by decide) (by decide))))
  have f79 := (((J11_6.other W65 (Or.inl (ne0_1 NDp))).other W68 (Or.inl (ne0_7 NDp))).other W72 (Or.inr (slot_ne (Or.inr (wd 15 rfl)) (Or.inl (wd 57 rfl)) (by decide) (t := (.array .long)) (t' := .int) (by decide) (by decide))))
  have f80 := (((J11_7.other W65 (Or.inl (ne0_1 NDp))).other W68 (Or.inl (ne0_7 NDp))).other W72 (Or.inr (slot_ne (Or.inr (wd 17 rfl)) (Or.inl (wd 57 rfl)) (by decide) (t := (.array .long)) (t' := .int) (by decide) (by decide))))
  have f81 := (((J11_8.other W65 (Or.inl (ne0_1 NDp))).other W68 (Or.inl (ne0_7 NDp))).other W72 (Or.inr (slot_ne (Or.inr (wd 50 rfl)) (Or.inl (wd 57 rfl)) (by decide) (t := (.object cH)) (t' := .int) (by decide) (by decide))))
  have f82 := (((J11_10.other W65 (Or.inl (ne0_1 NDp))).other W68 (Or.inl (ne0_7 NDp))).other W72 (Or.inr (slot_ne (Or.inl (wd 72 rfl)) (Or.inl (wd 57 rfl)) (by decide) (t := .long) (t' := .int) (by decide) (by decide))))
  have f83 := (((J11_13.other W65 (ne5_1 NDp)).other W68 (ne5_7 NDp)).other W72 (ne5_0 NDp))
  have f84 := (((J11_14.other W65 (ne6_1 NDp)).other W68 (ne6_7 NDp)).other W72 (ne6_0 NDp))
  have f85 := (V68.other W72 (ne7_0 NDp))
  have f86 := ((V65.other W68 (ne1_7 NDp)).other W72 (ne1_0 NDp))
  have f87 := (((J11_16.other W65 (ne2_1 NDp)).other W68 (ne2_7 NDp)).other W72 (ne2_0 NDp))
  have f88 := (((J11_17.other W65 (ne3_1 NDp)).other W68 (ne3_7 NDp)).other W72 (ne3_0 NDp))
  obtain ⟨fs, hr, hrun, hended, hW, hsame⟩ := X72.leave (v := none) (fun _ => rfl)
  refine ⟨_, _, pre0 _ ?_, hrun, hended, _, _, rfl, ?_, ⟨_, rfl⟩, hW, hsame.mono (by decide) (by decide)⟩
  · refine cj11.trans ?_
    refine s_aloadN Xj11 hx (D d10_90) rfl rfl ?_
    refine st64 _ ?_
    refine s_iloadN X64 hx (D d10_94) rfl ?_
    refine s_iloadN X64 hx (D d10_95) rfl ?_
    refine st65 _ ?_
    refine s_aloadN X65 hx (D d10_97) rfl rfl ?_
    refine st67 _ ?_
    refine s_iloadN X67 hx (D d10_101) rfl ?_
    refine s_iconst X67 hx (1 : Int32) (D d10_102) rfl ?_
    refine st68 _ ?_
    refine s_aloadN X68 hx (D d10_104) rfl rfl ?_
    refine s_dup X68 hx (D d10_105) rfl ?_
    refine st71 _ ?_
    refine s_iconst X71 hx (1 : Int32) (D d10_109) rfl ?_
    refine s_iadd X71 hx (D d10_110) rfl ?_
    refine st72 _ ?_
    exact X72.returnOut hx Bd.returns (D d10_114) hr
  · show Q_rm_klink2 Z kq en aF aO aW aK aB aA aI hp lo aE aP kK kB kA kI kF kO kW bk ib0 ib1 fl h0 n0 _ T72.heap _
    rw [e72]
    exact ⟨rfl, N72, K72, f74, f75, f76, f77, f78, f79, f80, f81, Fw72, f82, f83, f84, f85, f86, f87, f88⟩
theorem d18_0 : decode prog_39_method_14_code 0 = .ok (.aload_n 0, 1) := by decide +kernel
theorem d18_1 : decode prog_39_method_14_code 1 = .ok (.getfield 23, 3) := by decide +kernel
theorem d18_4 : decode prog_39_method_14_code 4 = .ok (.iload_n 1, 1) := by decide +kernel
theorem d18_5 : decode prog_39_method_14_code 5 = .ok (.laload, 1) := by decide +kernel
theorem d18_6 : decode prog_39_method_14_code 6 = .ok (.ldc2_w 117, 3) := by decide +kernel
theorem d18_9 : decode prog_39_method_14_code 9 = .ok (.land, 1) := by decide +kernel
theorem d18_10 : decode prog_39_method_14_code 10 = .ok (.l2i, 1) := by decide +kernel
theorem d18_11 : decode prog_39_method_14_code 11 = .ok (.istore_n 2, 1) := by decide +kernel
theorem d18_12 : decode prog_39_method_14_code 12 = .ok (.aload_n 0, 1) := by decide +kernel
theorem d18_13 : decode prog_39_method_14_code 13 = .ok (.getfield 26, 3) := by decide +kernel
theorem d18_16 : decode prog_39_method_14_code 16 = .ok (.iload_n 1, 1) := by decide +kernel
theorem d18_17 : decode prog_39_method_14_code 17 = .ok (.iaload, 1) := by decide +kernel
theorem d18_18 : decode prog_39_method_14_code 18 = .ok (.iconst (-1), 1) := by decide +kernel
theorem d18_19 : decode prog_39_method_14_code 19 = .ok (.if_icmp .eq 23, 3) := by decide +kernel
theorem d18_22 : decode prog_39_method_14_code 22 = .ok (.aload_n 0, 1) := by decide +kernel
theorem d18_23 : decode prog_39_method_14_code 23 = .ok (.getfield 29, 3) := by decide +kernel
theorem d18_26 : decode prog_39_method_14_code 26 = .ok (.aload_n 0, 1) := by decide +kernel
theorem d18_27 : decode prog_39_method_14_code 27 = .ok (.getfield 26, 3) := by decide +kernel
theorem d18_30 : decode prog_39_method_14_code 30 = .ok (.iload_n 1, 1) := by decide +kernel
theorem d18_31 : decode prog_39_method_14_code 31 = .ok (.iaload, 1) := by decide +kernel
theorem d18_32 : decode prog_39_method_14_code 32 = .ok (.aload_n 0, 1) := by decide +kernel
theorem d18_33 : decode prog_39_method_14_code 33 = .ok (.getfield 29, 3) := by decide +kernel
theorem d18_36 : decode prog_39_method_14_code 36 = .ok (.iload_n 1, 1) := by decide +kernel
theorem d18_37 : decode prog_39_method_14_code 37 = .ok (.iaload, 1) := by decide +kernel
theorem d18_38 : decode prog_39_method_14_code 38 = .ok (.iastore, 1) := by decide +kernel
theorem d18_39 : decode prog_39_method_14_code 39 = .ok (.goto 15, 3) := by decide +kernel
theorem d18_42 : decode prog_39_method_14_code 42 = .ok (.aload_n 0, 1) := by decide +kernel
theorem d18_43 : decode prog_39_method_14_code 43 = .ok (.getfield 10, 3) := by decide +kernel
theorem d18_46 : decode prog_39_method_14_code 46 = .ok (.iload_n 2, 1) := by decide +kernel
theorem d18_47 : decode prog_39_method_14_code 47 = .ok (.aload_n 0, 1) := by decide +kernel
theorem d18_48 : decode prog_39_method_14_code 48 = .ok (.getfield 29, 3) := by decide +kernel
theorem d18_51 : decode prog_39_method_14_code 51 = .ok (.iload_n 1, 1) := by decide +kernel
theorem d18_52 : decode prog_39_method_14_code 52 = .ok (.iaload, 1) := by decide +kernel
theorem d18_53 : decode prog_39_method_14_code 53 = .ok (.iastore, 1) := by decide +kernel
theorem d18_54 : decode prog_39_method_14_code 54 = .ok (.aload_n 0, 1) := by decide +kernel
theorem d18_55 : decode prog_39_method_14_code 55 = .ok (.getfield 29, 3) := by decide +kernel
theorem d18_58 : decode prog_39_method_14_code 58 = .ok (.iload_n 1, 1) := by decide +kernel
theorem d18_59 : decode prog_39_method_14_code 59 = .ok (.iaload, 1) := by decide +kernel
theorem d18_60 : decode prog_39_method_14_code 60 = .ok (.iconst (-1), 1) := by decide +kernel
theorem d18_61 : decode prog_39_method_14_code 61 = .ok (.if_icmp .eq 20, 3) := by decide +kernel
theorem d18_64 : decode prog_39_method_14_code 64 = .ok (.aload_n 0, 1) := by decide +kernel
theorem d18_65 : decode prog_39_method_14_code 65 = .ok (.getfield 26, 3) := by decide +kernel
theorem d18_68 : decode prog_39_method_14_code 68 = .ok (.aload_n 0, 1) := by decide +kernel
theorem d18_69 : decode prog_39_method_14_code 69 = .ok (.getfield 29, 3) := by decide +kernel
theorem d18_72 : decode prog_39_method_14_code 72 = .ok (.iload_n 1, 1) := by decide +kernel
theorem d18_73 : decode prog_39_method_14_code 73 = .ok (.iaload, 1) := by decide +kernel
theorem d18_74 : decode prog_39_method_14_code 74 = .ok (.aload_n 0, 1) := by decide +kernel
theorem d18_75 : decode prog_39_method_14_code 75 = .ok (.getfield 26, 3) := by decide +kernel
theorem d18_78 : decode prog_39_method_14_code 78 = .ok (.iload_n 1, 1) := by decide +kernel
theorem d18_79 : decode prog_39_method_14_code 79 = .ok (.iaload, 1) := by decide +kernel
theorem d18_80 : decode prog_39_method_14_code 80 = .ok (.iastore, 1) := by decide +kernel
theorem d18_81 : decode prog_39_method_14_code 81 = .ok (.aload_n 0, 1) := by decide +kernel
theorem d18_82 : decode prog_39_method_14_code 82 = .ok (.getfield 10, 3) := by decide +kernel
theorem d18_85 : decode prog_39_method_14_code 85 = .ok (.iload_n 2, 1) := by decide +kernel
theorem d18_86 : decode prog_39_method_14_code 86 = .ok (.iaload, 1) := by decide +kernel
theorem d18_87 : decode prog_39_method_14_code 87 = .ok (.iconst (-1), 1) := by decide +kernel
theorem d18_88 : decode prog_39_method_14_code 88 = .ok (.if_icmp .ne 60, 3) := by decide +kernel
theorem d18_91 : decode prog_39_method_14_code 91 = .ok (.iload_n 2, 1) := by decide +kernel
theorem d18_92 : decode prog_39_method_14_code 92 = .ok (.bipush 64, 2) := by decide +kernel
theorem d18_94 : decode prog_39_method_14_code 94 = .ok (.idiv, 1) := by decide +kernel
theorem d18_95 : decode prog_39_method_14_code 95 = .ok (.istore_n 3, 1) := by decide +kernel
theorem d18_96 : decode prog_39_method_14_code 96 = .ok (.aload_n 0, 1) := by decide +kernel
theorem d18_97 : decode prog_39_method_14_code 97 = .ok (.getfield 16, 3) := by decide +kernel
theorem d18_100 : decode prog_39_method_14_code 100 = .ok (.iload_n 3, 1) := by decide +kernel
theorem d18_101 : decode prog_39_method_14_code 101 = .ok (.dup2, 1) := by decide +kernel
theorem d18_102 : decode prog_39_method_14_code 102 = .ok (.laload, 1) := by decide +kernel
theorem d18_103 : decode prog_39_method_14_code 103 = .ok (.lconst 1, 1) := by decide +kernel
theorem d18_104 : decode prog_39_method_14_code 104 = .ok (.iload_n 2, 1) := by decide +kernel
theorem d18_105 : decode prog_39_method_14_code 105 = .ok (.bipush 64, 2) := by decide +kernel
theorem d18_107 : decode prog_39_method_14_code 107 = .ok (.irem, 1) := by decide +kernel
theorem d18_108 : decode prog_39_method_14_code 108 = .ok (.lshl, 1) := by decide +kernel
theorem d18_109 : decode prog_39_method_14_code 109 = .ok (.ldc2_w 123, 3) := by decide +kernel
theorem d18_112 : decode prog_39_method_14_code 112 = .ok (.lxor, 1) := by decide +kernel
theorem d18_113 : decode prog_39_method_14_code 113 = .ok (.land, 1) := by decide +kernel
theorem d18_114 : decode prog_39_method_14_code 114 = .ok (.lastore, 1) := by decide +kernel
theorem d18_115 : decode prog_39_method_14_code 115 = .ok (.aload_n 0, 1) := by decide +kernel
theorem d18_116 : decode prog_39_method_14_code 116 = .ok (.getfield 16, 3) := by decide +kernel
theorem d18_119 : decode prog_39_method_14_code 119 = .ok (.iload_n 3, 1) := by decide +kernel
theorem d18_120 : decode prog_39_method_14_code 120 = .ok (.laload, 1) := by decide +kernel
theorem d18_121 : decode prog_39_method_14_code 121 = .ok (.lconst 0, 1) := by decide +kernel
theorem d18_122 : decode prog_39_method_14_code 122 = .ok (.lcmp, 1) := by decide +kernel
theorem d18_123 : decode prog_39_method_14_code 123 = .ok (.ifCond .ne 25, 3) := by decide +kernel
theorem d18_126 : decode prog_39_method_14_code 126 = .ok (.aload_n 0, 1) := by decide +kernel
theorem d18_127 : decode prog_39_method_14_code 127 = .ok (.getfield 20, 3) := by decide +kernel
theorem d18_130 : decode prog_39_method_14_code 130 = .ok (.iload_n 3, 1) := by decide +kernel
theorem d18_131 : decode prog_39_method_14_code 131 = .ok (.bipush 64, 2) := by decide +kernel
theorem d18_133 : decode prog_39_method_14_code 133 = .ok (.idiv, 1) := by decide +kernel
theorem d18_134 : decode prog_39_method_14_code 134 = .ok (.dup2, 1) := by decide +kernel
theorem d18_135 : decode prog_39_method_14_code 135 = .ok (.laload, 1) := by decide +kernel
theorem d18_136 : decode prog_39_method_14_code 136 = .ok (.lconst 1, 1) := by decide +kernel
theorem d18_137 : decode prog_39_method_14_code 137 = .ok (.iload_n 3, 1) := by decide +kernel
theorem d18_138 : decode prog_39_method_14_code 138 = .ok (.bipush 64, 2) := by decide +kernel
theorem d18_140 : decode prog_39_method_14_code 140 = .ok (.irem, 1) := by decide +kernel
theorem d18_141 : decode prog_39_method_14_code 141 = .ok (.lshl, 1) := by decide +kernel
theorem d18_142 : decode prog_39_method_14_code 142 = .ok (.ldc2_w 123, 3) := by decide +kernel
theorem d18_145 : decode prog_39_method_14_code 145 = .ok (.lxor, 1) := by decide +kernel
theorem d18_146 : decode prog_39_method_14_code 146 = .ok (.land, 1) := by decide +kernel
theorem d18_147 : decode prog_39_method_14_code 147 = .ok (.lastore, 1) := by decide +kernel
theorem d18_148 : decode prog_39_method_14_code 148 = .ok (.aload_n 0, 1) := by decide +kernel
theorem d18_149 : decode prog_39_method_14_code 149 = .ok (.getfield 32, 3) := by decide +kernel
theorem d18_152 : decode prog_39_method_14_code 152 = .ok (.iload_n 1, 1) := by decide +kernel
theorem d18_153 : decode prog_39_method_14_code 153 = .ok (.iconst 0, 1) := by decide +kernel
theorem d18_154 : decode prog_39_method_14_code 154 = .ok (.bastore, 1) := by decide +kernel
theorem d18_155 : decode prog_39_method_14_code 155 = .ok (.aload_n 0, 1) := by decide +kernel
theorem d18_156 : decode prog_39_method_14_code 156 = .ok (.dup, 1) := by decide +kernel
theorem d18_157 : decode prog_39_method_14_code 157 = .ok (.getfield 54, 3) := by decide +kernel
theorem d18_160 : decode prog_39_method_14_code 160 = .ok (.iconst 1, 1) := by decide +kernel
theorem d18_161 : decode prog_39_method_14_code 161 = .ok (.isub, 1) := by decide +kernel
theorem d18_162 : decode prog_39_method_14_code 162 = .ok (.putfield 54, 3) := by decide +kernel
theorem d18_165 : decode prog_39_method_14_code 165 = .ok (.return_, 1) := by decide +kernel
theorem ne4_1 {kq aF aO aW aK aB aA aI hp lo aE aP : Addr} (h : List.Nodup [kq, aF, aO, aW, aK, aB, aA, aI, hp, lo, aE, aP]) : aK ≠ aF := own_nd h 4 1 rfl rfl (by decide)
theorem ef_rm_kunlink2 (m : MethodId) (x0 : Addr) (x1 : Int32) : entryFrame m #[(.ref x0), (.int x1)] 4 = mkF m 0 #[.val (.ref x0), .val (.int x1), .unset, .unset] [] := by first | (simp [entryFrame, mkF, argsToLocals, Value.category]; done) | rfl
def Q_rm_kunlink2 (Z : State) (kq : Addr) (en : Int32) (aF aO aW aK aB aA aI hp lo aE aP : Addr) (kK kB kA kI kF kO kW : ClassId) (bk ib0 ib1 : Int32) (fl : Int64) (h0 : Heap) (n0 : Nat) (v : Option Value) (h : Heap) (L : List Loc) : Prop := v = none ∧ Fr n0 L ∧ Keep h0 h [kq, aB, aA, aI, aF, aO, aW] ∧ Fld Z h kq cQ "keys" "[J" (.ref aK) ∧ Fld Z h kq cQ "before" "[I" (.ref aB) ∧ Fld Z h kq cQ "after" "[I" (.ref aA) ∧ Fld Z h kq cQ "inBucket" "[Z" (.ref aI) ∧ Fld Z h kq cQ "firsts" "[I" (.ref aF) ∧ Fld Z h kq cQ "occupied" "[J" (.ref aO) ∧ Fld Z h kq cQ "occupiedWords" "[J" (.ref aW) ∧ Fld Z h kq cQ "further" "Lcom/example/leasewise/leasewise/IndexedHeap;" (.ref hp) ∧ Fld Z h kq cQ "bucketed" "I" (.int (bk - (1 : Int32))) ∧ Fld Z h kq cQ "floor" "J" (.long fl) ∧ Arp Z h aB kB .int (2 : Int32) PI ∧ Arp Z h aA kA .int (2 : Int32) PI ∧ Arv Z h aI kI .boolean (2 : Int32) [(.int (s2 en 0 (0 : Int32) ib0)), (.int (s2 en 1 (0 : Int32) ib1))] (.int (0 : Int32)) ∧ Arp Z h aF kF .int (65536 : Int32) PI ∧ Arp Z h aO kO .long (1024 : Int32) PJ ∧ Arp Z h aW kW .long (16 : Int32) PJ
set_option maxRecDepth 65536 in
set_option maxHeartbeats 40000000 in
theorem rm_kunlink2 (l : Launch) (Z : State) (a0 : Array Value) (hw : ∀ d ∈ tables_1, d.before a0 Z = true) (ws : List Jvm.Cond) (kq : Addr) (en : Int32) (aF aO aW aK aB aA aI hp lo aE aP : Addr) (kK kB kA kI kF kO kW : ClassId) (bk ib0 ib1 : Int32) (fl : Int64) (h0 : Heap) (n0 : Nat) (O0 : Old Z n0 h0) (E_kq : Exa Z h0 kq cQ) (F_kq_keys : Fld Z h0 kq cQ "keys" "[J" (.ref aK)) (F_kq_before : Fld Z h0 kq cQ "before" "[I" (.ref aB)) (F_kq_after : Fld Z h0 kq cQ "after" "[I" (.ref aA)) (F_kq_inBucket : Fld Z h0 kq cQ "inBucket" "[Z" (.ref aI)) (F_kq_firsts : Fld Z h0 kq cQ "firsts" "[I" (.ref aF)) (F_kq_occupied : Fld Z h0 kq cQ "occupied" "[J" (.ref aO)) (F_kq_occupiedWords : Fld Z h0 kq cQ "occupiedWords" "[J" (.ref aW)) (F_kq_further : Fld Z h0 kq cQ "further" "Lcom/example/leasewise/leasewise/IndexedHeap;" (.ref hp)) (F_kq_bucketed : Fld Z h0 kq cQ "bucketed" "I" (.int bk)) (F_kq_floor : Fld Z h0 kq cQ "floor" "J" (.long fl)) (V_aI : Arv Z h0 aI kI .boolean (2 : Int32) [(.int ib0), (.int ib1)] (.int (0 : Int32))) (NDp : List.Nodup [kq, aF, aO, aW, aK, aB, aA, aI, hp, lo, aE, aP]) (he : I2 en) (g_kq : n0 ≤ kq) (g_aB : n0 ≤ aB) (g_aA : n0 ≤ aA) (g_aI : n0 ≤ aI) (g_aF : n0 ≤ aF) (g_aO : n0 ≤ aO) (g_aW : n0 ≤ aW) (V_aK : Arp Z h0 aK kK .long (2 : Int32) PJ) (V_aB : Arp Z h0 aB kB .int (2 : Int32) PI) (V_aA : Arp Z h0 aA kA .int (2 : Int32) PI) (V_aF : Arp Z h0 aF kF .int (65536 : Int32) PI) (V_aO : Arp Z h0 aO kO .long (1024 : Int32) PJ) (V_aW : Arp Z h0 aW kW .long (16 : Int32) PJ) :
    MetFree l (⟨cQ, "unlink", "(I)V"⟩ : MethodName) (head1 (Jvm.Cond.code (⟨cQ, "unlink", "(I)V"⟩ : MethodName) prog_39_method_14_code 4 none :: ws) ({ frames := 0, cells := 0, slots := 0, locals := 0 } : Room)) (fun a U => a = #[(.ref kq), (.int en)] ∧ Z.WarmedH U.vm ∧ U.heap = h0) (fun _ _ _ _ _ => True) (fun _ U o U' => ∃ v L, o = .returned v ∧ Q_rm_kunlink2 Z kq en aF aO aW aK aB aA aI hp lo aE aP kK kB kA kI kF kO kW bk ib0 ib1 fl h0 n0 v U'.heap L ∧ FrameEnd U o U' L ({ frames := 0, cells := 0, slots := 0, locals := 0 } : Room).cells ({ frames := 0, cells := 0, slots := 0, locals := 0 } : Room).slots) := by
  refine MetFree.of_bodySF (plainFor_of_name pn_2) hisR ?_
  intro p e s m args below meth c s₁ Bd hml0 hP hK
  obtain ⟨rfl, hZH, hh⟩ := hP
  have hZ := hZH.wide
  have hx := Bd.exec
  have hby := Bd.bytes
  have D := fun {pc : Nat} {r : Except ClassFile.DecodeError (ClassFile.Instr × Nat)} (q : decode prog_39_method_14_code pc = r) => hb (pc := pc) hby q
  have hml : c.maxLocals = 4 := hml0
  have hown : s.vm.findClass cQ = some m.cls := findClass_of_methodNamed Bd.named
  have hnm := (name_of_methodNamed Bd.named Bd.method).1
  have X0 : Stand p l e ({ frames := 0, cells := 0, slots := 0, locals := 0 } : Room) s m #[(.ref kq), (.int en)] below meth c s₁ [] 0 0 := Stand.of_body Bd
  have e0 : s₁.heap = h0 := by rw [← hh, Bd.state]; rfl
  have N0 := Fr.nil n0
  have pre0 : ∀ t, Steps p.tables e below (s₁.setTop (mkF m 0 #[.val (.ref kq), .val (.int en), .unset, .unset] [])) t → Steps p.tables e below (s₁.setTop (entryFrame m #[(.ref kq), (.int en)] 4)) t := fun t k => castTop (ef_rm_kunlink2 m (kq) (en)) k
  have wd := fun {d : Jvm.Cond} (i : Nat) (h : tables_1[i]? = some d) => hw d (List.mem_of_getElem? h)
  obtain ⟨T1, X1, e1, st1⟩ := getF X0 hx hZ hown (host := "") (Or.inl (wd 18 rfl)) Via.refl e0 F_kq_keys (g := (mkF m 1 #[.val (.ref kq), .val (.int en), .unset, .unset] [(.ref kq)])) rfl rfl (D d18_1)
  obtain ⟨cl2, Ar2, q2, S2, Nn2, H2, -⟩ := id V_aK
  have hin2 : ¬ (en < 0 ∨ cl2.slots.size ≤ (en).toNatClampNeg) := inb_of S2 (own_in2 he)
  obtain ⟨_, hat2, v2, rfl⟩ := Arp.get H2 hin2
  have C2 : Elt h0 aK (en).toNatClampNeg (.long v2) := ⟨cl2, Ar2.1, hat2⟩
  obtain ⟨T3, X3, e3, st3⟩ := getF X1 hx hZ hown (host := "") (Or.inl (wd 20 rfl)) Via.refl e1 F_kq_before (g := (mkF m 13 #[.val (.ref kq), .val (.int en), .val (.int ((v2 &&& (65535 : Int64)).toInt32)), .unset] [(.ref kq)])) rfl rfl (D d18_13)
  obtain ⟨cl4, Ar4, q4, S4, Nn4, H4, -⟩ := id V_aB
  have hin4 : ¬ (en < 0 ∨ cl4.slots.size ≤ (en).toNatClampNeg) := inb_of S4 (own_in2 he)
  obtain ⟨_, hat4, v4, rfl, pi4⟩ := Arp.get H4 hin4
  have C4 : Elt h0 aB (en).toNatClampNeg (.int v4) := ⟨cl4, Ar4.1, hat4⟩
  have cs6 : Steps p.tables e below (s₁.setTop (mkF m 0 #[.val (.ref kq), .val (.int en), .unset, .unset] [])) (T3.setTop (mkF m 19 #[.val (.ref kq), .val (.int en), .val (.int ((v2 &&& (65535 : Int64)).toInt32)), .unset] [(.int (-1 : Int32)), (.int v4)])) := (by
    refine s_aloadN X0 hx (D d18_0) rfl rfl ?_
    refine st1 _ ?_
    refine s_iloadN X1 hx (D d18_4) rfl ?_
    refine X1.laload hx (j := en) (v := (.long v2)) (by rw [e1]; exact (Ar2).1) (State.isArrayOf_alike hZ.alike (Ar2).2.1) (Ar2).2.2 hin2 hat2 (g := (mkF m 5 #[.val (.ref kq), .val (.int en), .unset, .unset] [(.int en), (.ref aK)])) rfl rfl (D d18_5) _ ?_
    refine X1.ldc2Long hx hown (mvT hZ (wd 88 rfl)) (g := (mkF m 6 #[.val (.ref kq), .val (.int en), .unset, .unset] [(.long v2)])) rfl (D d18_6) _ ?_
    refine s_land X1 hx (D d18_9) rfl ?_
    refine s_l2i X1 hx (D d18_10) rfl ?_
    refine s_istoreN X1 hx (D d18_11) (l' := #[.val (.ref kq), .val (.int en), .val (.int ((v2 &&& (65535 : Int64)).toInt32)), .unset]) rfl ?_
    refine s_aloadN X1 hx (D d18_12) rfl rfl ?_
    refine st3 _ ?_
    refine s_iloadN X3 hx (D d18_16) rfl ?_
    refine X3.iaload hx (j := en) (v := (.int v4)) (by rw [e3]; exact (Ar4).1) (State.isArrayOf_alike hZ.alike (Ar4).2.1) (Ar4).2.2 hin4 hat4 (g := (mkF m 17 #[.val (.ref kq), .val (.int en), .val (.int ((v2 &&& (65535 : Int64)).toInt32)), .unset] [(.int en), (.ref aB)])) rfl rfl (D d18_17) _ ?_
    refine s_iconst X3 hx (-1 : Int32) (D d18_18) rfl ?_
    exact Steps.refl _)
  have jn5 : ∃ (T : State) (L : List Loc) (h : Heap), Stand p l e ({ frames := 0, cells := 0, slots := 0, locals := 0 } : Room) s m #[(.ref kq), (.int en)] below meth c T L 0 0 ∧ T.heap = h ∧ Fr n0 L ∧ Keep h0 h [kq, aB, aA, aI, aF, aO, aW] ∧ Old Z n0 h ∧ Exa Z h kq cQ ∧ Fld Z h kq cQ "keys" "[J" (.ref aK) ∧ Fld Z h kq cQ "before" "[I" (.ref aB) ∧ Fld Z h kq cQ "after" "[I" (.ref aA) ∧ Fld Z h kq cQ "inBucket" "[Z" (.ref aI) ∧ Fld Z h kq cQ "firsts" "[I" (.ref aF) ∧ Fld Z h kq cQ "occupied" "[J" (.ref aO) ∧ Fld Z h kq cQ "occupiedWords" "[J" (.ref aW) ∧ Fld Z h kq cQ "further" "Lcom/example/leasewise/leasewise/IndexedHeap;" (.ref hp) ∧ Fld Z h kq cQ "bucketed" "I" (.int bk) ∧ Fld Z h kq cQ "floor" "J" (.long fl) ∧ Arv Z h aI kI .boolean (2 : Int32) [(.int ib0), (.int ib1)] (.int (0 : Int32)) ∧ Arp Z h aK kK .long (2 : Int32) PJ ∧ Arp Z h aB kB .int (2 : Int32) PI ∧ Arp Z h aA kA .int (2 : Int32) PI ∧ Arp Z h aF kF .int (65536 : Int32) PI ∧ Arp Z h aO kO .long (1024 : Int32) PJ ∧ Arp Z h aW kW .long (16 : Int32) PJ ∧ Steps p.tables e below (s₁.setTop (mkF m 0 #[.val (.ref kq), .val (.int en), .unset, .unset] [])) (T.setTop (mkF m 54 #[.val (.ref kq), .val (.int en), .val (.int ((v2 &&& (65535 : Int64)).toInt32)), .unset] [])) := by
    by_cases hc7 : v4 = (-1 : Int32)
    · obtain ⟨T8, X8, e8, st8⟩ := getF X3 hx hZ hown (host := "") (Or.inl (wd 11 rfl)) Via.refl e3 F_kq_firsts (g := (mkF m 43 #[.val (.ref kq), .val (.int en), .val (.int ((v2 &&& (65535 : Int64)).toInt32)), .unset] [(.ref kq)])) rfl rfl (D d18_43)
      obtain ⟨T9, X9, e9, st9⟩ := getF X8 hx hZ hown (host := "") (Or.inl (wd 22 rfl)) Via.refl e8 F_kq_after (g := (mkF m 48 #[.val (.ref kq), .val (.int en), .val (.int ((v2 &&& (65535 : Int64)).toInt32)), .unset] [(.ref kq), (.int ((v2 &&& (65535 : Int64)).toInt32)), (.ref aF)])) rfl rfl (D d18_48)
      obtain ⟨cl10, Ar10, q10, S10, Nn10, H10, -⟩ := id V_aA
      have hin10 : ¬ (en < 0 ∨ cl10.slots.size ≤ (en).toNatClampNeg) := inb_of S10 (own_in2 he)
      obtain ⟨_, hat10, v10, rfl, pi10⟩ := Arp.get H10 hin10
      have C10 : Elt h0 aA (en).toNatClampNeg (.int v10) := ⟨cl10, Ar10.1, hat10⟩
      obtain ⟨cl11, Ar11, q11, S11, Nn11, H11, G11⟩ := id V_aF
      have hin11 : ¬ (((v2 &&& (65535 : Int64)).toInt32) < 0 ∨ cl11.slots.size ≤ (((v2 &&& (65535 : Int64)).toInt32)).toNatClampNeg) := inb_of S11 (own_bkl (own_bk v2) (by decide))
      obtain ⟨T11, h11, X11, e11, W11, st11⟩ := stI X9 hx hZ e9 Ar11 (j := ((v2 &&& (65535 : Int64)).toInt32)) hin11 (g := (mkF m 53 #[.val (.ref kq), .val (.int en), .val (.int ((v2 &&& (65535 : Int64)).toInt32)), .unset] [(.int v10), (.int ((v2 &&& (65535 : Int64)).toInt32)), (.ref aF)])) rfl rfl (D d18_53)
      have V11 : Arp Z h11 aF kF .int (65536 : Int32) PI := Arp.set Ar11 q11 S11 Nn11 H11 (own_PI pi10) W11
      have N11 := Fr.snoc X11 N0 g_aF
      have Zn11 : n0 ≤ h11.size := Nat.le_trans (own_oldsz O0) (Keep.of_wr W11).1
      have K11 : Keep h0 h11 [kq, aB, aA, aI, aF, aO, aW] := (Keep.refl h0 [kq, aB, aA, aI, aF, aO, aW]).wr W11 (Or.inl (List.mem_of_getElem? (i := 4) rfl))
      have O11 := O0.wr W11 g_aF
      have cs12 : Steps p.tables e below (s₁.setTop (mkF m 0 #[.val (.ref kq), .val (.int en), .unset, .unset] [])) (T11.setTop (mkF m 54 #[.val (.ref kq), .val (.int en), .val (.int ((v2 &&& (65535 : Int64)).toInt32)), .unset] [])) := cs6.trans (by
        refine s_icmpYes X3 hx 42 (D d18_19) (teq hc7).1 (of_decide_eq_true rfl) rfl ?_
        refine s_aloadN X3 hx (D d18_42) rfl rfl ?_
        refine st8 _ ?_
        refine s_iloadN X8 hx (D d18_46) rfl ?_
        refine s_aloadN X8 hx (D d18_47) rfl rfl ?_
        refine st9 _ ?_
        refine s_iloadN X9 hx (D d18_51) rfl ?_
        refine X9.iaload hx (j := en) (v := (.int v10)) (by rw [e9]; exact (Ar10).1) (State.isArrayOf_alike hZ.alike (Ar10).2.1) (Ar10).2.2 hin10 hat10 (g := (mkF m 52 #[.val (.ref kq), .val (.int en), .val (.int ((v2 &&& (65535 : Int64)).toInt32)), .unset] [(.int en), (.ref aA), (.int ((v2 &&& (65535 : Int64)).toInt32)), (.ref aF)])) rfl rfl (D d18_52) _ ?_
        refine st11 _ ?_
        exact Steps.refl _)
      have f13 := (E_kq.wr W11)
      have f14 := (F_kq_keys.other W11 (Or.inl (ne0_1 NDp)))
      have f15 := (F_kq_before.other W11 (Or.inl (ne0_1 NDp)))
      have f16 := (F_kq_after.other W11 (Or.inl (ne0_1 NDp)))
      have f17 := (F_kq_inBucket.other W11 (Or.inl (ne0_1 NDp)))
      have f18 := (F_kq_firsts.other W11 (Or.inl (ne0_1 NDp)))
      have f19 := (F_kq_occupied.other W11 (Or.inl (ne0_1 NDp)))
      have f20 := (F_kq_occupiedWords.other W11 (Or.inl (ne0_1 NDp)))
      have f21 := (F_kq_further.other W11 (Or.inl (ne0_1 NDp)))
      have f22 := (F_kq_bucketed.other W11 (Or.inl (ne0_1 NDp)))
      have f23 := (F_kq_floor.other W11 (Or.inl (ne0_1 NDp)))
      have f24 := (V_aI.other W11 (ne7_1 NDp))
      have f25 := (V_aK.other W11 (ne4_1 NDp))
      have f26 := (V_aB.other W11 (ne5_1 NDp))
      have f27 := (V_aA.other W11 (ne6_1 NDp))
      have f28 := (V_aO.other W11 (ne2_1 NDp))
      have f29 := (V_aW.other W11 (ne3_1 NDp))
      exact ⟨T11, _, _, X11, e11, N11, K11, O11, f13, f14, f15, f16, f17, f18, f19, f20, f21, f22, f23, f24, f25, f26, f27, V11, f28, f29, cs12⟩
    · obtain ⟨T30, X30, e30, st30⟩ := getF X3 hx hZ hown (host := "") (Or.inl (wd 22 rfl)) Via.refl e3 F_kq_after (g := (mkF m 23 #[.val (.ref kq), .val (.int en), .val (.int ((v2 &&& (65535 : Int64)).toInt32)), .unset] [(.ref kq)])) rfl rfl (D d18_23)
      obtain ⟨T31, X31, e31, st31⟩ := getF X30 hx hZ hown (host := "") (Or.inl (wd 20 rfl)) Via.refl e30 F_kq_before (g := (mkF m 27 #[.val (.ref kq), .val (.int en), .val (.int ((v2 &&& (65535 : Int64)).toInt32)), .unset] [(.ref kq), (.ref aA)])) rfl rfl (D d18_27)
      obtain ⟨cl32, Ar32, q32, S32, Nn32, H32, -⟩ := id V_aB
      have hin32 : ¬ (en < 0 ∨ cl32.slots.size ≤ (en).toNatClampNeg) := inb_of S32 (own_in2 he)
      have hat32 : cl32.slots[(en).toNatClampNeg]? = some (.int v4) := Elt.at C4 Ar32.1
      obtain ⟨T33, X33, e33, st33⟩ := getF X31 hx hZ hown (host := "") (Or.inl (wd 22 rfl)) Via.refl e31 F_kq_after (g := (mkF m 33 #[.val (.ref kq), .val (.int en), .val (.int ((v2 &&& (65535 : Int64)).toInt32)), .unset] [(.ref kq), (.int v4), (.ref aA)])) rfl rfl (D d18_33)
      obtain ⟨cl34, Ar34, q34, S34, Nn34, H34, -⟩ := id V_aA
      have hin34 : ¬ (en < 0 ∨ cl34.slots.size ≤ (en).toNatClampNeg) := inb_of S34 (own_in2 he)
      obtain ⟨_, hat34, v34, rfl, pi34⟩ := Arp.get H34 hin34
      have C34 : Elt h0 aA (en).toNatClampNeg (.int v34) := ⟨cl34, Ar34.1, hat34⟩
      obtain ⟨cl35, Ar35, q35, S35, Nn35, H35, G35⟩ := id V_aA
      have hin35 : ¬ (v4 < 0 ∨ cl35.slots.size ≤ (v4).toNatClampNeg) := inb_of S35 (own_pi2 pi4 hc7)
      obtain ⟨T35, h35, X35, e35, W35, st35⟩ := stI X33 hx hZ e33 Ar35 (j := v4) hin35 (g := (mkF m 38 #[.val (.ref kq), .val (.int en), .val (.int ((v2 &&& (65535 : Int64)).toInt32)), .unset] [(.int v34), (.int v4), (.ref aA)])) rfl rfl (D d18_38)
      have V35 : Arp Z h35 aA kA .int (2 : Int32) PI := Arp.set Ar35 q35 S35 Nn35 H35 (own_PI pi34) W35
      have N35 := Fr.snoc X35 N0 g_aA
      have Zn35 : n0 ≤ h35.size := Nat.le_trans (own_oldsz O0) (Keep.of_wr W35).1
      have K35 : Keep h0 h35 [kq, aB, aA, aI, aF, aO, aW] := (Keep.refl h0 [kq, aB, aA, aI, aF, aO, aW]).wr W35 (Or.inl (List.mem_of_getElem? (i := 2) rfl))
      have O35 := O0.wr W35 g_aA
      have cs36 : Steps p.tables e below (s₁.setTop (mkF m 0 #[.val (.ref kq), .val (.int en), .unset, .unset] [])) (T35.setTop (mkF m 54 #[.val (.ref kq), .val (.int en), .val (.int ((v2 &&& (65535 : Int64)).toInt32)), .unset] [])) := cs6.trans (by
        refine s_icmpNo X3 hx (D d18_19) (feq hc7).1 ?_
        refine s_aloadN X3 hx (D d18_22) rfl rfl ?_
        refine st30 _ ?_
        refine s_aloadN X30 hx (D d18_26) rfl rfl ?_
        refine st31 _ ?_
        refine s_iloadN X31 hx (D d18_30) rfl ?_
        refine X31.iaload hx (j := en) (v := (.int v4)) (by rw [e31]; exact (Ar32).1) (State.isArrayOf_alike hZ.alike (Ar32).2.1) (Ar32).2.2 hin32 hat32 (g := (mkF m 31 #[.val (.ref kq), .val (.int en), .val (.int ((v2 &&& (65535 : Int64)).toInt32)), .unset] [(.int en), (.ref aB), (.ref aA)])) rfl rfl (D d18_31) _ ?_
        refine s_aloadN X31 hx (D d18_32) rfl rfl ?_
        refine st33 _ ?_
        refine s_iloadN X33 hx (D d18_36) rfl ?_
        refine X33.iaload hx (j := en) (v := (.int v34)) (by rw [e33]; exact (Ar34).1) (State.isArrayOf_alike hZ.alike (Ar34).2.1) (Ar34).2.2 hin34 hat34 (g := (mkF m 37 #[.val (.ref kq), .val (.int en), .val (.int ((v2 &&& (65535 : Int64)).toInt32)), .unset] [(.int en), (.ref aA), (.int v4), (.ref aA)])) rfl rfl (D d18_37) _ ?_
        refine st35 _ ?_
        refine s_goto X35 hx 54 (D d18_39) (of_decide_eq_true rfl) rfl ?_
        exact Steps.refl _)
      have f37 := (E_kq.wr W35)
      have f38 := (F_kq_keys.other W35 (Or.inl (ne0_6 NDp)))
      have f39 := (F_kq_before.other W35 (Or.inl (ne0_6 NDp)))
      have f40 := (F_kq_after.other W35 (Or.inl (ne0_6 NDp)))
      have f41 := (F_kq_inBucket.other W35 (Or.inl (ne0_6 NDp)))
      have f42 := (F_kq_firsts.other W35 (Or.inl (ne0_6 NDp)))
      have f43 := (F_kq_occupied.other W35 (Or.inl (ne0_6 NDp)))
      have f44 := (F_kq_occupiedWords.other W35 (Or.inl (ne0_6 NDp)))
      have f45 := (F_kq_further.other W35 (Or.inl (ne0_6 NDp)))
      have f46 := (F_kq_bucketed.other W35 (Or.inl (ne0_6 NDp)))
      have f47 := (F_kq_floor.other W35 (Or.inl (ne0_6 NDp)))
      have f48 := (V_aI.other W35 (ne7_6 NDp))
      have f49 := (V_aK.other W35 (ne4_6 NDp))
      have f50 := (V_aB.other W35 (ne5_6 NDp))
      have f51 := (V_aF.other W35 (ne1_6 NDp))
      have f52 := (V_aO.other W35 (ne2_6 NDp))
      have f53 := (V_aW.other W35 (ne3_6 NDp))
      exact ⟨T35, _, _, X35, e35, N35, K35, O35, f37, f38, f39, f40, f41, f42, f43, f44, f45, f46, f47, f48, f49, f50, V35, f51, f52, f53, cs36⟩
  obtain ⟨Tj5, Lj5, hj5, Xj5, ej5, Nj5, Kj5, Oj5, J5_0, J5_1, J5_2, J5_3, J5_4, J5_5, J5_6, J5_7, J5_8, J5_9, J5_10, J5_11, J5_12, J5_13, J5_14, J5_15, J5_16, J5_17, cj5⟩ := jn5
  obtain ⟨T54, X54, e54, st54⟩ := getF Xj5 hx hZ hown (host := "") (Or.inl (wd 22 rfl)) Via.refl ej5 J5_3 (g := (mkF m 55 #[.val (.ref kq), .val (.int en), .val (.int ((v2 &&& (65535 : Int64)).toInt32)), .unset] [(.ref kq)])) rfl rfl (D d18_55)
  obtain ⟨cl55, Ar55, q55, S55, Nn55, H55, -⟩ := id J5_14
  have hin55 : ¬ (en < 0 ∨ cl55.slots.size ≤ (en).toNatClampNeg) := inb_of S55 (own_in2 he)
  obtain ⟨_, hat55, v55, rfl, pi55⟩ := Arp.get H55 hin55
  have C55 : Elt hj5 aA (en).toNatClampNeg (.int v55) := ⟨cl55, Ar55.1, hat55⟩
  have cs57 : Steps p.tables e below (s₁.setTop (mkF m 0 #[.val (.ref kq), .val (.int en), .unset, .unset] [])) (T54.setTop (mkF m 61 #[.val (.ref kq), .val (.int en), .val (.int ((v2 &&& (65535 : Int64)).toInt32)), .unset] [(.int (-1 : Int32)), (.int v55)])) := cj5.trans (by
    refine s_aloadN Xj5 hx (D d18_54) rfl rfl ?_
    refine st54 _ ?_
    refine s_iloadN X54 hx (D d18_58) rfl ?_
    refine X54.iaload hx (j := en) (v := (.int v55)) (by rw [e54]; exact (Ar55).1) (State.isArrayOf_alike hZ.alike (Ar55).2.1) (Ar55).2.2 hin55 hat55 (g := (mkF m 59 #[.val (.ref kq), .val (.int en), .val (.int ((v2 &&& (65535 : Int64)).toInt32)), .unset] [(.int en), (.ref aA)])) rfl rfl (D d18_59) _ ?_
    refine s_iconst X54 hx (-1 : Int32) (D d18_60) rfl ?_
    exact Steps.refl _)
  have jn56 : ∃ (T : State) (L : List Loc) (h : Heap), Stand p l e ({ frames := 0, cells := 0, slots := 0, locals := 0 } : Room) s m #[(.ref kq), (.int en)] below meth c T L 0 0 ∧ T.heap = h ∧ Fr n0 L ∧ Keep h0 h [kq, aB, aA, aI, aF, aO, aW] ∧ Old Z n0 h ∧ Exa Z h kq cQ ∧ Fld Z h kq cQ "keys" "[J" (.ref aK) ∧ Fld Z h kq cQ "before" "[I" (.ref aB) ∧ Fld Z h kq cQ "after" "[I" (.ref aA) ∧ Fld Z h kq cQ "inBucket" "[Z" (.ref aI) ∧ Fld Z h kq cQ "firsts" "[I" (.ref aF) ∧ Fld Z h kq cQ "occupied" "[J" (.ref aO) ∧ Fld Z h kq cQ "occupiedWords" "[J" (.ref aW) ∧ Fld Z h kq cQ "further" "Lcom/example/leasewise/leasewise/IndexedHeap;" (.ref hp) ∧ Fld Z h kq cQ "bucketed" "I" (.int bk) ∧ Fld Z h kq cQ "floor" "J" (.long fl) ∧ Arv Z h aI kI .boolean (2 : Int32) [(.int ib0), (.int ib1)] (.int (0 : Int32)) ∧ Arp Z h aK kK .long (2 : Int32) PJ ∧ Arp Z h aB kB .int (2 : Int32) PI ∧ Arp Z h aA kA .int (2 : Int32) PI ∧ Arp Z h aF kF .int (65536 : Int32) PI ∧ Arp Z h aO kO .long (1024 : Int32) PJ ∧ Arp Z h aW kW .long (16 : Int32) PJ ∧ Steps p.tables e below (s₁.setTop (mkF m 0 #[.val (.ref kq), .val (.int en), .unset, .unset] [])) (T.setTop (mkF m 81 #[.val (.ref kq), .val (.int en), .val (.int ((v2 &&& (65535 : Int64)).toInt32)), .unset] [])) := by
    by_cases hc58 : v55 = (-1 : Int32)
    · have cs59 : Steps p.tables e below (s₁.setTop (mkF m 0 #[.val (.ref kq), .val (.int en), .unset, .unset] [])) (T54.setTop (mkF m 81 #[.val (.ref kq), .val (.int en), .val (.int ((v2 &&& (65535 : Int64)).toInt32)), .unset] [])) := cs57.trans (by
        refine s_icmpYes X54 hx 81 (D d18_61) (teq hc58).1 (of_decide_eq_true rfl) rfl ?_
        exact Steps.refl _)
      exact ⟨T54, _, _, X54, e54, Nj5, Kj5, Oj5, J5_0, J5_1, J5_2, J5_3, J5_4, J5_5, J5_6, J5_7, J5_8, J5_9, J5_10, J5_11, J5_12, J5_13, J5_14, J5_15, J5_16, J5_17, cs59⟩
    · obtain ⟨T60, X60, e60, st60⟩ := getF X54 hx hZ hown (host := "") (Or.inl (wd 20 rfl)) Via.refl e54 J5_2 (g := (mkF m 65 #[.val (.ref kq), .val (.int en), .val (.int ((v2 &&& (65535 : Int64)).toInt32)), .unset] [(.ref kq)])) rfl rfl (D d18_65)
      obtain ⟨T61, X61, e61, st61⟩ := getF X60 hx hZ hown (host := "") (Or.inl (wd 22 rfl)) Via.refl e60 J5_3 (g := (mkF m 69 #[.val (.ref kq), .val (.int en), .val (.int ((v2 &&& (65535 : Int64)).toInt32)), .unset] [(.ref kq), (.ref aB)])) rfl rfl (D d18_69)
      obtain ⟨cl62, Ar62, q62, S62, Nn62, H62, -⟩ := id J5_14
      have hin62 : ¬ (en < 0 ∨ cl62.slots.size ≤ (en).toNatClampNeg) := inb_of S62 (own_in2 he)
      have hat62 : cl62.slots[(en).toNatClampNeg]? = some (.int v55) := Elt.at C55 Ar62.1
      obtain ⟨T63, X63, e63, st63⟩ := getF X61 hx hZ hown (host := "") (Or.inl (wd 20 rfl)) Via.refl e61 J5_2 (g := (mkF m 75 #[.val (.ref kq), .val (.int en), .val (.int ((v2 &&& (65535 : Int64)).toInt32)), .unset] [(.ref kq), (.int v55), (.ref aB)])) rfl rfl (D d18_75)
      obtain ⟨cl64, Ar64, q64, S64, Nn64, H64, -⟩ := id J5_13
      have hin64 : ¬ (en < 0 ∨ cl64.slots.size ≤ (en).toNatClampNeg) := inb_of S64 (own_in2 he)
      obtain ⟨_, hat64, v64, rfl, pi64⟩ := Arp.get H64 hin64
      have C64 : Elt hj5 aB (en).toNatClampNeg (.int v64) := ⟨cl64, Ar64.1, hat64⟩
      obtain ⟨cl65, Ar65, q65, S65, Nn65, H65, G65⟩ := id J5_13
      have hin65 : ¬ (v55 < 0 ∨ cl65.slots.size ≤ (v55).toNatClampNeg) := inb_of S65 (own_pi2 pi55 hc58)
      obtain ⟨T65, h65, X65, e65, W65, st65⟩ := stI X63 hx hZ e63 Ar65 (j := v55) hin65 (g := (mkF m 80 #[.val (.ref kq), .val (.int en), .val (.int ((v2 &&& (65535 : Int64)).toInt32)), .unset] [(.int v64), (.int v55), (.ref aB)])) rfl rfl (D d18_80)
      have V65 : Arp Z h65 aB kB .int (2 : Int32) PI := Arp.set Ar65 q65 S65 Nn65 H65 (own_PI pi64) W65
      have N65 := Fr.snoc X65 Nj5 g_aB
      have Zn65 : n0 ≤ h65.size := Nat.le_trans (own_oldsz Oj5) (Keep.of_wr W65).1
      have K65 : Keep h0 h65 [kq, aB, aA, aI, aF, aO, aW] := Kj5.wr W65 (Or.inl (List.mem_of_getElem? (i := 1) rfl))
      have O65 := Oj5.wr W65 g_aB
      have cs66 : Steps p.tables e below (s₁.setTop (mkF m 0 #[.val (.ref kq), .val (.int en), .unset, .unset] [])) (T65.setTop (mkF m 81 #[.val (.ref kq), .val (.int en), .val (.int ((v2 &&& (65535 : Int64)).toInt32)), .unset] [])) := cs57.trans (by
        refine s_icmpNo X54 hx (D d18_61) (feq hc58).1 ?_
        refine s_aloadN X54 hx (D d18_64) rfl rfl ?_
        refine st60 _ ?_
        refine s_aloadN X60 hx (D d18_68) rfl rfl ?_
        refine st61 _ ?_
        refine s_iloadN X61 hx (D d18_72) rfl ?_
        refine X61.iaload hx (j := en) (v := (.int v55)) (by rw [e61]; exact (Ar62).1) (State.isArrayOf_alike hZ.alike (Ar62).2.1) (Ar62).2.2 hin62 hat62 (g := (mkF m 73 #[.val (.ref kq), .val (.int en), .val (.int ((v2 &&& (65535 : Int64)).toInt32)), .unset] [(.int en), (.ref aA), (.ref aB)])) rfl rfl (D d18_73) _ ?_
        refine s_aloadN X61 hx (D d18_74) rfl rfl ?_
        refine st63 _ ?_
        refine s_iloadN X63 hx (D d18_78) rfl ?_
        refine X63.iaload hx (j := en) (v := (.int v64)) (by rw [e63]; exact (Ar64).1) (State.isArrayOf_alike hZ.alike (Ar64).2.1) (Ar64).2.2 hin64 hat64 (g := (mkF m 79 #[.val (.ref kq), .val (.int en), .val (.int ((v2 &&& (65535 : Int64)).toInt32)), .unset] [(.int en), (.ref aB), (.int v55), (.ref aB)])) rfl rfl (D d18_79) _ ?_
        refine st65 _ ?_
        exact Steps.refl _)
      have f67 := (J5_0.wr W65)
      have f68 := (J5_1.other W65 (Or.inl (ne0_5 NDp)))
      have f69 := (J5_2.other W65 (Or.inl (ne0_5 NDp)))
      have f70 := (J5_3.other W65 (Or.inl (ne0_5 NDp)))
      have f71 := (J5_4.other W65 (Or.inl (ne0_5 NDp)))
      have f72 := (J5_5.other W65 (Or.inl (ne0_5 NDp)))
      have f73 := (J5_6.other W65 (Or.inl (ne0_5 NDp)))
      have f74 := (J5_7.other W65 (Or.inl (ne0_5 NDp)))
      have f75 := (J5_8.other W65 (Or.inl (ne0_5 NDp)))
      have f76 := (J5_9.other W65 (Or.inl (ne0_5 NDp)))
      have f77 := (J5_10.other W65 (Or.inl (ne0_5 NDp)))
      have f78 := (J5_11.other W65 (ne7_5 NDp))
      have f79 := (J5_12.other W65 (ne4_5 NDp))
      have f80 := (J5_14.other W65 (ne6_5 NDp))
      have f81 := (J5_15.other W65 (ne1_5 NDp))
      have f82 := (J5_16.other W65 (ne2_5 NDp))
      have f83 := (J5_17.other W65 (ne3_5 NDp))
      exact ⟨T65, _, _, X65, e65, N65, K65, O65, f67, f68, f69, f70, f71, f72, f73, f74, f75, f76, f77, f78, f79, V65, f80, f81, f82, f83, cs66⟩
  obtain ⟨Tj56, Lj56, hj56, Xj56, ej56, Nj56, Kj56, Oj56, J56_0, J56_1, J56_2, J56_3, J56_4, J56_5, J56_6, J56_7, J56_8, J56_9, J56_10, J56_11, J56_12, J56_13, J56_14, J56_15, J56_16, J56_17, cj56⟩ := jn56
  obtain ⟨T84, X84, e84, st84⟩ := getF Xj56 hx hZ hown (host := "") (Or.inl (wd 11 rfl)) Via.refl ej56 J56_5 (g := (mkF m 82 #[.val (.ref kq), .val (.int en), .val (.int ((v2 &&& (65535 : Int64)).toInt32)), .unset] [(.ref kq)])) rfl rfl (D d18_82)
  obtain ⟨cl85, Ar85, q85, S85, Nn85, H85, -⟩ := id J56_15
  have hin85 : ¬ (((v2 &&& (65535 : Int64)).toInt32) < 0 ∨ cl85.slots.size ≤ (((v2 &&& (65535 : Int64)).toInt32)).toNatClampNeg) := inb_of S85 (own_bkl (own_bk v2) (by decide))
  obtain ⟨_, hat85, v85, rfl, pi85⟩ := Arp.get H85 hin85
  have C85 : Elt hj56 aF (((v2 &&& (65535 : Int64)).toInt32)).toNatClampNeg (.int v85) := ⟨cl85, Ar85.1, hat85⟩
  have cs87 : Steps p.tables e below (s₁.setTop (mkF m 0 #[.val (.ref kq), .val (.int en), .unset, .unset] [])) (T84.setTop (mkF m 88 #[.val (.ref kq), .val (.int en), .val (.int ((v2 &&& (65535 : Int64)).toInt32)), .unset] [(.int (-1 : Int32)), (.int v85)])) := cj56.trans (by
    refine s_aloadN Xj56 hx (D d18_81) rfl rfl ?_
    refine st84 _ ?_
    refine s_iloadN X84 hx (D d18_85) rfl ?_
    refine X84.iaload hx (j := ((v2 &&& (65535 : Int64)).toInt32)) (v := (.int v85)) (by rw [e84]; exact (Ar85).1) (State.isArrayOf_alike hZ.alike (Ar85).2.1) (Ar85).2.2 hin85 hat85 (g := (mkF m 86 #[.val (.ref kq), .val (.int en), .val (.int ((v2 &&& (65535 : Int64)).toInt32)), .unset] [(.int ((v2 &&& (65535 : Int64)).toInt32)), (.ref aF)])) rfl rfl (D d18_86) _ ?_
    refine s_iconst X84 hx (-1 : Int32) (D d18_87) rfl ?_
    exact Steps.refl _)
  have jn86 : ∃ (zs3_86 : Slot) (T : State) (L : List Loc) (h : Heap), Stand p l e ({ frames := 0, cells := 0, slots := 0, locals := 0 } : Room) s m #[(.ref kq), (.int en)] below meth c T L 0 0 ∧ T.heap = h ∧ Fr n0 L ∧ Keep h0 h [kq, aB, aA, aI, aF, aO, aW] ∧ Old Z n0 h ∧ Exa Z h kq cQ ∧ Fld Z h kq cQ "keys" "[J" (.ref aK) ∧ Fld Z h kq cQ "before" "[I" (.ref aB) ∧ Fld Z h kq cQ "after" "[I" (.ref aA) ∧ Fld Z h kq cQ "inBucket" "[Z" (.ref aI) ∧ Fld Z h kq cQ "firsts" "[I" (.ref aF) ∧ Fld Z h kq cQ "occupied" "[J" (.ref aO) ∧ Fld Z h kq cQ "occupiedWords" "[J" (.ref aW) ∧ Fld Z h kq cQ "further" "Lcom/example/leasewise/leasewise/IndexedHeap;" (.ref hp) ∧ Fld Z h kq cQ "bucketed" "I" (.int bk) ∧ Fld Z h kq cQ "floor" "J" (.long fl) ∧ Arv Z h aI kI .boolean (2 : Int32) [(.int ib0), (.int ib1)] (.int (0 : Int32)) ∧ Arp Z h aK kK .long (2 : Int32) PJ ∧ Arp Z h aB kB .int (2 : Int32) PI ∧ Arp Z h aA kA .int (2 : Int32) PI ∧ Arp Z h aF kF .int (65536 : Int32) PI ∧ Arp Z h aO kO .long (1024 : Int32) PJ ∧ Arp Z h aW kW .long (16 : Int32) PJ ∧ Steps p.tables e below (s₁.setTop (mkF m 0 #[.val (.ref kq), .val (.int en), .unset, .unset] [])) (T.setTop (mkF m 148 #[.val (.ref kq), .val (.int en), .val (.int ((v2 &&& (65535 : Int64)).toInt32)), zs3_86] [])) := by
    by_cases hc88 : v85 = (-1 : Int32)
    · obtain ⟨T89, X89, e89, st89⟩ := getF X84 hx hZ hown (host := "") (Or.inl (wd 14 rfl)) Via.refl e84 J56_6 (g := (mkF m 97 #[.val (.ref kq), .val (.int en), .val (.int ((v2 &&& (65535 : Int64)).toInt32)), .val (.int (((v2 &&& (65535 : Int64)).toInt32) / (64 : Int32)))] [(.ref kq)])) rfl rfl (D d18_97)
      obtain ⟨cl90, Ar90, q90, S90, Nn90, H90, -⟩ := id J56_16
      have hin90 : ¬ ((((v2 &&& (65535 : Int64)).toInt32) / (64 : Int32)) < 0 ∨ cl90.slots.size ≤ ((((v2 &&& (65535 : Int64)).toInt32) / (64 : Int32))).toNatClampNeg) := inb_of S90 (own_bkl (own_div64 (n := 1024) (own_bk v2)) (by decide))
      obtain ⟨_, hat90, v90, rfl⟩ := Arp.get H90 hin90
      have C90 : Elt hj56 aO ((((v2 &&& (65535 : Int64)).toInt32) / (64 : Int32))).toNatClampNeg (.long v90) := ⟨cl90, Ar90.1, hat90⟩
      obtain ⟨cl91, Ar91, q91, S91, Nn91, H91, G91⟩ := id J56_16
      have hin91 : ¬ ((((v2 &&& (65535 : Int64)).toInt32) / (64 : Int32)) < 0 ∨ cl91.slots.size ≤ ((((v2 &&& (65535 : Int64)).toInt32) / (64 : Int32))).toNatClampNeg) := inb_of S91 (own_bkl (own_div64 (n := 1024) (own_bk v2)) (by decide))
      obtain ⟨T91, h91, X91, e91, W91, st91⟩ := stJ X89 hx hZ e89 Ar91 (j := (((v2 &&& (65535 : Int64)).toInt32) / (64 : Int32))) hin91 (g := (mkF m 114 #[.val (.ref kq), .val (.int en), .val (.int ((v2 &&& (65535 : Int64)).toInt32)), .val (.int (((v2 &&& (65535 : Int64)).toInt32) / (64 : Int32)))] [(.long (v90 &&& (((1 : Int64) <<< ((((v2 &&& (65535 : Int64)).toInt32) % (64 : Int32)) &&& 0x3f).toInt64) ^^^ (-1 : Int64)))), (.int (((v2 &&& (65535 : Int64)).toInt32) / (64 : Int32))), (.ref aO)])) rfl rfl (D d18_114)
      have V91 : Arp Z h91 aO kO .long (1024 : Int32) PJ := Arp.set Ar91 q91 S91 Nn91 H91 (own_PJ _) W91
      have N91 := Fr.snoc X91 Nj56 g_aO
      have Zn91 : n0 ≤ h91.size := Nat.le_trans (own_oldsz Oj56) (Keep.of_wr W91).1
      have K91 : Keep h0 h91 [kq, aB, aA, aI, aF, aO, aW] := Kj56.wr W91 (Or.inl (List.mem_of_getElem? (i := 5) rfl))
      have O91 := Oj56.wr W91 g_aO
      have f92 := (J56_6.other W91 (Or.inl (ne0_2 NDp)))
      obtain ⟨T93, X93, e93, st93⟩ := getF X91 hx hZ hown (host := "") (Or.inl (wd 14 rfl)) Via.refl e91 f92 (g := (mkF m 116 #[.val (.ref kq), .val (.int en), .val (.int ((v2 &&& (65535 : Int64)).toInt32)), .val (.int (((v2 &&& (65535 : Int64)).toInt32) / (64 : Int32)))] [(.ref kq)])) rfl rfl (D d18_116)
      obtain ⟨cl94, Ar94, q94, S94, Nn94, H94, -⟩ := id V91
      have hin94 : ¬ ((((v2 &&& (65535 : Int64)).toInt32) / (64 : Int32)) < 0 ∨ cl94.slots.size ≤ ((((v2 &&& (65535 : Int64)).toInt32) / (64 : Int32))).toNatClampNeg) := inb_of S94 (own_bkl (own_div64 (n := 1024) (own_bk v2)) (by decide))
      obtain ⟨_, hat94, v94, rfl⟩ := Arp.get H94 hin94
      have C94 : Elt h91 aO ((((v2 &&& (65535 : Int64)).toInt32) / (64 : Int32))).toNatClampNeg (.long v94) := ⟨cl94, Ar94.1, hat94⟩
      have cs95 : Steps p.tables e below (s₁.setTop (mkF m 0 #[.val (.ref kq), .val (.int en), .unset, .unset] [])) (T93.setTop (mkF m 123 #[.val (.ref kq), .val (.int en), .val (.int ((v2 &&& (65535 : Int64)).toInt32)), .val (.int (((v2 &&& (65535 : Int64)).toInt32) / (64 : Int32)))] [(.int (lcmpW v94 (0 : Int64)))])) := cs87.trans (by
        refine s_icmpNo X84 hx (D d18_88) (teq hc88).2 ?_
        refine s_iloadN X84 hx (D d18_91) rfl ?_
        refine s_bipush X84 hx (64 : Int32) (D d18_92) rfl ?_
        refine s_idiv X84 hx (D d18_94) (by decide) rfl ?_
        refine s_istoreN X84 hx (D d18_95) (l' := #[.val (.ref kq), .val (.int en), .val (.int ((v2 &&& (65535 : Int64)).toInt32)), .val (.int (((v2 &&& (65535 : Int64)).toInt32) / (64 : Int32)))]) rfl ?_
        refine s_aloadN X84 hx (D d18_96) rfl rfl ?_
        refine st89 _ ?_
        refine s_iloadN X89 hx (D d18_100) rfl ?_
        refine s_dup2 X89 hx (D d18_101) rfl rfl ?_
        refine X89.laload hx (j := (((v2 &&& (65535 : Int64)).toInt32) / (64 : Int32))) (v := (.long v90)) (by rw [e89]; exact (Ar90).1) (State.isArrayOf_alike hZ.alike (Ar90).2.1) (Ar90).2.2 hin90 hat90 (g := (mkF m 102 #[.val (.ref kq), .val (.int en), .val (.int ((v2 &&& (65535 : Int64)).toInt32)), .val (.int (((v2 &&& (65535 : Int64)).toInt32) / (64 : Int32)))] [(.int (((v2 &&& (65535 : Int64)).toInt32) / (64 : Int32))), (.ref aO), (.int (((v2 &&& (65535 : Int64)).toInt32) / (64 : Int32))), (.ref aO)])) rfl rfl (D d18_102) _ ?_
        refine s_lconst X89 hx (1 : Int64) (D d18_103) rfl ?_
        refine s_iloadN X89 hx (D d18_104) rfl ?_
        refine s_bipush X89 hx (64 : Int32) (D d18_105) rfl ?_
        refine s_irem X89 hx (D d18_107) (by decide) rfl ?_
        refine s_lshl X89 hx (D d18_108) rfl ?_
        refine X89.ldc2Long hx hown (mvT hZ (wd 108 rfl)) (g := (mkF m 109 #[.val (.ref kq), .val (.int en), .val (.int ((v2 &&& (65535 : Int64)).toInt32)), .val (.int (((v2 &&& (65535 : Int64)).toInt32) / (64 : Int32)))] [(.long ((1 : Int64) <<< ((((v2 &&& (65535 : Int64)).toInt32) % (64 : Int32)) &&& 0x3f).toInt64)), (.long v90), (.int (((v2 &&& (65535 : Int64)).toInt32) / (64 : Int32))), (.ref aO)])) rfl (D d18_109) _ ?_
        refine s_lxor X89 hx (D d18_112) rfl ?_
        refine s_land X89 hx (D d18_113) rfl ?_
        refine st91 _ ?_
        refine s_aloadN X91 hx (D d18_115) rfl rfl ?_
        refine st93 _ ?_
        refine s_iloadN X93 hx (D d18_119) rfl ?_
        refine X93.laload hx (j := (((v2 &&& (65535 : Int64)).toInt32) / (64 : Int32))) (v := (.long v94)) (by rw [e93]; exact (Ar94).1) (State.isArrayOf_alike hZ.alike (Ar94).2.1) (Ar94).2.2 hin94 hat94 (g := (mkF m 120 #[.val (.ref kq), .val (.int en), .val (.int ((v2 &&& (65535 : Int64)).toInt32)), .val (.int (((v2 &&& (65535 : Int64)).toInt32) / (64 : Int32)))] [(.int (((v2 &&& (65535 : Int64)).toInt32) / (64 : Int32))), (.ref aO)])) rfl rfl (D d18_120) _ ?_
        refine s_lconst X93 hx (0 : Int64) (D d18_121) rfl ?_
        refine s_lcmp X93 hx (D d18_122) rfl ?_
        exact Steps.refl _)
      by_cases hc96 : (lcmpW v94 (0 : Int64)) = (0 : Int32)
      · have f97 := (J56_7.other W91 (Or.inl (ne0_2 NDp)))
        obtain ⟨T98, X98, e98, st98⟩ := getF X93 hx hZ hown (host := "") (Or.inl (wd 16 rfl)) Via.refl e93 f97 (g := (mkF m 127 #[.val (.ref kq), .val (.int en), .val (.int ((v2 &&& (65535 : Int64)).toInt32)), .val (.int (((v2 &&& (65535 : Int64)).toInt32) / (64 : Int32)))] [(.ref kq)])) rfl rfl (D d18_127)
        have f100 := (J56_17.other W91 (ne3_2 NDp))
        obtain ⟨cl99, Ar99, q99, S99, Nn99, H99, -⟩ := id f100
        have hin99 : ¬ (((((v2 &&& (65535 : Int64)).toInt32) / (64 : Int32)) / (64 : Int32)) < 0 ∨ cl99.slots.size ≤ (((((v2 &&& (65535 : Int64)).toInt32) / (64 : Int32)) / (64 : Int32))).toNatClampNeg) := inb_of S99 (own_bkl (own_div64 (n := 16) (own_div64 (n := 1024) (own_bk v2))) (by decide))
        obtain ⟨_, hat99, v99, rfl⟩ := Arp.get H99 hin99
        have C99 : Elt h91 aW (((((v2 &&& (65535 : Int64)).toInt32) / (64 : Int32)) / (64 : Int32))).toNatClampNeg (.long v99) := ⟨cl99, Ar99.1, hat99⟩
        obtain ⟨cl101, Ar101, q101, S101, Nn101, H101, G101⟩ := id f100
        have hin101 : ¬ (((((v2 &&& (65535 : Int64)).toInt32) / (64 : Int32)) / (64 : Int32)) < 0 ∨ cl101.slots.size ≤ (((((v2 &&& (65535 : Int64)).toInt32) / (64 : Int32)) / (64 : Int32))).toNatClampNeg) := inb_of S101 (own_bkl (own_div64 (n := 16) (own_div64 (n := 1024) (own_bk v2))) (by decide))
        obtain ⟨T101, h101, X101, e101, W101, st101⟩ := stJ X98 hx hZ e98 Ar101 (j := ((((v2 &&& (65535 : Int64)).toInt32) / (64 : Int32)) / (64 : Int32))) hin101 (g := (mkF m 147 #[.val (.ref kq), .val (.int en), .val (.int ((v2 &&& (65535 : Int64)).toInt32)), .val (.int (((v2 &&& (65535 : Int64)).toInt32) / (64 : Int32)))] [(.long (v99 &&& (((1 : Int64) <<< (((((v2 &&& (65535 : Int64)).toInt32) / (64 : Int32)) % (64 : Int32)) &&& 0x3f).toInt64) ^^^ (-1 : Int64)))), (.int ((((v2 &&& (65535 : Int64)).toInt32) / (64 : Int32)) / (64 : Int32))), (.ref aW)])) rfl rfl (D d18_147)
        have V101 : Arp Z h101 aW kW .long (16 : Int32) PJ := Arp.set Ar101 q101 S101 Nn101 H101 (own_PJ _) W101
        have N101 := Fr.snoc X101 N91 g_aW
        have Zn101 : n0 ≤ h101.size := Nat.le_trans Zn91 (Keep.of_wr W101).1
        have K101 : Keep h0 h101 [kq, aB, aA, aI, aF, aO, aW] := K91.wr W101 (Or.inl (List.mem_of_getElem? (i := 6) rfl))
        have O101 := O91.wr W101 g_aW
        have cs102 : Steps p.tables e below (s₁.setTop (mkF m 0 #[.val (.ref kq), .val (.int en), .unset, .unset] [])) (T101.setTop (mkF m 148 #[.val (.ref kq), .val (.int en), .val (.int ((v2 &&& (65535 : Int64)).toInt32)), .val (.int (((v2 &&& (65535 : Int64)).toInt32) / (64 : Int32)))] [])) := cs95.trans (by
          refine s_ifNo X93 hx (D d18_123) ((if0 _ _).trans (teq hc96).2) ?_
          refine s_aloadN X93 hx (D d18_126) rfl rfl ?_
          refine st98 _ ?_
          refine s_iloadN X98 hx (D d18_130) rfl ?_
          refine s_bipush X98 hx (64 : Int32) (D d18_131) rfl ?_
          refine s_idiv X98 hx (D d18_133) (by decide) rfl ?_
          refine s_dup2 X98 hx (D d18_134) rfl rfl ?_
          refine X98.laload hx (j := ((((v2 &&& (65535 : Int64)).toInt32) / (64 : Int32)) / (64 : Int32))) (v := (.long v99)) (by rw [e98]; exact (Ar99).1) (State.isArrayOf_alike hZ.alike (Ar99).2.1) (Ar99).2.2 hin99 hat99 (g := (mkF m 135 #[.val (.ref kq), .val (.int en), .val (.int ((v2 &&& (65535 : Int64)).toInt32)), .val (.int (((v2 &&& (65535 : Int64)).toInt32) / (64 : Int32)))] [(.int ((((v2 &&& (65535 : Int64)).toInt32) / (64 : Int32)) / (64 : Int32))), (.ref aW), (.int ((((v2 &&& (65535 : Int64)).toInt32) / (64 : Int32)) / (64 : Int32))), (.ref aW)])) rfl rfl (D d18_135) _ ?_
          refine s_lconst X98 hx (1 : Int64) (D d18_136) rfl ?_
          refine s_iloadN X98 hx (D d18_137) rfl ?_
          refine s_bipush X98 hx (64 : Int32) (D d18_138) rfl ?_
          refine s_irem X98 hx (D d18_140) (by decide) rfl ?_
          refine s_lshl X98 hx (D d18_141) rfl ?_
          refine X98.ldc2Long hx hown (mvT hZ (wd 108 rfl)) (g := (mkF m 142 #[.val (.ref kq), .val (.int en), .val (.int ((v2 &&& (65535 : Int64)).toInt32)), .val (.int (((v2 &&& (65535 : Int64)).toInt32) / (64 : Int32)))] [(.long ((1 : Int64) <<< (((((v2 &&& (65535 : Int64)).toInt32) / (64 : Int32)) % (64 : Int32)) &&& 0x3f).toInt64)), (.long v99), (.int ((((v2 &&& (65535 : Int64)).toInt32) / (64 : Int32)) / (64 : Int32))), (.ref aW)])) rfl (D d18_142) _ ?_
          refine s_lxor X98 hx (D d18_145) rfl ?_
          refine s_land X98 hx (D d18_146) rfl ?_
          refine st101 _ ?_
          exact Steps.refl _)
        have f103 := ((J56_0.wr W91).wr W101)
        have f104 := ((J56_1.other W91 (Or.inl (ne0_2 NDp))).other W101 (Or.inl (ne0_3 NDp)))
        have f105 := ((J56_2.other W91 (Or.inl (ne0_2 NDp))).other W101 (Or.inl (ne0_3 NDp)))
        have f106 := ((J56_3.other W91 (Or.inl (ne0_2 NDp))).other W101 (Or.inl (ne0_3 NDp)))
        have f107 := ((J56_4.other W91 (Or.inl (ne0_2 NDp))).other W101 (Or.inl (ne0_3 NDp)))
        have f108 := ((J56_5.other W91 (Or.inl (ne0_2 NDp))).other W101 (Or.inl (ne0_3 NDp)))
        have f109 := (f92.other W101 (Or.inl (ne0_3 NDp)))
        have f110 := (f97.other W101 (Or.inl (ne0_3 NDp)))
        have f111 := ((J56_8.other W91 (Or.inl (ne0_2 NDp))).other W101 (Or.inl (ne0_3 NDp)))
        have f112 := ((J56_9.other W91 (Or.inl (ne0_2 NDp))).other W101 (Or.inl (ne0_3 NDp)))
        have f113 := ((J56_10.other W91 (Or.inl (ne0_2 NDp))).other W101 (Or.inl (ne0_3 NDp)))
        have f114 := ((J56_11.other W91 (ne7_2 NDp)).other W101 (ne7_3 NDp))
        have f115 := ((J56_12.other W91 (ne4_2 NDp)).other W101 (ne4_3 NDp))
        have f116 := ((J56_13.other W91 (ne5_2 NDp)).other W101 (ne5_3 NDp))
        have f117 := ((J56_14.other W91 (ne6_2 NDp)).other W101 (ne6_3 NDp))
        have f118 := ((J56_15.other W91 (ne1_2 NDp)).other W101 (ne1_3 NDp))
        have f119 := (V91.other W101 (ne2_3 NDp))
        exact ⟨_, T101, _, _, X101, e101, N101, K101, O101, f103, f104, f105, f106, f107, f108, f109, f110, f111, f112, f113, f114, f115, f116, f117, f118, f119, V101, cs102⟩
      · have cs120 : Steps p.tables e below (s₁.setTop (mkF m 0 #[.val (.ref kq), .val (.int en), .unset, .unset] [])) (T93.setTop (mkF m 148 #[.val (.ref kq), .val (.int en), .val (.int ((v2 &&& (65535 : Int64)).toInt32)), .val (.int (((v2 &&& (65535 : Int64)).toInt32) / (64 : Int32)))] [])) := cs95.trans (by
          refine s_ifYes X93 hx 148 (D d18_123) ((if0 _ _).trans (feq hc96).2) (of_decide_eq_true rfl) rfl ?_
          exact Steps.refl _)
        have f121 := (J56_0.wr W91)
        have f122 := (J56_1.other W91 (Or.inl (ne0_2 NDp)))
        have f123 := (J56_2.other W91 (Or.inl (ne0_2 NDp)))
        have f124 := (J56_3.other W91 (Or.inl (ne0_2 NDp)))
        have f125 := (J56_4.other W91 (Or.inl (ne0_2 NDp)))
        have f126 := (J56_5.other W91 (Or.inl (ne0_2 NDp)))
        have f127 := (J56_7.other W91 (Or.inl (ne0_2 NDp)))
        have f128 := (J56_8.other W91 (Or.inl (ne0_2 NDp)))
        have f129 := (J56_9.other W91 (Or.inl (ne0_2 NDp)))
        have f130 := (J56_10.other W91 (Or.inl (ne0_2 NDp)))
        have f131 := (J56_11.other W91 (ne7_2 NDp))
        have f132 := (J56_12.other W91 (ne4_2 NDp))
        have f133 := (J56_13.other W91 (ne5_2 NDp))
        have f134 := (J56_14.other W91 (ne6_2 NDp))
        have f135 := (J56_15.other W91 (ne1_2 NDp))
        have f136 := (J56_17.other W91 (ne3_2 NDp))
        exact ⟨_, T93, _, _, X93, e93, N91, K91, O91, f121, f122, f123, f124, f125, f126, f92, f127, f128, f129, f130, f131, f132, f133, f134, f135, V91, f136, cs120⟩
    · have cs137 : Steps p.tables e below (s₁.setTop (mkF m 0 #[.val (.ref kq), .val (.int en), .unset, .unset] [])) (T84.setTop (mkF m 148 #[.val (.ref kq), .val (.int en), .val (.int ((v2 &&& (65535 : Int64)).toInt32)), .unset] [])) := cs87.trans (by
        refine s_icmpYes X84 hx 148 (D d18_88) (feq hc88).2 (of_decide_eq_true rfl) rfl ?_
        exact Steps.refl _)
      exact ⟨_, T84, _, _, X84, e84, Nj56, Kj56, Oj56, J56_0, J56_1, J56_2, J56_3, J56_4, J56_5, J56_6, J56_7, J56_8, J56_9, J56_10, J56_11, J56_12, J56_13, J56_14, J56_15, J56_16, J56_17, cs137⟩
  obtain ⟨zs3_86, Tj86, Lj86, hj86, Xj86, ej86, Nj86, Kj86, Oj86, J86_0, J86_1, J86_2, J86_3, J86_4, J86_5, J86_6, J86_7, J86_8, J86_9, J86_10, J86_11, J86_12, J86_13, J86_14, J86_15, J86_16, J86_17, cj86⟩ := jn86
  obtain ⟨T138, X138, e138, st138⟩ := getF Xj86 hx hZ hown (host := "") (Or.inl (wd 25 rfl)) Via.refl ej86 J86_4 (g := (mkF m 149 #[.val (.ref kq), .val (.int en), .val (.int ((v2 &&& (65535 : Int64)).toInt32)), zs3_86] [(.ref kq)])) rfl rfl (D d18_149)
  obtain ⟨cl139, Ar139, q139, S139, Nn139, H139, G139⟩ := id J86_11
  have hin139 : ¬ (en < 0 ∨ cl139.slots.size ≤ (en).toNatClampNeg) := inb_of S139 (own_in2 he)
  obtain ⟨T139, h139, X139, e139, W139, st139⟩ := stZ X138 hx hZ e138 Ar139 (j := en) hin139 (g := (mkF m 154 #[.val (.ref kq), .val (.int en), .val (.int ((v2 &&& (65535 : Int64)).toInt32)), zs3_86] [(.int (0 : Int32)), (.int en), (.ref aI)])) rfl rfl (D d18_154)
  have V139 : Arv Z h139 aI kI .boolean (2 : Int32) [(.int (s2 en 0 (0 : Int32) ib0)), (.int (s2 en 1 (0 : Int32) ib1))] (.int (0 : Int32)) := own_set2I (w := (0 : Int32)) Ar139 q139 S139 Nn139 H139 G139 rfl W139 he
  have N139 := Fr.snoc X139 Nj86 g_aI
  have Zn139 : n0 ≤ h139.size := Nat.le_trans (own_oldsz Oj86) (Keep.of_wr W139).1
  have K139 : Keep h0 h139 [kq, aB, aA, aI, aF, aO, aW] := Kj86.wr W139 (Or.inl (List.mem_of_getElem? (i := 3) rfl))
  have O139 := Oj86.wr W139 g_aI
  have f140 := (J86_9.other W139 (Or.inl (ne0_7 NDp)))
  obtain ⟨T141, X141, e141, st141⟩ := getF X139 hx hZ hown (host := "") (Or.inl (wd 56 rfl)) Via.refl e139 f140 (g := (mkF m 157 #[.val (.ref kq), .val (.int en), .val (.int ((v2 &&& (65535 : Int64)).toInt32)), zs3_86] [(.ref kq), (.ref kq)])) rfl rfl (D d18_157)
  have f143 := (J86_0.wr W139)
  obtain ⟨T142, h142, X142, e142, W142, st142⟩ := putF X141 hx hZ hown (host := "") (Or.inl (wd 56 rfl)) Via.refl e141 f140 f143 (Or.inl (wd 57 rfl)) (wd 1 rfl) (ty := .int) (by decide) rfl rfl (g := (mkF m 162 #[.val (.ref kq), .val (.int en), .val (.int ((v2 &&& (65535 : Int64)).toInt32)), zs3_86] [(.int (bk - (1 : Int32))), (.ref kq)])) rfl rfl (D d18_162)
  have Fw142 : Fld Z h142 kq cQ "bucketed" "I" (.int (bk - (1 : Int32))) := Fld.same W142 f140
  have N142 := Fr.snoc X142 N139 g_kq
  have Zn142 : n0 ≤ h142.size := Nat.le_trans Zn139 (Keep.of_wr W142).1
  have K142 : Keep h0 h142 [kq, aB, aA, aI, aF, aO, aW] := K139.wr W142 (Or.inl (List.mem_of_getElem? (i := 0) rfl))
  have O142 := O139.wr W142 g_kq
  have f144 := ((J86_1.other W139 (Or.inl (ne0_7 NDp))).other W142 (Or.inr (slot_ne (Or.inr (wd 19 rfl)) (Or.inl (wd 57 rfl)) (by decide) (t := (.array .long)) (t' := .int) (by decide) (by decide))))
  have f145 := ((J86_2.other W139 (Or.inl (ne0_7 NDp))).other W142 (Or.inr (slot_ne (Or.inr (wd 21 rfl)) (Or.inl (wd 57 rfl)) (by decide) (t := (.array .int)) (t' := .int) (by decide) (by decide))))
  have f146 := ((J86_3.other W139 (Or.inl (ne0_7 NDp))).other W142 (Or.inr (slot_ne (Or.inr (wd 23 rfl)) (Or.inl (wd 57 rfl)) (by decide) (t := (.array .int)) (t' := .int) (by decide) (by decide))))
  have f147 := ((J86_4.other W139 (Or.inl (ne0_7 NDp))).other W142 (Or.inr (slot_ne (Or.inr (wd 26 rfl)) (Or.inl (wd 57 rfl)) (by decide) (t := (.array .boolean)) (t' := .int) (by decide) (by decide))))
  have f148 := ((J86_5.other W139 (Or.inl (ne0_7 NDp))).other W142 (Or.inr (slot_ne (Or.inr (wd 12 rfl)) (Or.inl (wd 57 rfl)) (by decide) (t := (.array .int)) (t' := .int) (by decide) (by decide))))
  have f149 := ((J86_6.other W139 (Or.inl (ne0_7 NDp))).other W142 (Or.inr (slot_ne (Or.inr (wd 15 rfl)) (Or.inl (wd 57 rfl)) (by decide) (t := (.array .long)) (t' := .int) (by decide) (by decide))))
  have f150 := ((J86_7.other W139 (Or.inl (ne0_7 NDp))).other W142 (Or.inr (slot_ne (Or.inr (wd 17 rfl)) (Or.inl (wd 57 rfl)) (by decide) (t := (.array .long)) (t' := .int) (by decide) (by decide))))
  have f151 := ((J86_8.other W139 (Or.inl (ne0_7 NDp))).other W142 (Or.inr (slot_ne (Or.inr (wd 50 rfl)) (Or.inl (wd 57 rfl)) (by decide) (t := (.object cH)) (t' := .int) (by decide) (by decide))))
  have f152 := ((J86_10.other W139 (Or.inl (ne0_7 NDp))).other W142 (Or.inr (slot_ne (Or.inl (wd 72 rfl)) (Or.inl (wd 57 rfl)) (by decide) (t := .long) (t' := .int) (by decide) (by decide))))
  have f153 := ((J86_13.other W139 (ne5_7 NDp)).other W142 (ne5_0 NDp))
  have f154 := ((J86_14.other W139 (ne6_7 NDp)).other W142 (ne6_0 NDp))
  have f155 := (V139.other W142 (ne7_0 NDp))
  have f156 := ((J86_15.other W139 (ne1_7 NDp)).other W142 (ne1_0 NDp))
  have f157 := ((J86_16.other W139 (ne2_7 NDp)).other W142 (ne2_0 NDp))
  have f158 := ((J86_17.other W139 (ne3_7 NDp)).other W142 (ne3_0 NDp))
  obtain ⟨fs, hr, hrun, hended, hW, hsame⟩ := X142.leave (v := none) (fun _ => rfl)
  refine ⟨_, _, pre0 _ ?_, hrun, hended, _, _, rfl, ?_, ⟨_, rfl⟩, hW, hsame.mono (by decide) (by decide)⟩
  · refine cj86.trans ?_
    refine s_aloadN Xj86 hx (D d18_148) rfl rfl ?_
    refine st138 _ ?_
    refine s_iloadN X138 hx (D d18_152) rfl ?_
    refine s_iconst X138 hx (0 : Int32) (D d18_153) rfl ?_
    refine st139 _ ?_
    refine s_aloadN X139 hx (D d18_155) rfl rfl ?_
    refine s_dup X139 hx (D d18_156) rfl ?_
    refine st141 _ ?_
    refine s_iconst X141 hx (1 : Int32) (D d18_160) rfl ?_
    refine s_isub X141 hx (D d18_161) rfl ?_
    refine st142 _ ?_
    exact X142.returnOut hx Bd.returns (D d18_165) hr
  · show Q_rm_kunlink2 Z kq en aF aO aW aK aB aA aI hp lo aE aP kK kB kA kI kF kO kW bk ib0 ib1 fl h0 n0 _ T142.heap _
    rw [e142]
    exact ⟨rfl, N142, K142, f144, f145, f146, f147, f148, f149, f150, f151, Fw142, f152, f153, f154, f155, f156, f157, f158⟩
theorem own_lk_a {F : Nat → Int32} {O W : Nat → Int64} {i0 i1 b0 b1 a0 a1 en y : Int32} {k0 k1 k : Int64} (H : LI F i0 i1 k0 k1 b0 b1 a0 a1) (B : OKB F O W) (P : PV4 b0 b1 a0 a1) (he : I2 en) (hi : g2 en i0 i1 = 0) (hk : k = g2 en k0 k1) (hy : y = F ((k &&& (65535 : Int64)).toInt32).toNatClampNeg) (hn : ¬ y = -1) :
    (LI (upd F ((k &&& (65535 : Int64)).toInt32).toNatClampNeg en) (s2 en 0 1 i0) (s2 en 1 1 i1) k0 k1 (s2 y 0 en (s2 en 0 (-1) b0)) (s2 y 1 en (s2 en 1 (-1) b1)) (s2 en 0 y a0) (s2 en 1 y a1) ∧ OKB (upd F ((k &&& (65535 : Int64)).toInt32).toNatClampNeg en) O W ∧ PV4 (s2 y 0 en (s2 en 0 (-1) b0)) (s2 y 1 en (s2 en 1 (-1) b1)) (s2 en 0 y a0) (s2 en 1 y a1)) := by
  subst hk
  have hm : PV en := Or.inr he
  have hv : PV y := hy ▸ own_liv H _
  exact ⟨li_link H he hi hy (fun z => absurd z hn), okb_same B (fun z => by rw [z] at he; rcases he with h | h <;> exact absurd h (by decide)) (fun z => hn (hy.trans z)), own_pvs hm (own_pvs (Or.inl rfl) P.1), own_pvs hm (own_pvs (Or.inl rfl) P.2.1), own_pvs hv P.2.2.1, own_pvs hv P.2.2.2⟩
theorem own_lk_b {F : Nat → Int32} {O W : Nat → Int64} {i0 i1 b0 b1 a0 a1 en y : Int32} {k0 k1 k o w : Int64} (H : LI F i0 i1 k0 k1 b0 b1 a0 a1) (B : OKB F O W) (P : PV4 b0 b1 a0 a1) (he : I2 en) (hi : g2 en i0 i1 = 0) (hk : k = g2 en k0 k1) (hy : y = F ((k &&& (65535 : Int64)).toInt32).toNatClampNeg) (hn : y = -1)
    (ho : o = O (((k &&& (65535 : Int64)).toInt32) / (64 : Int32)).toNatClampNeg) (hw : w = W ((((k &&& (65535 : Int64)).toInt32) / (64 : Int32)) / (64 : Int32)).toNatClampNeg) :
    (LI (upd F ((k &&& (65535 : Int64)).toInt32).toNatClampNeg en) (s2 en 0 1 i0) (s2 en 1 1 i1) k0 k1 (s2 en 0 (-1) b0) (s2 en 1 (-1) b1) (s2 en 0 y a0) (s2 en 1 y a1) ∧
    OKB (upd F ((k &&& (65535 : Int64)).toInt32).toNatClampNeg en) (upd O (((k &&& (65535 : Int64)).toInt32) / (64 : Int32)).toNatClampNeg (o ||| ((1 : Int64) <<< ((((k &&& (65535 : Int64)).toInt32) % (64 : Int32)) &&& 0x3f).toInt64))) (upd W ((((k &&& (65535 : Int64)).toInt32) / (64 : Int32)) / (64 : Int32)).toNatClampNeg (w ||| ((1 : Int64) <<< (((((k &&& (65535 : Int64)).toInt32) / (64 : Int32)) % (64 : Int32)) &&& 0x3f).toInt64))) ∧
    PV4 (s2 en 0 (-1) b0) (s2 en 1 (-1) b1) (s2 en 0 y a0) (s2 en 1 y a1)) := by
  have hm : PV en := Or.inr he
  have hv : PV y := Or.inl hn
  obtain ⟨e1, e2, e3, e4⟩ := own_bs k
  rw [e1] at ho
  rw [e2] at hw
  rw [e1, e2, ho, hw]
  refine ⟨?_, okb_set B (own_bkc k).2 (fun z => by rw [z] at he; rcases he with h | h <;> exact absurd h (by decide)) e3 e4, own_pvs (Or.inl rfl) P.1, own_pvs (Or.inl rfl) P.2.1, own_pvs hv P.2.2.1, own_pvs hv P.2.2.2⟩
  subst hk
  exact li_link H he hi hy (fun _ => ⟨rfl, rfl⟩)
theorem own_ul_a {F : Nat → Int32} {O W : Nat → Int64} {i0 i1 b0 b1 a0 a1 en y : Int32} {k0 k1 k o o2 w : Int64} (H : LI F i0 i1 k0 k1 b0 b1 a0 a1) (B : OKB F O W) (he : I2 en) (hi : g2 en i0 i1 = 1) (hs : ot en i0 i1 = 0) (hk : k = g2 en k0 k1) (hy : y = g2 en a0 a1)
    (ho : o = O (((k &&& (65535 : Int64)).toInt32) / (64 : Int32)).toNatClampNeg) (ho2 : o2 = upd O (((k &&& (65535 : Int64)).toInt32) / (64 : Int32)).toNatClampNeg (o &&& (((1 : Int64) <<< ((((k &&& (65535 : Int64)).toInt32) % (64 : Int32)) &&& 0x3f).toInt64) ^^^ (-1 : Int64))) (((k &&& (65535 : Int64)).toInt32) / (64 : Int32)).toNatClampNeg) (hz : o2 = 0) (hw : w = W ((((k &&& (65535 : Int64)).toInt32) / (64 : Int32)) / (64 : Int32)).toNatClampNeg) :
    LI (upd F ((k &&& (65535 : Int64)).toInt32).toNatClampNeg y) (s2 en 0 0 i0) (s2 en 1 0 i1) k0 k1 b0 b1 a0 a1 ∧
    OKB (upd F ((k &&& (65535 : Int64)).toInt32).toNatClampNeg y) (upd O (((k &&& (65535 : Int64)).toInt32) / (64 : Int32)).toNatClampNeg (o &&& (((1 : Int64) <<< ((((k &&& (65535 : Int64)).toInt32) % (64 : Int32)) &&& 0x3f).toInt64) ^^^ (-1 : Int64)))) (upd W ((((k &&& (65535 : Int64)).toInt32) / (64 : Int32)) / (64 : Int32)).toNatClampNeg (w &&& (((1 : Int64) <<< (((((k &&& (65535 : Int64)).toInt32) / (64 : Int32)) % (64 : Int32)) &&& 0x3f).toInt64) ^^^ (-1 : Int64)))) := by
  have e := (li_sole H he hi hs).2
  rw [← hy] at e
  subst e
  obtain ⟨e1, e2, e3, e4⟩ := own_bs k
  rw [upd_t] at ho2
  rw [e1] at ho
  rw [e2] at hw
  rw [e1, e2, ho, hw]
  rw [hz, ho] at ho2
  refine ⟨?_, okb_clr B e3 e4 ho2.symm⟩
  subst hk
  exact li_unlink H he hi hs
theorem own_ul_b {F : Nat → Int32} {O W : Nat → Int64} {i0 i1 b0 b1 a0 a1 en y : Int32} {k0 k1 k o o2 : Int64} (H : LI F i0 i1 k0 k1 b0 b1 a0 a1) (B : OKB F O W) (he : I2 en) (hi : g2 en i0 i1 = 1) (hs : ot en i0 i1 = 0) (hk : k = g2 en k0 k1) (hy : y = g2 en a0 a1)
    (ho : o = O (((k &&& (65535 : Int64)).toInt32) / (64 : Int32)).toNatClampNeg) (ho2 : o2 = upd O (((k &&& (65535 : Int64)).toInt32) / (64 : Int32)).toNatClampNeg (o &&& (((1 : Int64) <<< ((((k &&& (65535 : Int64)).toInt32) % (64 : Int32)) &&& 0x3f).toInt64) ^^^ (-1 : Int64))) (((k &&& (65535 : Int64)).toInt32) / (64 : Int32)).toNatClampNeg) (hz : ¬ o2 = 0) :
    LI (upd F ((k &&& (65535 : Int64)).toInt32).toNatClampNeg y) (s2 en 0 0 i0) (s2 en 1 0 i1) k0 k1 b0 b1 a0 a1 ∧
    OKB (upd F ((k &&& (65535 : Int64)).toInt32).toNatClampNeg y) (upd O (((k &&& (65535 : Int64)).toInt32) / (64 : Int32)).toNatClampNeg (o &&& (((1 : Int64) <<< ((((k &&& (65535 : Int64)).toInt32) % (64 : Int32)) &&& 0x3f).toInt64) ^^^ (-1 : Int64)))) W := by
  have e := (li_sole H he hi hs).2
  rw [← hy] at e
  subst e
  obtain ⟨e1, e2, e3, e4⟩ := own_bs k
  rw [upd_t] at ho2
  rw [e1] at ho
  rw [e1, ho]
  rw [ho2, ho] at hz
  refine ⟨?_, okb_clrn B (own_bkc k).2 e3 hz⟩
  subst hk
  exact li_unlink H he hi hs
theorem ef_rm_klink1 (m : MethodId) (x0 : Addr) (x1 : Int32) : entryFrame m #[(.ref x0), (.int x1)] 4 = mkF m 0 #[.val (.ref x0), .val (.int x1), .unset, .unset] [] := by first | (simp [entryFrame, mkF, argsToLocals, Value.category]; done) | rfl
def Q_rm_klink1 (Z : State) (kq : Addr) (en : Int32) (aF aO aW aK aB aA aI hp lo aE aP : Addr) (kK kB kA kI kF kO kW : ClassId) (bk ib0 ib1 bf0 bf1 af0 af1 : Int32) (kk0 kk1 : Int64) (fF : Nat → Int32) (fO fW : Nat → Int64) (h0 : Heap) (n0 : Nat) (v : Option Value) (h : Heap) (L : List Loc) : Prop := ∃ (vF : Nat → Int32) (vO : Nat → Int64) (vW : Nat → Int64) (vbf0 : Int32) (vbf1 : Int32) (vaf0 : Int32) (vaf1 : Int32), v = none ∧ Fr n0 L ∧ Keep h0 h [kq, aB, aA, aI, aF, aO, aW] ∧ Fld Z h kq cQ "keys" "[J" (.ref aK) ∧ Fld Z h kq cQ "before" "[I" (.ref aB) ∧ Fld Z h kq cQ "after" "[I" (.ref aA) ∧ Fld Z h kq cQ "inBucket" "[Z" (.ref aI) ∧ Fld Z h kq cQ "firsts" "[I" (.ref aF) ∧ Fld Z h kq cQ "occupied" "[J" (.ref aO) ∧ Fld Z h kq cQ "occupiedWords" "[J" (.ref aW) ∧ Fld Z h kq cQ "further" "Lcom/example/leasewise/leasewise/IndexedHeap;" (.ref hp) ∧ Fld Z h kq cQ "bucketed" "I" (.int (bk + (1 : Int32))) ∧ Fld Z h kq cQ "floor" "J" (.long (0 : Int64)) ∧ Arv Z h aB kB .int (2 : Int32) [(.int vbf0), (.int vbf1)] (.int (0 : Int32)) ∧ Arv Z h aA kA .int (2 : Int32) [(.int vaf0), (.int vaf1)] (.int (0 : Int32)) ∧ Arv Z h aI kI .boolean (2 : Int32) [(.int (s2 en 0 (1 : Int32) ib0)), (.int (s2 en 1 (1 : Int32) ib1))] (.int (0 : Int32)) ∧ ArfI Z h aF kF (65536 : Int32) vF ∧ ArfJ Z h aO kO (1024 : Int32) vO ∧ ArfJ Z h aW kW (16 : Int32) vW ∧ (LI vF (s2 en 0 1 ib0) (s2 en 1 1 ib1) kk0 kk1 vbf0 vbf1 vaf0 vaf1 ∧ OKB vF vO vW ∧ PV4 vbf0 vbf1 vaf0 vaf1)
set_option maxRecDepth 65536 in
set_option maxHeartbeats 40000000 in
theorem rm_klink1 (l : Launch) (Z : State) (a0 : Array Value) (hw : ∀ d ∈ tables_1, d.before a0 Z = true) (ws : List Jvm.Cond) (kq : Addr) (en : Int32) (aF aO aW aK aB aA aI hp lo aE aP : Addr) (kK kB kA kI kF kO kW : ClassId) (bk ib0 ib1 bf0 bf1 af0 af1 : Int32) (kk0 kk1 : Int64) (fF : Nat → Int32) (fO fW : Nat → Int64) (h0 : Heap) (n0 : Nat) (O0 : Old Z n0 h0) (E_kq : Exa Z h0 kq cQ) (F_kq_keys : Fld Z h0 kq cQ "keys" "[J" (.ref aK)) (F_kq_before : Fld Z h0 kq cQ "before" "[I" (.ref aB)) (F_kq_after : Fld Z h0 kq cQ "after" "[I" (.ref aA)) (F_kq_inBucket : Fld Z h0 kq cQ "inBucket" "[Z" (.ref aI)) (F_kq_firsts : Fld Z h0 kq cQ "firsts" "[I" (.ref aF)) (F_kq_occupied : Fld Z h0 kq cQ "occupied" "[J" (.ref aO)) (F_kq_occupiedWords : Fld Z h0 kq cQ "occupiedWords" "[J" (.ref aW)) (F_kq_further : Fld Z h0 kq cQ "further" "Lcom/example/leasewise/leasewise/IndexedHeap;" (.ref hp)) (F_kq_bucketed : Fld Z h0 kq cQ "bucketed" "I" (.int bk)) (F_kq_floor : Fld Z h0 kq cQ "floor" "J" (.long (0 : Int64))) (V_aK : Arv Z h0 aK kK .long (2 : Int32) [(.long kk0), (.long kk1)] (.long (0 : Int64))) (V_aB : Arv Z h0 aB kB .int (2 : Int32) [(.int bf0), (.int bf1)] (.int (0 : Int32))) (V_aA : Arv Z h0 aA kA .int (2 : Int32) [(.int af0), (.int af1)] (.int (0 : Int32))) (V_aI : Arv Z h0 aI kI .boolean (2 : Int32) [(.int ib0), (.int ib1)] (.int (0 : Int32))) (NDp : List.Nodup [kq, aF, aO, aW, aK, aB, aA, aI, hp, lo, aE, aP]) (he : I2 en) (LI0 : LI fF ib0 ib1 kk0 kk1 bf0 bf1 af0 af1) (OK0 : OKB fF fO fW) (PV0 : PV4 bf0 bf1 af0 af1) (hiz : g2 en ib0 ib1 = 0) (g_kq : n0 ≤ kq) (g_aB : n0 ≤ aB) (g_aA : n0 ≤ aA) (g_aI : n0 ≤ aI) (g_aF : n0 ≤ aF) (g_aO : n0 ≤ aO) (g_aW : n0 ≤ aW) (V_aF : ArfI Z h0 aF kF (65536 : Int32) fF) (V_aO : ArfJ Z h0 aO kO (1024 : Int32) fO) (V_aW : ArfJ Z h0 aW kW (16 : Int32) fW) :
    MetFree l (⟨cQ, "link", "(I)V"⟩ : MethodName) (head1 (Jvm.Cond.code (⟨cQ, "link", "(I)V"⟩ : MethodName) prog_39_method_13_code 4 none :: ws) ({ frames := 0, cells := 0, slots := 0, locals := 0 } : Room)) (fun a U => a = #[(.ref kq), (.int en)] ∧ Z.WarmedH U.vm ∧ U.heap = h0) (fun _ _ _ _ _ => True) (fun _ U o U' => ∃ v L, o = .returned v ∧ Q_rm_klink1 Z kq en aF aO aW aK aB aA aI hp lo aE aP kK kB kA kI kF kO kW bk ib0 ib1 bf0 bf1 af0 af1 kk0 kk1 fF fO fW h0 n0 v U'.heap L ∧ FrameEnd U o U' L ({ frames := 0, cells := 0, slots := 0, locals := 0 } : Room).cells ({ frames := 0, cells := 0, slots := 0, locals := 0 } : Room).slots) := by
  refine MetFree.of_bodySF (plainFor_of_name pn_2) hisR ?_
  intro p e s m args below meth c s₁ Bd hml0 hP hK
  obtain ⟨rfl, hZH, hh⟩ := hP
  have hZ := hZH.wide
  have hx := Bd.exec
  have hby := Bd.bytes
  have D := fun {pc : Nat} {r : Except ClassFile.DecodeError (ClassFile.Instr × Nat)} (q : decode prog_39_method_13_code pc = r) => hb (pc := pc) hby q
  have hml : c.maxLocals = 4 := hml0
  have hown : s.vm.findClass cQ = some m.cls := findClass_of_methodNamed Bd.named
  have hnm := (name_of_methodNamed Bd.named Bd.method).1
  have X0 : Stand p l e ({ frames := 0, cells := 0, slots := 0, locals := 0 } : Room) s m #[(.ref kq), (.int en)] below meth c s₁ [] 0 0 := Stand.of_body Bd
  have e0 : s₁.heap = h0 := by rw [← hh, Bd.state]; rfl
  have N0 := Fr.nil n0
  have pre0 : ∀ t, Steps p.tables e below (s₁.setTop (mkF m 0 #[.val (.ref kq), .val (.int en), .unset, .unset] [])) t → Steps p.tables e below (s₁.setTop (entryFrame m #[(.ref kq), (.int en)] 4)) t := fun t k => castTop (ef_rm_klink1 m (kq) (en)) k
  have wd := fun {d : Jvm.Cond} (i : Nat) (h : tables_1[i]? = some d) => hw d (List.mem_of_getElem? h)
  obtain ⟨T1, X1, e1, st1⟩ := getF X0 hx hZ hown (host := "") (Or.inl (wd 18 rfl)) Via.refl e0 F_kq_keys (g := (mkF m 1 #[.val (.ref kq), .val (.int en), .unset, .unset] [(.ref kq)])) rfl rfl (D d10_1)
  obtain ⟨cl2, Ar2, q2, S2, Nn2, H2, G2⟩ := id V_aK
  have hin2 : ¬ (en < 0 ∨ cl2.slots.size ≤ (en).toNatClampNeg) := inb_of S2 (own_in2 he)
  obtain ⟨y2, hy2⟩ : ∃ y, y = g2 en kk0 kk1 := ⟨_, rfl⟩
  have hat2 := own_get2J H2 hin2 he hy2
  obtain ⟨T3, X3, e3, st3⟩ := getF X1 hx hZ hown (host := "") (Or.inl (wd 11 rfl)) Via.refl e1 F_kq_firsts (g := (mkF m 13 #[.val (.ref kq), .val (.int en), .val (.int ((y2 &&& (65535 : Int64)).toInt32)), .unset] [(.ref kq)])) rfl rfl (D d10_13)
  obtain ⟨cl4, Ar4, q4, S4, Nn4, H4, G4⟩ := id V_aF
  have hin4 : ¬ (((y2 &&& (65535 : Int64)).toInt32) < 0 ∨ cl4.slots.size ≤ (((y2 &&& (65535 : Int64)).toInt32)).toNatClampNeg) := inb_of S4 (own_bkl (own_bk y2) (by decide))
  obtain ⟨y4, hy4⟩ : ∃ y, y = fF (((y2 &&& (65535 : Int64)).toInt32)).toNatClampNeg := ⟨_, rfl⟩
  have hat4 := ArfI.get H4 hin4 hy4
  obtain ⟨T5, X5, e5, st5⟩ := getF X3 hx hZ hown (host := "") (Or.inl (wd 20 rfl)) Via.refl e3 F_kq_before (g := (mkF m 20 #[.val (.ref kq), .val (.int en), .val (.int ((y2 &&& (65535 : Int64)).toInt32)), .val (.int y4)] [(.ref kq)])) rfl rfl (D d10_20)
  obtain ⟨cl6, Ar6, q6, S6, Nn6, H6, G6⟩ := id V_aB
  have hin6 : ¬ (en < 0 ∨ cl6.slots.size ≤ (en).toNatClampNeg) := inb_of S6 (own_in2 he)
  obtain ⟨T6, h6, X6, e6, W6, st6⟩ := stI X5 hx hZ e5 Ar6 (j := en) hin6 (g := (mkF m 25 #[.val (.ref kq), .val (.int en), .val (.int ((y2 &&& (65535 : Int64)).toInt32)), .val (.int y4)] [(.int (-1 : Int32)), (.int en), (.ref aB)])) rfl rfl (D d10_25)
  have V6 : Arv Z h6 aB kB .int (2 : Int32) [(.int (s2 en 0 (-1 : Int32) bf0)), (.int (s2 en 1 (-1 : Int32) bf1))] (.int (0 : Int32)) := own_set2I (w := (-1 : Int32)) Ar6 q6 S6 Nn6 H6 G6 rfl W6 he
  have N6 := Fr.snoc X6 N0 g_aB
  have Zn6 : n0 ≤ h6.size := Nat.le_trans (own_oldsz O0) (Keep.of_wr W6).1
  have K6 : Keep h0 h6 [kq, aB, aA, aI, aF, aO, aW] := (Keep.refl h0 [kq, aB, aA, aI, aF, aO, aW]).wr W6 (Or.inl (List.mem_of_getElem? (i := 1) rfl))
  have O6 := O0.wr W6 g_aB
  have f7 := (F_kq_after.other W6 (Or.inl (ne0_5 NDp)))
  obtain ⟨T8, X8, e8, st8⟩ := getF X6 hx hZ hown (host := "") (Or.inl (wd 22 rfl)) Via.refl e6 f7 (g := (mkF m 27 #[.val (.ref kq), .val (.int en), .val (.int ((y2 &&& (65535 : Int64)).toInt32)), .val (.int y4)] [(.ref kq)])) rfl rfl (D d10_27)
  have f10 := (V_aA.other W6 (ne6_5 NDp))
  obtain ⟨cl9, Ar9, q9, S9, Nn9, H9, G9⟩ := id f10
  have hin9 : ¬ (en < 0 ∨ cl9.slots.size ≤ (en).toNatClampNeg) := inb_of S9 (own_in2 he)
  obtain ⟨T9, h9, X9, e9, W9, st9⟩ := stI X8 hx hZ e8 Ar9 (j := en) hin9 (g := (mkF m 32 #[.val (.ref kq), .val (.int en), .val (.int ((y2 &&& (65535 : Int64)).toInt32)), .val (.int y4)] [(.int y4), (.int en), (.ref aA)])) rfl rfl (D d10_32)
  have V9 : Arv Z h9 aA kA .int (2 : Int32) [(.int (s2 en 0 y4 af0)), (.int (s2 en 1 y4 af1))] (.int (0 : Int32)) := own_set2I (w := y4) Ar9 q9 S9 Nn9 H9 G9 rfl W9 he
  have N9 := Fr.snoc X9 N6 g_aA
  have Zn9 : n0 ≤ h9.size := Nat.le_trans Zn6 (Keep.of_wr W9).1
  have K9 : Keep h0 h9 [kq, aB, aA, aI, aF, aO, aW] := K6.wr W9 (Or.inl (List.mem_of_getElem? (i := 2) rfl))
  have O9 := O6.wr W9 g_aA
  have cs11 : Steps p.tables e below (s₁.setTop (mkF m 0 #[.val (.ref kq), .val (.int en), .unset, .unset] [])) (T9.setTop (mkF m 35 #[.val (.ref kq), .val (.int en), .val (.int ((y2 &&& (65535 : Int64)).toInt32)), .val (.int y4)] [(.int (-1 : Int32)), (.int y4)])) := (by
    refine s_aloadN X0 hx (D d10_0) rfl rfl ?_
    refine st1 _ ?_
    refine s_iloadN X1 hx (D d10_4) rfl ?_
    refine X1.laload hx (j := en) (v := (.long y2)) (by rw [e1]; exact (Ar2).1) (State.isArrayOf_alike hZ.alike (Ar2).2.1) (Ar2).2.2 hin2 hat2 (g := (mkF m 5 #[.val (.ref kq), .val (.int en), .unset, .unset] [(.int en), (.ref aK)])) rfl rfl (D d10_5) _ ?_
    refine X1.ldc2Long hx hown (mvT hZ (wd 88 rfl)) (g := (mkF m 6 #[.val (.ref kq), .val (.int en), .unset, .unset] [(.long y2)])) rfl (D d10_6) _ ?_
    refine s_land X1 hx (D d10_9) rfl ?_
    refine s_l2i X1 hx (D d10_10) rfl ?_
    refine s_istoreN X1 hx (D d10_11) (l' := #[.val (.ref kq), .val (.int en), .val (.int ((y2 &&& (65535 : Int64)).toInt32)), .unset]) rfl ?_
    refine s_aloadN X1 hx (D d10_12) rfl rfl ?_
    refine st3 _ ?_
    refine s_iloadN X3 hx (D d10_16) rfl ?_
    refine X3.iaload hx (j := ((y2 &&& (65535 : Int64)).toInt32)) (v := (.int y4)) (by rw [e3]; exact (Ar4).1) (State.isArrayOf_alike hZ.alike (Ar4).2.1) (Ar4).2.2 hin4 hat4 (g := (mkF m 17 #[.val (.ref kq), .val (.int en), .val (.int ((y2 &&& (65535 : Int64)).toInt32)), .unset] [(.int ((y2 &&& (65535 : Int64)).toInt32)), (.ref aF)])) rfl rfl (D d10_17) _ ?_
    refine s_istoreN X3 hx (D d10_18) (l' := #[.val (.ref kq), .val (.int en), .val (.int ((y2 &&& (65535 : Int64)).toInt32)), .val (.int y4)]) rfl ?_
    refine s_aloadN X3 hx (D d10_19) rfl rfl ?_
    refine st5 _ ?_
    refine s_iloadN X5 hx (D d10_23) rfl ?_
    refine s_iconst X5 hx (-1 : Int32) (D d10_24) rfl ?_
    refine st6 _ ?_
    refine s_aloadN X6 hx (D d10_26) rfl rfl ?_
    refine st8 _ ?_
    refine s_iloadN X8 hx (D d10_30) rfl ?_
    refine s_iloadN X8 hx (D d10_31) rfl ?_
    refine st9 _ ?_
    refine s_iloadN X9 hx (D d10_33) rfl ?_
    refine s_iconst X9 hx (-1 : Int32) (D d10_34) rfl ?_
    exact Steps.refl _)
  by_cases hc12 : y4 = (-1 : Int32)
  · have f13 := ((F_kq_occupied.other W6 (Or.inl (ne0_5 NDp))).other W9 (Or.inl (ne0_6 NDp)))
    obtain ⟨T14, X14, e14, st14⟩ := getF X9 hx hZ hown (host := "") (Or.inl (wd 14 rfl)) Via.refl e9 f13 (g := (mkF m 49 #[.val (.ref kq), .val (.int en), .val (.int ((y2 &&& (65535 : Int64)).toInt32)), .val (.int y4)] [(.ref kq)])) rfl rfl (D d10_49)
    have f16 := ((V_aO.other W6 (ne2_5 NDp)).other W9 (ne2_6 NDp))
    obtain ⟨cl15, Ar15, q15, S15, Nn15, H15, G15⟩ := id f16
    have hin15 : ¬ ((((y2 &&& (65535 : Int64)).toInt32) / (64 : Int32)) < 0 ∨ cl15.slots.size ≤ ((((y2 &&& (65535 : Int64)).toInt32) / (64 : Int32))).toNatClampNeg) := inb_of S15 (own_bkl (own_div64 (n := 1024) (own_bk y2)) (by decide))
    obtain ⟨y15, hy15⟩ : ∃ y, y = fO ((((y2 &&& (65535 : Int64)).toInt32) / (64 : Int32))).toNatClampNeg := ⟨_, rfl⟩
    have hat15 := ArfJ.get H15 hin15 hy15
    obtain ⟨cl17, Ar17, q17, S17, Nn17, H17, G17⟩ := id f16
    have hin17 : ¬ ((((y2 &&& (65535 : Int64)).toInt32) / (64 : Int32)) < 0 ∨ cl17.slots.size ≤ ((((y2 &&& (65535 : Int64)).toInt32) / (64 : Int32))).toNatClampNeg) := inb_of S17 (own_bkl (own_div64 (n := 1024) (own_bk y2)) (by decide))
    obtain ⟨T17, h17, X17, e17, W17, st17⟩ := stJ X14 hx hZ e14 Ar17 (j := (((y2 &&& (65535 : Int64)).toInt32) / (64 : Int32))) hin17 (g := (mkF m 65 #[.val (.ref kq), .val (.int en), .val (.int ((y2 &&& (65535 : Int64)).toInt32)), .val (.int y4)] [(.long (y15 ||| ((1 : Int64) <<< ((((y2 &&& (65535 : Int64)).toInt32) % (64 : Int32)) &&& 0x3f).toInt64))), (.int (((y2 &&& (65535 : Int64)).toInt32) / (64 : Int32))), (.ref aO)])) rfl rfl (D d10_65)
    have V17 : ArfJ Z h17 aO kO (1024 : Int32) (upd fO ((((y2 &&& (65535 : Int64)).toInt32) / (64 : Int32))).toNatClampNeg (y15 ||| ((1 : Int64) <<< ((((y2 &&& (65535 : Int64)).toInt32) % (64 : Int32)) &&& 0x3f).toInt64))) := ArfJ.set Ar17 q17 S17 Nn17 H17 W17
    have N17 := Fr.snoc X17 N9 g_aO
    have Zn17 : n0 ≤ h17.size := Nat.le_trans Zn9 (Keep.of_wr W17).1
    have K17 : Keep h0 h17 [kq, aB, aA, aI, aF, aO, aW] := K9.wr W17 (Or.inl (List.mem_of_getElem? (i := 5) rfl))
    have O17 := O9.wr W17 g_aO
    have f18 := (((F_kq_occupiedWords.other W6 (Or.inl (ne0_5 NDp))).other W9 (Or.inl (ne0_6 NDp))).other W17 (Or.inl (ne0_2 NDp)))
    obtain ⟨T19, X19, e19, st19⟩ := getF X17 hx hZ hown (host := "") (Or.inl (wd 16 rfl)) Via.refl e17 f18 (g := (mkF m 67 #[.val (.ref kq), .val (.int en), .val (.int ((y2 &&& (65535 : Int64)).toInt32)), .val (.int y4)] [(.ref kq)])) rfl rfl (D d10_67)
    have f21 := (((V_aW.other W6 (ne3_5 NDp)).other W9 (ne3_6 NDp)).other W17 (ne3_2 NDp))
    obtain ⟨cl20, Ar20, q20, S20, Nn20, H20, G20⟩ := id f21
    have hin20 : ¬ (((((y2 &&& (65535 : Int64)).toInt32) / (64 : Int32)) / (64 : Int32)) < 0 ∨ cl20.slots.size ≤ (((((y2 &&& (65535 : Int64)).toInt32) / (64 : Int32)) / (64 : Int32))).toNatClampNeg) := inb_of S20 (own_bkl (own_div64 (n := 16) (own_div64 (n := 1024) (own_bk y2))) (by decide))
    obtain ⟨y20, hy20⟩ : ∃ y, y = fW (((((y2 &&& (65535 : Int64)).toInt32) / (64 : Int32)) / (64 : Int32))).toNatClampNeg := ⟨_, rfl⟩
    have hat20 := ArfJ.get H20 hin20 hy20
    obtain ⟨cl22, Ar22, q22, S22, Nn22, H22, G22⟩ := id f21
    have hin22 : ¬ (((((y2 &&& (65535 : Int64)).toInt32) / (64 : Int32)) / (64 : Int32)) < 0 ∨ cl22.slots.size ≤ (((((y2 &&& (65535 : Int64)).toInt32) / (64 : Int32)) / (64 : Int32))).toNatClampNeg) := inb_of S22 (own_bkl (own_div64 (n := 16) (own_div64 (n := 1024) (own_bk y2))) (by decide))
    obtain ⟨T22, h22, X22, e22, W22, st22⟩ := stJ X19 hx hZ e19 Ar22 (j := ((((y2 &&& (65535 : Int64)).toInt32) / (64 : Int32)) / (64 : Int32))) hin22 (g := (mkF m 89 #[.val (.ref kq), .val (.int en), .val (.int ((y2 &&& (65535 : Int64)).toInt32)), .val (.int y4)] [(.long (y20 ||| ((1 : Int64) <<< (((((y2 &&& (65535 : Int64)).toInt32) / (64 : Int32)) % (64 : Int32)) &&& 0x3f).toInt64))), (.int ((((y2 &&& (65535 : Int64)).toInt32) / (64 : Int32)) / (64 : Int32))), (.ref aW)])) rfl rfl (D d10_89)
    have V22 : ArfJ Z h22 aW kW (16 : Int32) (upd fW (((((y2 &&& (65535 : Int64)).toInt32) / (64 : Int32)) / (64 : Int32))).toNatClampNeg (y20 ||| ((1 : Int64) <<< (((((y2 &&& (65535 : Int64)).toInt32) / (64 : Int32)) % (64 : Int32)) &&& 0x3f).toInt64))) := ArfJ.set Ar22 q22 S22 Nn22 H22 W22
    have N22 := Fr.snoc X22 N17 g_aW
    have Zn22 : n0 ≤ h22.size := Nat.le_trans Zn17 (Keep.of_wr W22).1
    have K22 : Keep h0 h22 [kq, aB, aA, aI, aF, aO, aW] := K17.wr W22 (Or.inl (List.mem_of_getElem? (i := 6) rfl))
    have O22 := O17.wr W22 g_aW
    have f23 := ((((F_kq_firsts.other W6 (Or.inl (ne0_5 NDp))).other W9 (Or.inl (ne0_6 NDp))).other W17 (Or.inl (ne0_2 NDp))).other W22 (Or.inl (ne0_3 NDp)))
    obtain ⟨T24, X24, e24, st24⟩ := getF X22 hx hZ hown (host := "") (Or.inl (wd 11 rfl)) Via.refl e22 f23 (g := (mkF m 91 #[.val (.ref kq), .val (.int en), .val (.int ((y2 &&& (65535 : Int64)).toInt32)), .val (.int y4)] [(.ref kq)])) rfl rfl (D d10_91)
    have f26 := ((((V_aF.other W6 (ne1_5 NDp)).other W9 (ne1_6 NDp)).other W17 (ne1_2 NDp)).other W22 (ne1_3 NDp))
    obtain ⟨cl25, Ar25, q25, S25, Nn25, H25, G25⟩ := id f26
    have hin25 : ¬ (((y2 &&& (65535 : Int64)).toInt32) < 0 ∨ cl25.slots.size ≤ (((y2 &&& (65535 : Int64)).toInt32)).toNatClampNeg) := inb_of S25 (own_bkl (own_bk y2) (by decide))
    obtain ⟨T25, h25, X25, e25, W25, st25⟩ := stI X24 hx hZ e24 Ar25 (j := ((y2 &&& (65535 : Int64)).toInt32)) hin25 (g := (mkF m 96 #[.val (.ref kq), .val (.int en), .val (.int ((y2 &&& (65535 : Int64)).toInt32)), .val (.int y4)] [(.int en), (.int ((y2 &&& (65535 : Int64)).toInt32)), (.ref aF)])) rfl rfl (D d10_96)
    have V25 : ArfI Z h25 aF kF (65536 : Int32) (upd fF (((y2 &&& (65535 : Int64)).toInt32)).toNatClampNeg en) := ArfI.set Ar25 q25 S25 Nn25 H25 W25
    have N25 := Fr.snoc X25 N22 g_aF
    have Zn25 : n0 ≤ h25.size := Nat.le_trans Zn22 (Keep.of_wr W25).1
    have K25 : Keep h0 h25 [kq, aB, aA, aI, aF, aO, aW] := K22.wr W25 (Or.inl (List.mem_of_getElem? (i := 4) rfl))
    have O25 := O22.wr W25 g_aF
    have f27 := (((((F_kq_inBucket.other W6 (Or.inl (ne0_5 NDp))).other W9 (Or.inl (ne0_6 NDp))).other W17 (Or.inl (ne0_2 NDp))).other W22 (Or.inl (ne0_3 NDp))).other W25 (Or.inl (ne0_1 NDp)))
    obtain ⟨T28, X28, e28, st28⟩ := getF X25 hx hZ hown (host := "") (Or.inl (wd 25 rfl)) Via.refl e25 f27 (g := (mkF m 98 #[.val (.ref kq), .val (.int en), .val (.int ((y2 &&& (65535 : Int64)).toInt32)), .val (.int y4)] [(.ref kq)])) rfl rfl (D d10_98)
    have f30 := (((((V_aI.other W6 (ne7_5 NDp)).other W9 (ne7_6 NDp)).other W17 (ne7_2 NDp)).other W22 (ne7_3 NDp)).other W25 (ne7_1 NDp))
    obtain ⟨cl29, Ar29, q29, S29, Nn29, H29, G29⟩ := id f30
    have hin29 : ¬ (en < 0 ∨ cl29.slots.size ≤ (en).toNatClampNeg) := inb_of S29 (own_in2 he)
    obtain ⟨T29, h29, X29, e29, W29, st29⟩ := stZ X28 hx hZ e28 Ar29 (j := en) hin29 (g := (mkF m 103 #[.val (.ref kq), .val (.int en), .val (.int ((y2 &&& (65535 : Int64)).toInt32)), .val (.int y4)] [(.int (1 : Int32)), (.int en), (.ref aI)])) rfl rfl (D d10_103)
    have V29 : Arv Z h29 aI kI .boolean (2 : Int32) [(.int (s2 en 0 (1 : Int32) ib0)), (.int (s2 en 1 (1 : Int32) ib1))] (.int (0 : Int32)) := own_set2I (w := (1 : Int32)) Ar29 q29 S29 Nn29 H29 G29 rfl W29 he
    have N29 := Fr.snoc X29 N25 g_aI
    have Zn29 : n0 ≤ h29.size := Nat.le_trans Zn25 (Keep.of_wr W29).1
    have K29 : Keep h0 h29 [kq, aB, aA, aI, aF, aO, aW] := K25.wr W29 (Or.inl (List.mem_of_getElem? (i := 3) rfl))
    have O29 := O25.wr W29 g_aI
    have f31 := ((((((F_kq_bucketed.other W6 (Or.inl (ne0_5 NDp))).other W9 (Or.inl (ne0_6 NDp))).other W17 (Or.inl (ne0_2 NDp))).other W22 (Or.inl (ne0_3 NDp))).other W25 (Or.inl (ne0_1 NDp))).other W29 (Or.inl (ne0_7 NDp)))
    obtain ⟨T32, X32, e32, st32⟩ := getF X29 hx hZ hown (host := "") (Or.inl (wd 56 rfl)) Via.refl e29 f31 (g := (mkF m 106 #[.val (.ref kq), .val (.int en), .val (.int ((y2 &&& (65535 : Int64)).toInt32)), .val (.int y4)] [(.ref kq), (.ref kq)])) rfl rfl (D d10_106)
    have f34 := ((((((E_kq.wr W6).wr W9).wr W17).wr W22).wr W25).wr W29)
    obtain ⟨T33, h33, X33, e33, W33, st33⟩ := putF X32 hx hZ hown (host := "") (Or.inl (wd 56 rfl)) Via.refl e32 f31 f34 (Or.inl (wd 57 rfl)) (wd 1 rfl) (ty := .int) (by decide) rfl rfl (g := (mkF m 111 #[.val (.ref kq), .val (.int en), .val (.int ((y2 &&& (65535 : Int64)).toInt32)), .val (.int y4)] [(.int (bk + (1 : Int32))), (.ref kq)])) rfl rfl (D d10_111)
    have Fw33 : Fld Z h33 kq cQ "bucketed" "I" (.int (bk + (1 : Int32))) := Fld.same W33 f31
    have N33 := Fr.snoc X33 N29 g_kq
    have Zn33 : n0 ≤ h33.size := Nat.le_trans Zn29 (Keep.of_wr W33).1
    have K33 : Keep h0 h33 [kq, aB, aA, aI, aF, aO, aW] := K29.wr W33 (Or.inl (List.mem_of_getElem? (i := 0) rfl))
    have O33 := O29.wr W33 g_kq
    have lk35 := own_lk_b LI0 OK0 PV0 he hiz hy2 hy4 hc12 hy15 hy20
    have f36 := (((((((F_kq_keys.other W6 (Or.inl (ne0_5 NDp))).other W9 (Or.inl (ne0_6 NDp))).other W17 (Or.inl (ne0_2 NDp))).other W22 (Or.inl (ne0_3 NDp))).other W25 (Or.inl (ne0_1 NDp))).other W29 (Or.inl (ne0_7 NDp))).other W33 (Or.inr (slot_ne (Or.inr (wd 19 rfl)) (Or.inl (wd 57 rfl)) (by decide) (t := (.array .long)) (t' := .int) (by decide) (by decide))))
    have f37 := (((((((F_kq_before.other W6 (Or.inl (ne0_5 NDp))).other W9 (Or.inl (ne0_6 NDp))).other W17 (Or.inl (ne0_2 NDp))).other W22 (Or.inl (ne0_3 NDp))).other W25 (Or.inl (ne0_1 NDp))).other W29 (Or.inl (ne0_7 NDp))).other W33 (Or.inr (slot_ne (Or.inr (wd 21 rfl)) (Or.inl (wd 57 rfl)) (by decide) (t := (.array .int)) (t' := .int) (by decide) (by decide))))
    have f38 := ((((((f7.other W9 (Or.inl (ne0_6 NDp))).other W17 (Or.inl (ne0_2 NDp))).other W22 (Or.inl (ne0_3 NDp))).other W25 (Or.inl (ne0_1 NDp))).other W29 (Or.inl (ne0_7 NDp))).other W33 (Or.inr (slot_ne (Or.inr (wd 23 rfl)) (Or.inl (wd 57 rfl)) (by decide) (t := (.array .int)) (t' := .int) (by decide) (by decide))))
    have f39 := ((f27.other W29 (Or.inl (ne0_7 NDp))).other W33 (Or.inr (slot_ne (Or.inr (wd 26 rfl)) (Or.inl (wd 57 rfl)) (by decide) (t := (.array .boolean)) (t' := .int) (by decide) (by decide))))
    have f40 := (((f23.other W25 (Or.inl (ne0_1 NDp))).other W29 (Or.inl (ne0_7 NDp))).other W33 (Or.inr (slot_ne (Or.inr (wd 12 rfl)) (Or.inl (wd 57 rfl)) (by decide) (t := (.array .int)) (t' := .int) (by decide) (by decide))))
    have f41 := (((((f13.other W17 (Or.inl (ne0_2 NDp))).other W22 (Or.inl (ne0_3 NDp))).other W25 (Or.inl (ne0_1 NDp))).other W29 (Or.inl (ne0_7 NDp))).other W33 (Or.inr (slot_ne (Or.inr (wd 15 rfl)) (Or.inl (wd 57 rfl)) (by decide) (t := (.array .long)) (t' := .int) (by decide) (by decide))))
    have f42 := ((((f18.other W22 (Or.inl (ne0_3 NDp))).other W25 (Or.inl (ne0_1 NDp))).other W29 (Or.inl (ne0_7 NDp))).other W33 (Or.inr (slot_ne (Or.inr (wd 17 rfl)) (Or.inl (wd 57 rfl)) (by decide) (t := (.array .long)) (t' := .int) (by decide) (by decide))))
    have f43 := (((((((F_kq_further.other W6 (Or.inl (ne0_5 NDp))).other W9 (Or.inl (ne0_6 NDp))).other W17 (Or.inl (ne0_2 NDp))).other W22 (Or.inl (ne0_3 NDp))).other W25 (Or.inl (ne0_1 NDp))).other W29 (Or.inl (ne0_7 NDp))).other W33 (Or.inr (slot_ne (Or.inr (wd 50 rfl)) (Or.inl (wd 57 rfl)) (by decide) (t := (.object cH)) (t' := .int) (by decide) (by decide))))
    have f44 := (((((((F_kq_floor.other W6 (Or.inl (ne0_5 NDp))).other W9 (Or.inl (ne0_6 NDp))).other W17 (Or.inl (ne0_2 NDp))).other W22 (Or.inl (ne0_3 NDp))).other W25 (Or.inl (ne0_1 NDp))).other W29 (Or.inl (ne0_7 NDp))).other W33 (Or.inr (slot_ne (Or.inl (wd 72 rfl)) (Or.inl (wd 57 rfl)) (by decide) (t := .long) (t' := .int) (by decide) (by decide))))
    have f45 := ((((((V6.other W9 (ne5_6 NDp)).other W17 (ne5_2 NDp)).other W22 (ne5_3 NDp)).other W25 (ne5_1 NDp)).other W29 (ne5_7 NDp)).other W33 (ne5_0 NDp))
    have f46 := (((((V9.other W17 (ne6_2 NDp)).other W22 (ne6_3 NDp)).other W25 (ne6_1 NDp)).other W29 (ne6_7 NDp)).other W33 (ne6_0 NDp))
    have f47 := (V29.other W33 (ne7_0 NDp))
    have f48 := ((V25.other W29 (ne1_7 NDp)).other W33 (ne1_0 NDp))
    have f49 := ((((V17.other W22 (ne2_3 NDp)).other W25 (ne2_1 NDp)).other W29 (ne2_7 NDp)).other W33 (ne2_0 NDp))
    have f50 := (((V22.other W25 (ne3_1 NDp)).other W29 (ne3_7 NDp)).other W33 (ne3_0 NDp))
    obtain ⟨fs, hr, hrun, hended, hW, hsame⟩ := X33.leave (v := none) (fun _ => rfl)
    refine ⟨_, _, pre0 _ ?_, hrun, hended, _, _, rfl, ?_, ⟨_, rfl⟩, hW, hsame.mono (by decide) (by decide)⟩
    · refine cs11.trans ?_
      refine s_icmpYes X9 hx 48 (D d10_35) (teq hc12).1 (of_decide_eq_true rfl) rfl ?_
      refine s_aloadN X9 hx (D d10_48) rfl rfl ?_
      refine st14 _ ?_
      refine s_iloadN X14 hx (D d10_52) rfl ?_
      refine s_bipush X14 hx (64 : Int32) (D d10_53) rfl ?_
      refine s_idiv X14 hx (D d10_55) (by decide) rfl ?_
      refine s_dup2 X14 hx (D d10_56) rfl rfl ?_
      refine X14.laload hx (j := (((y2 &&& (65535 : Int64)).toInt32) / (64 : Int32))) (v := (.long y15)) (by rw [e14]; exact (Ar15).1) (State.isArrayOf_alike hZ.alike (Ar15).2.1) (Ar15).2.2 hin15 hat15 (g := (mkF m 57 #[.val (.ref kq), .val (.int en), .val (.int ((y2 &&& (65535 : Int64)).toInt32)), .val (.int y4)] [(.int (((y2 &&& (65535 : Int64)).toInt32) / (64 : Int32))), (.ref aO), (.int (((y2 &&& (65535 : Int64)).toInt32) / (64 : Int32))), (.ref aO)])) rfl rfl (D d10_57) _ ?_
      refine s_lconst X14 hx (1 : Int64) (D d10_58) rfl ?_
      refine s_iloadN X14 hx (D d10_59) rfl ?_
      refine s_bipush X14 hx (64 : Int32) (D d10_60) rfl ?_
      refine s_irem X14 hx (D d10_62) (by decide) rfl ?_
      refine s_lshl X14 hx (D d10_63) rfl ?_
      refine s_lor X14 hx (D d10_64) rfl ?_
      refine st17 _ ?_
      refine s_aloadN X17 hx (D d10_66) rfl rfl ?_
      refine st19 _ ?_
      refine s_iloadN X19 hx (D d10_70) rfl ?_
      refine s_bipush X19 hx (64 : Int32) (D d10_71) rfl ?_
      refine s_idiv X19 hx (D d10_73) (by decide) rfl ?_
      refine s_bipush X19 hx (64 : Int32) (D d10_74) rfl ?_
      refine s_idiv X19 hx (D d10_76) (by decide) rfl ?_
      refine s_dup2 X19 hx (D d10_77) rfl rfl ?_
      refine X19.laload hx (j := ((((y2 &&& (65535 : Int64)).toInt32) / (64 : Int32)) / (64 : Int32))) (v := (.long y20)) (by rw [e19]; exact (Ar20).1) (State.isArrayOf_alike hZ.alike (Ar20).2.1) (Ar20).2.2 hin20 hat20 (g := (mkF m 78 #[.val (.ref kq), .val (.int en), .val (.int ((y2 &&& (65535 : Int64)).toInt32)), .val (.int y4)] [(.int ((((y2 &&& (65535 : Int64)).toInt32) / (64 : Int32)) / (64 : Int32))), (.ref aW), (.int ((((y2 &&& (65535 : Int64)).toInt32) / (64 : Int32)) / (64 : Int32))), (.ref aW)])) rfl rfl (D d10_78) _ ?_
      refine s_lconst X19 hx (1 : Int64) (D d10_79) rfl ?_
      refine s_iloadN X19 hx (D d10_80) rfl ?_
      refine s_bipush X19 hx (64 : Int32) (D d10_81) rfl ?_
      refine s_idiv X19 hx (D d10_83) (by decide) rfl ?_
      refine s_bipush X19 hx (64 : Int32) (D d10_84) rfl ?_
      refine s_irem X19 hx (D d10_86) (by decide) rfl ?_
      refine s_lshl X19 hx (D d10_87) rfl ?_
      refine s_lor X19 hx (D d10_88) rfl ?_
      refine st22 _ ?_
      refine s_aloadN X22 hx (D d10_90) rfl rfl ?_
      refine st24 _ ?_
      refine s_iloadN X24 hx (D d10_94) rfl ?_
      refine s_iloadN X24 hx (D d10_95) rfl ?_
      refine st25 _ ?_
      refine s_aloadN X25 hx (D d10_97) rfl rfl ?_
      refine st28 _ ?_
      refine s_iloadN X28 hx (D d10_101) rfl ?_
      refine s_iconst X28 hx (1 : Int32) (D d10_102) rfl ?_
      refine st29 _ ?_
      refine s_aloadN X29 hx (D d10_104) rfl rfl ?_
      refine s_dup X29 hx (D d10_105) rfl ?_
      refine st32 _ ?_
      refine s_iconst X32 hx (1 : Int32) (D d10_109) rfl ?_
      refine s_iadd X32 hx (D d10_110) rfl ?_
      refine st33 _ ?_
      exact X33.returnOut hx Bd.returns (D d10_114) hr
    · show Q_rm_klink1 Z kq en aF aO aW aK aB aA aI hp lo aE aP kK kB kA kI kF kO kW bk ib0 ib1 bf0 bf1 af0 af1 kk0 kk1 fF fO fW h0 n0 _ T33.heap _
      rw [e33]
      exact ⟨(upd fF (((y2 &&& (65535 : Int64)).toInt32)).toNatClampNeg en), (upd fO ((((y2 &&& (65535 : Int64)).toInt32) / (64 : Int32))).toNatClampNeg (y15 ||| ((1 : Int64) <<< ((((y2 &&& (65535 : Int64)).toInt32) % (64 : Int32)) &&& 0x3f).toInt64))), (upd fW (((((y2 &&& (65535 : Int64)).toInt32) / (64 : Int32)) / (64 : Int32))).toNatClampNeg (y20 ||| ((1 : Int64) <<< (((((y2 &&& (65535 : Int64)).toInt32) / (64 : Int32)) % (64 : Int32)) &&& 0x3f).toInt64))), (s2 en 0 (-1 : Int32) bf0), (s2 en 1 (-1 : Int32) bf1), (s2 en 0 y4 af0), (s2 en 1 y4 af1), rfl, N33, K33, f36, f37, f38, f39, f40, f41, f42, f43, Fw33, f44, f45, f46, f47, f48, f49, f50, lk35⟩
  · have f51 := ((F_kq_before.other W6 (Or.inl (ne0_5 NDp))).other W9 (Or.inl (ne0_6 NDp)))
    obtain ⟨T52, X52, e52, st52⟩ := getF X9 hx hZ hown (host := "") (Or.inl (wd 20 rfl)) Via.refl e9 f51 (g := (mkF m 39 #[.val (.ref kq), .val (.int en), .val (.int ((y2 &&& (65535 : Int64)).toInt32)), .val (.int y4)] [(.ref kq)])) rfl rfl (D d10_39)
    have f54 := (V6.other W9 (ne5_6 NDp))
    obtain ⟨cl53, Ar53, q53, S53, Nn53, H53, G53⟩ := id f54
    have hin53 : ¬ (y4 < 0 ∨ cl53.slots.size ≤ (y4).toNatClampNeg) := inb_of S53 (own_in2 (by rw [hy4]; exact (li_v LI0 _ (fun z => hc12 (hy4.trans z))).1))
    obtain ⟨T53, h53, X53, e53, W53, st53⟩ := stI X52 hx hZ e52 Ar53 (j := y4) hin53 (g := (mkF m 44 #[.val (.ref kq), .val (.int en), .val (.int ((y2 &&& (65535 : Int64)).toInt32)), .val (.int y4)] [(.int en), (.int y4), (.ref aB)])) rfl rfl (D d10_44)
    have V53 : Arv Z h53 aB kB .int (2 : Int32) [(.int (s2 y4 0 en (s2 en 0 (-1 : Int32) bf0))), (.int (s2 y4 1 en (s2 en 1 (-1 : Int32) bf1)))] (.int (0 : Int32)) := own_set2I (w := en) Ar53 q53 S53 Nn53 H53 G53 rfl W53 (by rw [hy4]; exact (li_v LI0 _ (fun z => hc12 (hy4.trans z))).1)
    have N53 := Fr.snoc X53 N9 g_aB
    have Zn53 : n0 ≤ h53.size := Nat.le_trans Zn9 (Keep.of_wr W53).1
    have K53 : Keep h0 h53 [kq, aB, aA, aI, aF, aO, aW] := K9.wr W53 (Or.inl (List.mem_of_getElem? (i := 1) rfl))
    have O53 := O9.wr W53 g_aB
    have f55 := (((F_kq_firsts.other W6 (Or.inl (ne0_5 NDp))).other W9 (Or.inl (ne0_6 NDp))).other W53 (Or.inl (ne0_5 NDp)))
    obtain ⟨T56, X56, e56, st56⟩ := getF X53 hx hZ hown (host := "") (Or.inl (wd 11 rfl)) Via.refl e53 f55 (g := (mkF m 91 #[.val (.ref kq), .val (.int en), .val (.int ((y2 &&& (65535 : Int64)).toInt32)), .val (.int y4)] [(.ref kq)])) rfl rfl (D d10_91)
    have f58 := (((V_aF.other W6 (ne1_5 NDp)).other W9 (ne1_6 NDp)).other W53 (ne1_5 NDp))
    obtain ⟨cl57, Ar57, q57, S57, Nn57, H57, G57⟩ := id f58
    have hin57 : ¬ (((y2 &&& (65535 : Int64)).toInt32) < 0 ∨ cl57.slots.size ≤ (((y2 &&& (65535 : Int64)).toInt32)).toNatClampNeg) := inb_of S57 (own_bkl (own_bk y2) (by decide))
    obtain ⟨T57, h57, X57, e57, W57, st57⟩ := stI X56 hx hZ e56 Ar57 (j := ((y2 &&& (65535 : Int64)).toInt32)) hin57 (g := (mkF m 96 #[.val (.ref kq), .val (.int en), .val (.int ((y2 &&& (65535 : Int64)).toInt32)), .val (.int y4)] [(.int en), (.int ((y2 &&& (65535 : Int64)).toInt32)), (.ref aF)])) rfl rfl (D d10_96)
    have V57 : ArfI Z h57 aF kF (65536 : Int32) (upd fF (((y2 &&& (65535 : Int64)).toInt32)).toNatClampNeg en) := ArfI.set Ar57 q57 S57 Nn57 H57 W57
    have N57 := Fr.snoc X57 N53 g_aF
    have Zn57 : n0 ≤ h57.size := Nat.le_trans Zn53 (Keep.of_wr W57).1
    have K57 : Keep h0 h57 [kq, aB, aA, aI, aF, aO, aW] := K53.wr W57 (Or.inl (List.mem_of_getElem? (i := 4) rfl))
    have O57 := O53.wr W57 g_aF
    have f59 := ((((F_kq_inBucket.other W6 (Or.inl (ne0_5 NDp))).other W9 (Or.inl (ne0_6 NDp))).other W53 (Or.inl (ne0_5 NDp))).other W57 (Or.inl (ne0_1 NDp)))
    obtain ⟨T60, X60, e60, st60⟩ := getF X57 hx hZ hown (host := "") (Or.inl (wd 25 rfl)) Via.refl e57 f59 (g := (mkF m 98 #[.val (.ref kq), .val (.int en), .val (.int ((y2 &&& (65535 : Int64)).toInt32)), .val (.int y4)] [(.ref kq)])) rfl rfl (D d10_98)
    have f62 := ((((V_aI.other W6 (ne7_5 NDp)).other W9 (ne7_6 NDp)).other W53 (ne7_5 NDp)).other W57 (ne7_1 NDp))
    obtain ⟨cl61, Ar61, q61, S61, Nn61, H61, G61⟩ := id f62
    have hin61 : ¬ (en < 0 ∨ cl61.slots.size ≤ (en).toNatClampNeg) := inb_of S61 (own_in2 he)
    obtain ⟨T61, h61, X61, e61, W61, st61⟩ := stZ X60 hx hZ e60 Ar61 (j := en) hin61 (g := (mkF m 103 #[.val (.ref kq), .val (.int en), .val (.int ((y2 &&& (65535 : Int64)).toInt32)), .val (.int y4)] [(.int (1 : Int32)), (.int en), (.ref aI)])) rfl rfl (D d10_103)
    have V61 : Arv Z h61 aI kI .boolean (2 : Int32) [(.int (s2 en 0 (1 : Int32) ib0)), (.int (s2 en 1 (1 : Int32) ib1))] (.int (0 : Int32)) := own_set2I (w := (1 : Int32)) Ar61 q61 S61 Nn61 H61 G61 rfl W61 he
    have N61 := Fr.snoc X61 N57 g_aI
    have Zn61 : n0 ≤ h61.size := Nat.le_trans Zn57 (Keep.of_wr W61).1
    have K61 : Keep h0 h61 [kq, aB, aA, aI, aF, aO, aW] := K57.wr W61 (Or.inl (List.mem_of_getElem? (i := 3) rfl))
    have O61 := O57.wr W61 g_aI
    have f63 := (((((F_kq_bucketed.other W6 (Or.inl (ne0_5 NDp))).other W9 (Or.inl (ne0_6 NDp))).other W53 (Or.inl (ne0_5 NDp))).other W57 (Or.inl (ne0_1 NDp))).other W61 (Or.inl (ne0_7 NDp)))
    obtain ⟨T64, X64, e64, st64⟩ := getF X61 hx hZ hown (host := "") (Or.inl (wd 56 rfl)) Via.refl e61 f63 (g := (mkF m 106 #[.val (.ref kq), .val (.int en), .val (.int ((y2 &&& (65535 : Int64)).toInt32)), .val (.int y4)] [(.ref kq), (.ref kq)])) rfl rfl (D d10_106)
    have f66 := (((((E_kq.wr W6).wr W9).wr W53).wr W57).wr W61)
    obtain ⟨T65, h65, X65, e65, W65, st65⟩ := putF X64 hx hZ hown (host := "") (Or.inl (wd 56 rfl)) Via.refl e64 f63 f66 (Or.inl (wd 57 rfl)) (wd 1 rfl) (ty := .int) (by decide) rfl rfl (g := (mkF m 111 #[.val (.ref kq), .val (.int en), .val (.int ((y2 &&& (65535 : Int64)).toInt32)), .val (.int y4)] [(.int (bk + (1 : Int32))), (.ref kq)])) rfl rfl (D d10_111)
    have Fw65 : Fld Z h65 kq cQ "bucketed" "I" (.int (bk + (1 : Int32))) := Fld.same W65 f63
    have N65 := Fr.snoc X65 N61 g_kq
    have Zn65 : n0 ≤ h65.size := Nat.le_trans Zn61 (Keep.of_wr W65).1
    have K65 : Keep h0 h65 [kq, aB, aA, aI, aF, aO, aW] := K61.wr W65 (Or.inl (List.mem_of_getElem? (i := 0) rfl))
    have O65 := O61.wr W65 g_kq
    have lk67 := own_lk_a LI0 OK0 PV0 he hiz hy2 hy4 hc12
    have f68 := ((((((F_kq_keys.other W6 (Or.inl (ne0_5 NDp))).other W9 (Or.inl (ne0_6 NDp))).other W53 (Or.inl (ne0_5 NDp))).other W57 (Or.inl (ne0_1 NDp))).other W61 (Or.inl (ne0_7 NDp))).other W65 (Or.inr (slot_ne (Or.inr (wd 19 rfl)) (Or.inl (wd 57 rfl)) (by decide) (t := (.array .long)) (t' := .int) (by decide) (by decide))))
    have f69 := ((((f51.other W53 (Or.inl (ne0_5 NDp))).other W57 (Or.inl (ne0_1 NDp))).other W61 (Or.inl (ne0_7 NDp))).other W65 (Or.inr (slot_ne (Or.inr (wd 21 rfl)) (Or.inl (wd 57 rfl)) (by decide) (t := (.array .int)) (t' := .int) (by decide) (by decide))))
    have f70 := (((((f7.other W9 (Or.inl (ne0_6 NDp))).other W53 (Or.inl (ne0_5 NDp))).other W57 (Or.inl (ne0_1 NDp))).other W61 (Or.inl (ne0_7 NDp))).other W65 (Or.inr (slot_ne (Or.inr (wd 23 rfl)) (Or.inl (wd 57 rfl)) (by decide) (t := (.array .int)) (t' := .int) (by decide) (by decide))))
    have f71 := ((f59.other W61 (Or.inl (ne0_7 NDp))).other W65 (Or.inr (slot_ne (Or.inr (wd 26 rfl)) (Or.inl (wd 57 rfl)) (by decide) (t := (.array .boolean)) (t' := .int) (by decide) (by decide))))
    have f72 := (((f55.other W57 (Or.inl (ne0_1 NDp))).other W61 (Or.inl (ne0_7 NDp))).other W65 (Or.inr (slot_ne (Or.inr (wd 12 rfl)) (Or.inl (wd 57 rfl)) (by decide) (t := (.array .int)) (t' := .int) (by decide) (by decide))))
    have f73 := ((((((F_kq_occupied.other W6 (Or.inl (ne0_5 NDp))).other W9 (Or.inl (ne0_6 NDp))).other W53 (Or.inl (ne0_5 NDp))).other W57 (Or.inl (ne0_1 NDp))).other W61 (Or.inl (ne0_7 NDp))).other W65 (Or.inr (slot_ne (Or.inr (wd 15 rfl)) (Or.inl (wd 57 rfl)) (by decide) (t := (.array .long)) (t' := .int) (by decide) (by decide))))
    have f74 := ((((((F_kq_occupiedWords.other W6 (Or.inl (ne0_5 NDp))).other W9 (Or.inl (ne0_6 NDp))).other W53 (Or.inl (ne0_5 NDp))).other W57 (Or.inl (ne0_1 NDp))).other W61 (Or.inl (ne0_7 NDp))).other W65 (Or.inr (slot_ne (Or.inr (wd 17 rfl)) (Or.inl (wd 57 rfl)) (by decide) (t := (.array .long)) (t' := .int) (by decide) (by decide))))
    have f75 := ((((((F_kq_further.other W6 (Or.inl (ne0_5 NDp))).other W9 (Or.inl (ne0_6 NDp))).other W53 (Or.inl (ne0_5 NDp))).other W57 (Or.inl (ne0_1 NDp))).other W61 (Or.inl (ne0_7 NDp))).other W65 (Or.inr (slot_ne (Or.inr (wd 50 rfl)) (Or.inl (wd 57 rfl)) (by decide) (t := (.object cH)) (t' := .int) (by decide) (by decide))))
    have f76 := ((((((F_kq_floor.other W6 (Or.inl (ne0_5 NDp))).other W9 (Or.inl (ne0_6 NDp))).other W53 (Or.inl (ne0_5 NDp))).other W57 (Or.inl (ne0_1 NDp))).other W61 (Or.inl (ne0_7 NDp))).other W65 (Or.inr (slot_ne (Or.inl (wd 72 rfl)) (Or.inl (wd 57 rfl)) (by decide) (t := .long) (t' := .int) (by decide) (by decide))))
    have f77 := (((V53.other W57 (ne5_1 NDp)).other W61 (ne5_7 NDp)).other W65 (ne5_0 NDp))
    have f78 := ((((V9.other W53 (ne6_5 NDp)).other W57 (ne6_1 NDp)).other W61 (ne6_7 NDp)).other W65 (ne6_0 NDp))
    have f79 := (V61.other W65 (ne7_0 NDp))
    have f80 := ((V57.other W61 (ne1_7 NDp)).other W65 (ne1_0 NDp))
    have f81 := ((((((V_aO.other W6 (ne2_5 NDp)).other W9 (ne2_6 NDp)).other W53 (ne2_5 NDp)).other W57 (ne2_1 NDp)).other W61 (ne2_7 NDp)).other W65 (ne2_0 NDp))
    have f82 := ((((((V_aW.other W6 (ne3_5 NDp)).other W9 (ne3_6 NDp)).other W53 (ne3_5 NDp)).other W57 (ne3_1 NDp)).other W61 (ne3_7 NDp)).other W65 (ne3_0 NDp))
    obtain ⟨fs, hr, hrun, hended, hW, hsame⟩ := X65.leave (v := none) (fun _ => rfl)
    refine ⟨_, _, pre0 _ ?_, hrun, hended, _, _, rfl, ?_, ⟨_, rfl⟩, hW, hsame.mono (by decide) (by decide)⟩
    · refine cs11.trans ?_
      refine s_icmpNo X9 hx (D d10_35) (feq hc12).1 ?_
      refine s_aloadN X9 hx (D d10_38) rfl rfl ?_
      refine st52 _ ?_
      refine s_iloadN X52 hx (D d10_42) rfl ?_
      refine s_iloadN X52 hx (D d10_43) rfl ?_
      refine st53 _ ?_
      refine s_goto X53 hx 90 (D d10_45) (of_decide_eq_true rfl) rfl ?_
      refine s_aloadN X53 hx (D d10_90) rfl rfl ?_
      refine st56 _ ?_
      refine s_iloadN X56 hx (D d10_94) rfl ?_
      refine s_iloadN X56 hx (D d10_95) rfl ?_
      refine st57 _ ?_
      refine s_aloadN X57 hx (D d10_97) rfl rfl ?_
      refine st60 _ ?_
      refine s_iloadN X60 hx (D d10_101) rfl ?_
      refine s_iconst X60 hx (1 : Int32) (D d10_102) rfl ?_
      refine st61 _ ?_
      refine s_aloadN X61 hx (D d10_104) rfl rfl ?_
      refine s_dup X61 hx (D d10_105) rfl ?_
      refine st64 _ ?_
      refine s_iconst X64 hx (1 : Int32) (D d10_109) rfl ?_
      refine s_iadd X64 hx (D d10_110) rfl ?_
      refine st65 _ ?_
      exact X65.returnOut hx Bd.returns (D d10_114) hr
    · show Q_rm_klink1 Z kq en aF aO aW aK aB aA aI hp lo aE aP kK kB kA kI kF kO kW bk ib0 ib1 bf0 bf1 af0 af1 kk0 kk1 fF fO fW h0 n0 _ T65.heap _
      rw [e65]
      exact ⟨(upd fF (((y2 &&& (65535 : Int64)).toInt32)).toNatClampNeg en), fO, fW, (s2 y4 0 en (s2 en 0 (-1 : Int32) bf0)), (s2 y4 1 en (s2 en 1 (-1 : Int32) bf1)), (s2 en 0 y4 af0), (s2 en 1 y4 af1), rfl, N65, K65, f68, f69, f70, f71, f72, f73, f74, f75, Fw65, f76, f77, f78, f79, f80, f81, f82, lk67⟩
theorem ef_rm_kunlink1 (m : MethodId) (x0 : Addr) (x1 : Int32) : entryFrame m #[(.ref x0), (.int x1)] 4 = mkF m 0 #[.val (.ref x0), .val (.int x1), .unset, .unset] [] := by first | (simp [entryFrame, mkF, argsToLocals, Value.category]; done) | rfl
def Q_rm_kunlink1 (Z : State) (kq : Addr) (en : Int32) (aF aO aW aK aB aA aI hp lo aE aP : Addr) (kK kB kA kI kF kO kW : ClassId) (bk ib0 ib1 bf0 bf1 af0 af1 : Int32) (kk0 kk1 : Int64) (fF : Nat → Int32) (fO fW : Nat → Int64) (h0 : Heap) (n0 : Nat) (v : Option Value) (h : Heap) (L : List Loc) : Prop := ∃ (vF : Nat → Int32) (vO : Nat → Int64) (vW : Nat → Int64), v = none ∧ Fr n0 L ∧ Keep h0 h [kq, aI, aF, aO, aW] ∧ Fld Z h kq cQ "keys" "[J" (.ref aK) ∧ Fld Z h kq cQ "before" "[I" (.ref aB) ∧ Fld Z h kq cQ "after" "[I" (.ref aA) ∧ Fld Z h kq cQ "inBucket" "[Z" (.ref aI) ∧ Fld Z h kq cQ "firsts" "[I" (.ref aF) ∧ Fld Z h kq cQ "occupied" "[J" (.ref aO) ∧ Fld Z h kq cQ "occupiedWords" "[J" (.ref aW) ∧ Fld Z h kq cQ "further" "Lcom/example/leasewise/leasewise/IndexedHeap;" (.ref hp) ∧ Fld Z h kq cQ "bucketed" "I" (.int (bk - (1 : Int32))) ∧ Fld Z h kq cQ "floor" "J" (.long (0 : Int64)) ∧ Arv Z h aI kI .boolean (2 : Int32) [(.int (s2 en 0 (0 : Int32) ib0)), (.int (s2 en 1 (0 : Int32) ib1))] (.int (0 : Int32)) ∧ ArfI Z h aF kF (65536 : Int32) vF ∧ ArfJ Z h aO kO (1024 : Int32) vO ∧ ArfJ Z h aW kW (16 : Int32) vW ∧ (LI vF (s2 en 0 0 ib0) (s2 en 1 0 ib1) kk0 kk1 bf0 bf1 af0 af1 ∧ OKB vF vO vW)
set_option maxRecDepth 65536 in
set_option maxHeartbeats 40000000 in
theorem rm_kunlink1 (l : Launch) (Z : State) (a0 : Array Value) (hw : ∀ d ∈ tables_1, d.before a0 Z = true) (ws : List Jvm.Cond) (kq : Addr) (en : Int32) (aF aO aW aK aB aA aI hp lo aE aP : Addr) (kK kB kA kI kF kO kW : ClassId) (bk ib0 ib1 bf0 bf1 af0 af1 : Int32) (kk0 kk1 : Int64) (fF : Nat → Int32) (fO fW : Nat → Int64) (h0 : Heap) (n0 : Nat) (O0 : Old Z n0 h0) (E_kq : Exa Z h0 kq cQ) (F_kq_keys : Fld Z h0 kq cQ "keys" "[J" (.ref aK)) (F_kq_before : Fld Z h0 kq cQ "before" "[I" (.ref aB)) (F_kq_after : Fld Z h0 kq cQ "after" "[I" (.ref aA)) (F_kq_inBucket : Fld Z h0 kq cQ "inBucket" "[Z" (.ref aI)) (F_kq_firsts : Fld Z h0 kq cQ "firsts" "[I" (.ref aF)) (F_kq_occupied : Fld Z h0 kq cQ "occupied" "[J" (.ref aO)) (F_kq_occupiedWords : Fld Z h0 kq cQ "occupiedWords" "[J" (.ref aW)) (F_kq_further : Fld Z h0 kq cQ "further" "Lcom/example/leasewise/leasewise/IndexedHeap;" (.ref hp)) (F_kq_bucketed : Fld Z h0 kq cQ "bucketed" "I" (.int bk)) (F_kq_floor : Fld Z h0 kq cQ "floor" "J" (.long (0 : Int64))) (V_aK : Arv Z h0 aK kK .long (2 : Int32) [(.long kk0), (.long kk1)] (.long (0 : Int64))) (V_aB : Arv Z h0 aB kB .int (2 : Int32) [(.int bf0), (.int bf1)] (.int (0 : Int32))) (V_aA : Arv Z h0 aA kA .int (2 : Int32) [(.int af0), (.int af1)] (.int (0 : Int32))) (V_aI : Arv Z h0 aI kI .boolean (2 : Int32) [(.int ib0), (.int ib1)] (.int (0 : Int32))) (NDp : List.Nodup [kq, aF, aO, aW, aK, aB, aA, aI, hp, lo, aE, aP]) (he : I2 en) (LI0 : LI fF ib0 ib1 kk0 kk1 bf0 bf1 af0 af1) (OK0 : OKB fF fO fW) (hin : g2 en ib0 ib1 = 1) (hsol : ot en ib0 ib1 = 0) (g_kq : n0 ≤ kq) (g_aI : n0 ≤ aI) (g_aF : n0 ≤ aF) (g_aO : n0 ≤ aO) (g_aW : n0 ≤ aW) (V_aF : ArfI Z h0 aF kF (65536 : Int32) fF) (V_aO : ArfJ Z h0 aO kO (1024 : Int32) fO) (V_aW : ArfJ Z h0 aW kW (16 : Int32) fW) :
    MetFree l (⟨cQ, "unlink", "(I)V"⟩ : MethodName) (head1 (Jvm.Cond.code (⟨cQ, "unlink", "(I)V"⟩ : MethodName) prog_39_method_14_code 4 none :: ws) ({ frames := 0, cells := 0, slots := 0, locals := 0 } : Room)) (fun a U => a = #[(.ref kq), (.int en)] ∧ Z.WarmedH U.vm ∧ U.heap = h0) (fun _ _ _ _ _ => True) (fun _ U o U' => ∃ v L, o = .returned v ∧ Q_rm_kunlink1 Z kq en aF aO aW aK aB aA aI hp lo aE aP kK kB kA kI kF kO kW bk ib0 ib1 bf0 bf1 af0 af1 kk0 kk1 fF fO fW h0 n0 v U'.heap L ∧ FrameEnd U o U' L ({ frames := 0, cells := 0, slots := 0, locals := 0 } : Room).cells ({ frames := 0, cells := 0, slots := 0, locals := 0 } : Room).slots) := by
  refine MetFree.of_bodySF (plainFor_of_name pn_2) hisR ?_
  intro p e s m args below meth c s₁ Bd hml0 hP hK
  obtain ⟨rfl, hZH, hh⟩ := hP
  have hZ := hZH.wide
  have hx := Bd.exec
  have hby := Bd.bytes
  have D := fun {pc : Nat} {r : Except ClassFile.DecodeError (ClassFile.Instr × Nat)} (q : decode prog_39_method_14_code pc = r) => hb (pc := pc) hby q
  have hml : c.maxLocals = 4 := hml0
  have hown : s.vm.findClass cQ = some m.cls := findClass_of_methodNamed Bd.named
  have hnm := (name_of_methodNamed Bd.named Bd.method).1
  have X0 : Stand p l e ({ frames := 0, cells := 0, slots := 0, locals := 0 } : Room) s m #[(.ref kq), (.int en)] below meth c s₁ [] 0 0 := Stand.of_body Bd
  have e0 : s₁.heap = h0 := by rw [← hh, Bd.state]; rfl
  have N0 := Fr.nil n0
  have pre0 : ∀ t, Steps p.tables e below (s₁.setTop (mkF m 0 #[.val (.ref kq), .val (.int en), .unset, .unset] [])) t → Steps p.tables e below (s₁.setTop (entryFrame m #[(.ref kq), (.int en)] 4)) t := fun t k => castTop (ef_rm_kunlink1 m (kq) (en)) k
  have wd := fun {d : Jvm.Cond} (i : Nat) (h : tables_1[i]? = some d) => hw d (List.mem_of_getElem? h)
  obtain ⟨T1, X1, e1, st1⟩ := getF X0 hx hZ hown (host := "") (Or.inl (wd 18 rfl)) Via.refl e0 F_kq_keys (g := (mkF m 1 #[.val (.ref kq), .val (.int en), .unset, .unset] [(.ref kq)])) rfl rfl (D d18_1)
  obtain ⟨cl2, Ar2, q2, S2, Nn2, H2, G2⟩ := id V_aK
  have hin2 : ¬ (en < 0 ∨ cl2.slots.size ≤ (en).toNatClampNeg) := inb_of S2 (own_in2 he)
  obtain ⟨y2, hy2⟩ : ∃ y, y = g2 en kk0 kk1 := ⟨_, rfl⟩
  have hat2 := own_get2J H2 hin2 he hy2
  obtain ⟨T3, X3, e3, st3⟩ := getF X1 hx hZ hown (host := "") (Or.inl (wd 20 rfl)) Via.refl e1 F_kq_before (g := (mkF m 13 #[.val (.ref kq), .val (.int en), .val (.int ((y2 &&& (65535 : Int64)).toInt32)), .unset] [(.ref kq)])) rfl rfl (D d18_13)
  obtain ⟨cl4, Ar4, q4, S4, Nn4, H4, G4⟩ := id V_aB
  have hin4 : ¬ (en < 0 ∨ cl4.slots.size ≤ (en).toNatClampNeg) := inb_of S4 (own_in2 he)
  obtain ⟨y4, hy4⟩ : ∃ y, y = g2 en bf0 bf1 := ⟨_, rfl⟩
  have hat4 := own_get2I H4 hin4 he hy4
  obtain ⟨T5, X5, e5, st5⟩ := getF X3 hx hZ hown (host := "") (Or.inl (wd 11 rfl)) Via.refl e3 F_kq_firsts (g := (mkF m 43 #[.val (.ref kq), .val (.int en), .val (.int ((y2 &&& (65535 : Int64)).toInt32)), .unset] [(.ref kq)])) rfl rfl (D d18_43)
  obtain ⟨T6, X6, e6, st6⟩ := getF X5 hx hZ hown (host := "") (Or.inl (wd 22 rfl)) Via.refl e5 F_kq_after (g := (mkF m 48 #[.val (.ref kq), .val (.int en), .val (.int ((y2 &&& (65535 : Int64)).toInt32)), .unset] [(.ref kq), (.int ((y2 &&& (65535 : Int64)).toInt32)), (.ref aF)])) rfl rfl (D d18_48)
  obtain ⟨cl7, Ar7, q7, S7, Nn7, H7, G7⟩ := id V_aA
  have hin7 : ¬ (en < 0 ∨ cl7.slots.size ≤ (en).toNatClampNeg) := inb_of S7 (own_in2 he)
  obtain ⟨y7, hy7⟩ : ∃ y, y = g2 en af0 af1 := ⟨_, rfl⟩
  have hat7 := own_get2I H7 hin7 he hy7
  obtain ⟨cl8, Ar8, q8, S8, Nn8, H8, G8⟩ := id V_aF
  have hin8 : ¬ (((y2 &&& (65535 : Int64)).toInt32) < 0 ∨ cl8.slots.size ≤ (((y2 &&& (65535 : Int64)).toInt32)).toNatClampNeg) := inb_of S8 (own_bkl (own_bk y2) (by decide))
  obtain ⟨T8, h8, X8, e8, W8, st8⟩ := stI X6 hx hZ e6 Ar8 (j := ((y2 &&& (65535 : Int64)).toInt32)) hin8 (g := (mkF m 53 #[.val (.ref kq), .val (.int en), .val (.int ((y2 &&& (65535 : Int64)).toInt32)), .unset] [(.int y7), (.int ((y2 &&& (65535 : Int64)).toInt32)), (.ref aF)])) rfl rfl (D d18_53)
  have V8 : ArfI Z h8 aF kF (65536 : Int32) (upd fF (((y2 &&& (65535 : Int64)).toInt32)).toNatClampNeg y7) := ArfI.set Ar8 q8 S8 Nn8 H8 W8
  have N8 := Fr.snoc X8 N0 g_aF
  have Zn8 : n0 ≤ h8.size := Nat.le_trans (own_oldsz O0) (Keep.of_wr W8).1
  have K8 : Keep h0 h8 [kq, aI, aF, aO, aW] := (Keep.refl h0 [kq, aI, aF, aO, aW]).wr W8 (Or.inl (List.mem_of_getElem? (i := 2) rfl))
  have O8 := O0.wr W8 g_aF
  have f9 := (F_kq_after.other W8 (Or.inl (ne0_1 NDp)))
  obtain ⟨T10, X10, e10, st10⟩ := getF X8 hx hZ hown (host := "") (Or.inl (wd 22 rfl)) Via.refl e8 f9 (g := (mkF m 55 #[.val (.ref kq), .val (.int en), .val (.int ((y2 &&& (65535 : Int64)).toInt32)), .unset] [(.ref kq)])) rfl rfl (D d18_55)
  have f12 := (V_aA.other W8 (ne6_1 NDp))
  obtain ⟨cl11, Ar11, q11, S11, Nn11, H11, G11⟩ := id f12
  have hin11 : ¬ (en < 0 ∨ cl11.slots.size ≤ (en).toNatClampNeg) := inb_of S11 (own_in2 he)
  obtain ⟨y11, hy11⟩ : ∃ y, y = g2 en af0 af1 := ⟨_, rfl⟩
  have hat11 := own_get2I H11 hin11 he hy11
  have f13 := (F_kq_firsts.other W8 (Or.inl (ne0_1 NDp)))
  obtain ⟨T14, X14, e14, st14⟩ := getF X10 hx hZ hown (host := "") (Or.inl (wd 11 rfl)) Via.refl e10 f13 (g := (mkF m 82 #[.val (.ref kq), .val (.int en), .val (.int ((y2 &&& (65535 : Int64)).toInt32)), .unset] [(.ref kq)])) rfl rfl (D d18_82)
  obtain ⟨cl15, Ar15, q15, S15, Nn15, H15, G15⟩ := id V8
  have hin15 : ¬ (((y2 &&& (65535 : Int64)).toInt32) < 0 ∨ cl15.slots.size ≤ (((y2 &&& (65535 : Int64)).toInt32)).toNatClampNeg) := inb_of S15 (own_bkl (own_bk y2) (by decide))
  obtain ⟨y15, hy15⟩ : ∃ y, y = (upd fF (((y2 &&& (65535 : Int64)).toInt32)).toNatClampNeg y7) (((y2 &&& (65535 : Int64)).toInt32)).toNatClampNeg := ⟨_, rfl⟩
  have hat15 := ArfI.get H15 hin15 hy15
  have f16 := (F_kq_occupied.other W8 (Or.inl (ne0_1 NDp)))
  obtain ⟨T17, X17, e17, st17⟩ := getF X14 hx hZ hown (host := "") (Or.inl (wd 14 rfl)) Via.refl e14 f16 (g := (mkF m 97 #[.val (.ref kq), .val (.int en), .val (.int ((y2 &&& (65535 : Int64)).toInt32)), .val (.int (((y2 &&& (65535 : Int64)).toInt32) / (64 : Int32)))] [(.ref kq)])) rfl rfl (D d18_97)
  have f19 := (V_aO.other W8 (ne2_1 NDp))
  obtain ⟨cl18, Ar18, q18, S18, Nn18, H18, G18⟩ := id f19
  have hin18 : ¬ ((((y2 &&& (65535 : Int64)).toInt32) / (64 : Int32)) < 0 ∨ cl18.slots.size ≤ ((((y2 &&& (65535 : Int64)).toInt32) / (64 : Int32))).toNatClampNeg) := inb_of S18 (own_bkl (own_div64 (n := 1024) (own_bk y2)) (by decide))
  obtain ⟨y18, hy18⟩ : ∃ y, y = fO ((((y2 &&& (65535 : Int64)).toInt32) / (64 : Int32))).toNatClampNeg := ⟨_, rfl⟩
  have hat18 := ArfJ.get H18 hin18 hy18
  obtain ⟨cl20, Ar20, q20, S20, Nn20, H20, G20⟩ := id f19
  have hin20 : ¬ ((((y2 &&& (65535 : Int64)).toInt32) / (64 : Int32)) < 0 ∨ cl20.slots.size ≤ ((((y2 &&& (65535 : Int64)).toInt32) / (64 : Int32))).toNatClampNeg) := inb_of S20 (own_bkl (own_div64 (n := 1024) (own_bk y2)) (by decide))
  obtain ⟨T20, h20, X20, e20, W20, st20⟩ := stJ X17 hx hZ e17 Ar20 (j := (((y2 &&& (65535 : Int64)).toInt32) / (64 : Int32))) hin20 (g := (mkF m 114 #[.val (.ref kq), .val (.int en), .val (.int ((y2 &&& (65535 : Int64)).toInt32)), .val (.int (((y2 &&& (65535 : Int64)).toInt32) / (64 : Int32)))] [(.long (y18 &&& (((1 : Int64) <<< ((((y2 &&& (65535 : Int64)).toInt32) % (64 : Int32)) &&& 0x3f).toInt64) ^^^ (-1 : Int64)))), (.int (((y2 &&& (65535 : Int64)).toInt32) / (64 : Int32))), (.ref aO)])) rfl rfl (D d18_114)
  have V20 : ArfJ Z h20 aO kO (1024 : Int32) (upd fO ((((y2 &&& (65535 : Int64)).toInt32) / (64 : Int32))).toNatClampNeg (y18 &&& (((1 : Int64) <<< ((((y2 &&& (65535 : Int64)).toInt32) % (64 : Int32)) &&& 0x3f).toInt64) ^^^ (-1 : Int64)))) := ArfJ.set Ar20 q20 S20 Nn20 H20 W20
  have N20 := Fr.snoc X20 N8 g_aO
  have Zn20 : n0 ≤ h20.size := Nat.le_trans Zn8 (Keep.of_wr W20).1
  have K20 : Keep h0 h20 [kq, aI, aF, aO, aW] := K8.wr W20 (Or.inl (List.mem_of_getElem? (i := 3) rfl))
  have O20 := O8.wr W20 g_aO
  have f21 := (f16.other W20 (Or.inl (ne0_2 NDp)))
  obtain ⟨T22, X22, e22, st22⟩ := getF X20 hx hZ hown (host := "") (Or.inl (wd 14 rfl)) Via.refl e20 f21 (g := (mkF m 116 #[.val (.ref kq), .val (.int en), .val (.int ((y2 &&& (65535 : Int64)).toInt32)), .val (.int (((y2 &&& (65535 : Int64)).toInt32) / (64 : Int32)))] [(.ref kq)])) rfl rfl (D d18_116)
  obtain ⟨cl23, Ar23, q23, S23, Nn23, H23, G23⟩ := id V20
  have hin23 : ¬ ((((y2 &&& (65535 : Int64)).toInt32) / (64 : Int32)) < 0 ∨ cl23.slots.size ≤ ((((y2 &&& (65535 : Int64)).toInt32) / (64 : Int32))).toNatClampNeg) := inb_of S23 (own_bkl (own_div64 (n := 1024) (own_bk y2)) (by decide))
  obtain ⟨y23, hy23⟩ : ∃ y, y = (upd fO ((((y2 &&& (65535 : Int64)).toInt32) / (64 : Int32))).toNatClampNeg (y18 &&& (((1 : Int64) <<< ((((y2 &&& (65535 : Int64)).toInt32) % (64 : Int32)) &&& 0x3f).toInt64) ^^^ (-1 : Int64)))) ((((y2 &&& (65535 : Int64)).toInt32) / (64 : Int32))).toNatClampNeg := ⟨_, rfl⟩
  have hat23 := ArfJ.get H23 hin23 hy23
  have cs24 : Steps p.tables e below (s₁.setTop (mkF m 0 #[.val (.ref kq), .val (.int en), .unset, .unset] [])) (T22.setTop (mkF m 123 #[.val (.ref kq), .val (.int en), .val (.int ((y2 &&& (65535 : Int64)).toInt32)), .val (.int (((y2 &&& (65535 : Int64)).toInt32) / (64 : Int32)))] [(.int (lcmpW y23 (0 : Int64)))])) := (by
    refine s_aloadN X0 hx (D d18_0) rfl rfl ?_
    refine st1 _ ?_
    refine s_iloadN X1 hx (D d18_4) rfl ?_
    refine X1.laload hx (j := en) (v := (.long y2)) (by rw [e1]; exact (Ar2).1) (State.isArrayOf_alike hZ.alike (Ar2).2.1) (Ar2).2.2 hin2 hat2 (g := (mkF m 5 #[.val (.ref kq), .val (.int en), .unset, .unset] [(.int en), (.ref aK)])) rfl rfl (D d18_5) _ ?_
    refine X1.ldc2Long hx hown (mvT hZ (wd 88 rfl)) (g := (mkF m 6 #[.val (.ref kq), .val (.int en), .unset, .unset] [(.long y2)])) rfl (D d18_6) _ ?_
    refine s_land X1 hx (D d18_9) rfl ?_
    refine s_l2i X1 hx (D d18_10) rfl ?_
    refine s_istoreN X1 hx (D d18_11) (l' := #[.val (.ref kq), .val (.int en), .val (.int ((y2 &&& (65535 : Int64)).toInt32)), .unset]) rfl ?_
    refine s_aloadN X1 hx (D d18_12) rfl rfl ?_
    refine st3 _ ?_
    refine s_iloadN X3 hx (D d18_16) rfl ?_
    refine X3.iaload hx (j := en) (v := (.int y4)) (by rw [e3]; exact (Ar4).1) (State.isArrayOf_alike hZ.alike (Ar4).2.1) (Ar4).2.2 hin4 hat4 (g := (mkF m 17 #[.val (.ref kq), .val (.int en), .val (.int ((y2 &&& (65535 : Int64)).toInt32)), .unset] [(.int en), (.ref aB)])) rfl rfl (D d18_17) _ ?_
    refine s_iconst X3 hx (-1 : Int32) (D d18_18) rfl ?_
    refine s_icmpYes X3 hx 42 (D d18_19) (teq (hy4.trans (li_sole LI0 he hin hsol).1 : y4 = (-1 : Int32))).1 (of_decide_eq_true rfl) rfl ?_
    refine s_aloadN X3 hx (D d18_42) rfl rfl ?_
    refine st5 _ ?_
    refine s_iloadN X5 hx (D d18_46) rfl ?_
    refine s_aloadN X5 hx (D d18_47) rfl rfl ?_
    refine st6 _ ?_
    refine s_iloadN X6 hx (D d18_51) rfl ?_
    refine X6.iaload hx (j := en) (v := (.int y7)) (by rw [e6]; exact (Ar7).1) (State.isArrayOf_alike hZ.alike (Ar7).2.1) (Ar7).2.2 hin7 hat7 (g := (mkF m 52 #[.val (.ref kq), .val (.int en), .val (.int ((y2 &&& (65535 : Int64)).toInt32)), .unset] [(.int en), (.ref aA), (.int ((y2 &&& (65535 : Int64)).toInt32)), (.ref aF)])) rfl rfl (D d18_52) _ ?_
    refine st8 _ ?_
    refine s_aloadN X8 hx (D d18_54) rfl rfl ?_
    refine st10 _ ?_
    refine s_iloadN X10 hx (D d18_58) rfl ?_
    refine X10.iaload hx (j := en) (v := (.int y11)) (by rw [e10]; exact (Ar11).1) (State.isArrayOf_alike hZ.alike (Ar11).2.1) (Ar11).2.2 hin11 hat11 (g := (mkF m 59 #[.val (.ref kq), .val (.int en), .val (.int ((y2 &&& (65535 : Int64)).toInt32)), .unset] [(.int en), (.ref aA)])) rfl rfl (D d18_59) _ ?_
    refine s_iconst X10 hx (-1 : Int32) (D d18_60) rfl ?_
    refine s_icmpYes X10 hx 81 (D d18_61) (teq (hy11.trans (li_sole LI0 he hin hsol).2 : y11 = (-1 : Int32))).1 (of_decide_eq_true rfl) rfl ?_
    refine s_aloadN X10 hx (D d18_81) rfl rfl ?_
    refine st14 _ ?_
    refine s_iloadN X14 hx (D d18_85) rfl ?_
    refine X14.iaload hx (j := ((y2 &&& (65535 : Int64)).toInt32)) (v := (.int y15)) (by rw [e14]; exact (Ar15).1) (State.isArrayOf_alike hZ.alike (Ar15).2.1) (Ar15).2.2 hin15 hat15 (g := (mkF m 86 #[.val (.ref kq), .val (.int en), .val (.int ((y2 &&& (65535 : Int64)).toInt32)), .unset] [(.int ((y2 &&& (65535 : Int64)).toInt32)), (.ref aF)])) rfl rfl (D d18_86) _ ?_
    refine s_iconst X14 hx (-1 : Int32) (D d18_87) rfl ?_
    refine s_icmpNo X14 hx (D d18_88) (teq ((hy15.trans (upd_t _ _ _)).trans (hy7.trans (li_sole LI0 he hin hsol).2) : y15 = (-1 : Int32))).2 ?_
    refine s_iloadN X14 hx (D d18_91) rfl ?_
    refine s_bipush X14 hx (64 : Int32) (D d18_92) rfl ?_
    refine s_idiv X14 hx (D d18_94) (by decide) rfl ?_
    refine s_istoreN X14 hx (D d18_95) (l' := #[.val (.ref kq), .val (.int en), .val (.int ((y2 &&& (65535 : Int64)).toInt32)), .val (.int (((y2 &&& (65535 : Int64)).toInt32) / (64 : Int32)))]) rfl ?_
    refine s_aloadN X14 hx (D d18_96) rfl rfl ?_
    refine st17 _ ?_
    refine s_iloadN X17 hx (D d18_100) rfl ?_
    refine s_dup2 X17 hx (D d18_101) rfl rfl ?_
    refine X17.laload hx (j := (((y2 &&& (65535 : Int64)).toInt32) / (64 : Int32))) (v := (.long y18)) (by rw [e17]; exact (Ar18).1) (State.isArrayOf_alike hZ.alike (Ar18).2.1) (Ar18).2.2 hin18 hat18 (g := (mkF m 102 #[.val (.ref kq), .val (.int en), .val (.int ((y2 &&& (65535 : Int64)).toInt32)), .val (.int (((y2 &&& (65535 : Int64)).toInt32) / (64 : Int32)))] [(.int (((y2 &&& (65535 : Int64)).toInt32) / (64 : Int32))), (.ref aO), (.int (((y2 &&& (65535 : Int64)).toInt32) / (64 : Int32))), (.ref aO)])) rfl rfl (D d18_102) _ ?_
    refine s_lconst X17 hx (1 : Int64) (D d18_103) rfl ?_
    refine s_iloadN X17 hx (D d18_104) rfl ?_
    refine s_bipush X17 hx (64 : Int32) (D d18_105) rfl ?_
    refine s_irem X17 hx (D d18_107) (by decide) rfl ?_
    refine s_lshl X17 hx (D d18_108) rfl ?_
    refine X17.ldc2Long hx hown (mvT hZ (wd 108 rfl)) (g := (mkF m 109 #[.val (.ref kq), .val (.int en), .val (.int ((y2 &&& (65535 : Int64)).toInt32)), .val (.int (((y2 &&& (65535 : Int64)).toInt32) / (64 : Int32)))] [(.long ((1 : Int64) <<< ((((y2 &&& (65535 : Int64)).toInt32) % (64 : Int32)) &&& 0x3f).toInt64)), (.long y18), (.int (((y2 &&& (65535 : Int64)).toInt32) / (64 : Int32))), (.ref aO)])) rfl (D d18_109) _ ?_
    refine s_lxor X17 hx (D d18_112) rfl ?_
    refine s_land X17 hx (D d18_113) rfl ?_
    refine st20 _ ?_
    refine s_aloadN X20 hx (D d18_115) rfl rfl ?_
    refine st22 _ ?_
    refine s_iloadN X22 hx (D d18_119) rfl ?_
    refine X22.laload hx (j := (((y2 &&& (65535 : Int64)).toInt32) / (64 : Int32))) (v := (.long y23)) (by rw [e22]; exact (Ar23).1) (State.isArrayOf_alike hZ.alike (Ar23).2.1) (Ar23).2.2 hin23 hat23 (g := (mkF m 120 #[.val (.ref kq), .val (.int en), .val (.int ((y2 &&& (65535 : Int64)).toInt32)), .val (.int (((y2 &&& (65535 : Int64)).toInt32) / (64 : Int32)))] [(.int (((y2 &&& (65535 : Int64)).toInt32) / (64 : Int32))), (.ref aO)])) rfl rfl (D d18_120) _ ?_
    refine s_lconst X22 hx (0 : Int64) (D d18_121) rfl ?_
    refine s_lcmp X22 hx (D d18_122) rfl ?_
    exact Steps.refl _)
  by_cases hc25 : (lcmpW y23 (0 : Int64)) = (0 : Int32)
  · have f26 := ((F_kq_occupiedWords.other W8 (Or.inl (ne0_1 NDp))).other W20 (Or.inl (ne0_2 NDp)))
    obtain ⟨T27, X27, e27, st27⟩ := getF X22 hx hZ hown (host := "") (Or.inl (wd 16 rfl)) Via.refl e22 f26 (g := (mkF m 127 #[.val (.ref kq), .val (.int en), .val (.int ((y2 &&& (65535 : Int64)).toInt32)), .val (.int (((y2 &&& (65535 : Int64)).toInt32) / (64 : Int32)))] [(.ref kq)])) rfl rfl (D d18_127)
    have f29 := ((V_aW.other W8 (ne3_1 NDp)).other W20 (ne3_2 NDp))
    obtain ⟨cl28, Ar28, q28, S28, Nn28, H28, G28⟩ := id f29
    have hin28 : ¬ (((((y2 &&& (65535 : Int64)).toInt32) / (64 : Int32)) / (64 : Int32)) < 0 ∨ cl28.slots.size ≤ (((((y2 &&& (65535 : Int64)).toInt32) / (64 : Int32)) / (64 : Int32))).toNatClampNeg) := inb_of S28 (own_bkl (own_div64 (n := 16) (own_div64 (n := 1024) (own_bk y2))) (by decide))
    obtain ⟨y28, hy28⟩ : ∃ y, y = fW (((((y2 &&& (65535 : Int64)).toInt32) / (64 : Int32)) / (64 : Int32))).toNatClampNeg := ⟨_, rfl⟩
    have hat28 := ArfJ.get H28 hin28 hy28
    obtain ⟨cl30, Ar30, q30, S30, Nn30, H30, G30⟩ := id f29
    have hin30 : ¬ (((((y2 &&& (65535 : Int64)).toInt32) / (64 : Int32)) / (64 : Int32)) < 0 ∨ cl30.slots.size ≤ (((((y2 &&& (65535 : Int64)).toInt32) / (64 : Int32)) / (64 : Int32))).toNatClampNeg) := inb_of S30 (own_bkl (own_div64 (n := 16) (own_div64 (n := 1024) (own_bk y2))) (by decide))
    obtain ⟨T30, h30, X30, e30, W30, st30⟩ := stJ X27 hx hZ e27 Ar30 (j := ((((y2 &&& (65535 : Int64)).toInt32) / (64 : Int32)) / (64 : Int32))) hin30 (g := (mkF m 147 #[.val (.ref kq), .val (.int en), .val (.int ((y2 &&& (65535 : Int64)).toInt32)), .val (.int (((y2 &&& (65535 : Int64)).toInt32) / (64 : Int32)))] [(.long (y28 &&& (((1 : Int64) <<< (((((y2 &&& (65535 : Int64)).toInt32) / (64 : Int32)) % (64 : Int32)) &&& 0x3f).toInt64) ^^^ (-1 : Int64)))), (.int ((((y2 &&& (65535 : Int64)).toInt32) / (64 : Int32)) / (64 : Int32))), (.ref aW)])) rfl rfl (D d18_147)
    have V30 : ArfJ Z h30 aW kW (16 : Int32) (upd fW (((((y2 &&& (65535 : Int64)).toInt32) / (64 : Int32)) / (64 : Int32))).toNatClampNeg (y28 &&& (((1 : Int64) <<< (((((y2 &&& (65535 : Int64)).toInt32) / (64 : Int32)) % (64 : Int32)) &&& 0x3f).toInt64) ^^^ (-1 : Int64)))) := ArfJ.set Ar30 q30 S30 Nn30 H30 W30
    have N30 := Fr.snoc X30 N20 g_aW
    have Zn30 : n0 ≤ h30.size := Nat.le_trans Zn20 (Keep.of_wr W30).1
    have K30 : Keep h0 h30 [kq, aI, aF, aO, aW] := K20.wr W30 (Or.inl (List.mem_of_getElem? (i := 4) rfl))
    have O30 := O20.wr W30 g_aW
    have f31 := (((F_kq_inBucket.other W8 (Or.inl (ne0_1 NDp))).other W20 (Or.inl (ne0_2 NDp))).other W30 (Or.inl (ne0_3 NDp)))
    obtain ⟨T32, X32, e32, st32⟩ := getF X30 hx hZ hown (host := "") (Or.inl (wd 25 rfl)) Via.refl e30 f31 (g := (mkF m 149 #[.val (.ref kq), .val (.int en), .val (.int ((y2 &&& (65535 : Int64)).toInt32)), .val (.int (((y2 &&& (65535 : Int64)).toInt32) / (64 : Int32)))] [(.ref kq)])) rfl rfl (D d18_149)
    have f34 := (((V_aI.other W8 (ne7_1 NDp)).other W20 (ne7_2 NDp)).other W30 (ne7_3 NDp))
    obtain ⟨cl33, Ar33, q33, S33, Nn33, H33, G33⟩ := id f34
    have hin33 : ¬ (en < 0 ∨ cl33.slots.size ≤ (en).toNatClampNeg) := inb_of S33 (own_in2 he)
    obtain ⟨T33, h33, X33, e33, W33, st33⟩ := stZ X32 hx hZ e32 Ar33 (j := en) hin33 (g := (mkF m 154 #[.val (.ref kq), .val (.int en), .val (.int ((y2 &&& (65535 : Int64)).toInt32)), .val (.int (((y2 &&& (65535 : Int64)).toInt32) / (64 : Int32)))] [(.int (0 : Int32)), (.int en), (.ref aI)])) rfl rfl (D d18_154)
    have V33 : Arv Z h33 aI kI .boolean (2 : Int32) [(.int (s2 en 0 (0 : Int32) ib0)), (.int (s2 en 1 (0 : Int32) ib1))] (.int (0 : Int32)) := own_set2I (w := (0 : Int32)) Ar33 q33 S33 Nn33 H33 G33 rfl W33 he
    have N33 := Fr.snoc X33 N30 g_aI
    have Zn33 : n0 ≤ h33.size := Nat.le_trans Zn30 (Keep.of_wr W33).1
    have K33 : Keep h0 h33 [kq, aI, aF, aO, aW] := K30.wr W33 (Or.inl (List.mem_of_getElem? (i := 1) rfl))
    have O33 := O30.wr W33 g_aI
    have f35 := ((((F_kq_bucketed.other W8 (Or.inl (ne0_1 NDp))).other W20 (Or.inl (ne0_2 NDp))).other W30 (Or.inl (ne0_3 NDp))).other W33 (Or.inl (ne0_7 NDp)))
    obtain ⟨T36, X36, e36, st36⟩ := getF X33 hx hZ hown (host := "") (Or.inl (wd 56 rfl)) Via.refl e33 f35 (g := (mkF m 157 #[.val (.ref kq), .val (.int en), .val (.int ((y2 &&& (65535 : Int64)).toInt32)), .val (.int (((y2 &&& (65535 : Int64)).toInt32) / (64 : Int32)))] [(.ref kq), (.ref kq)])) rfl rfl (D d18_157)
    have f38 := ((((E_kq.wr W8).wr W20).wr W30).wr W33)
    obtain ⟨T37, h37, X37, e37, W37, st37⟩ := putF X36 hx hZ hown (host := "") (Or.inl (wd 56 rfl)) Via.refl e36 f35 f38 (Or.inl (wd 57 rfl)) (wd 1 rfl) (ty := .int) (by decide) rfl rfl (g := (mkF m 162 #[.val (.ref kq), .val (.int en), .val (.int ((y2 &&& (65535 : Int64)).toInt32)), .val (.int (((y2 &&& (65535 : Int64)).toInt32) / (64 : Int32)))] [(.int (bk - (1 : Int32))), (.ref kq)])) rfl rfl (D d18_162)
    have Fw37 : Fld Z h37 kq cQ "bucketed" "I" (.int (bk - (1 : Int32))) := Fld.same W37 f35
    have N37 := Fr.snoc X37 N33 g_kq
    have Zn37 : n0 ≤ h37.size := Nat.le_trans Zn33 (Keep.of_wr W37).1
    have K37 : Keep h0 h37 [kq, aI, aF, aO, aW] := K33.wr W37 (Or.inl (List.mem_of_getElem? (i := 0) rfl))
    have O37 := O33.wr W37 g_kq
    have ul39 := own_ul_a LI0 OK0 he hin hsol hy2 hy7 hy18 hy23 ((lw_eq _ _).mp hc25) hy28
    have f40 := (((((F_kq_keys.other W8 (Or.inl (ne0_1 NDp))).other W20 (Or.inl (ne0_2 NDp))).other W30 (Or.inl (ne0_3 NDp))).other W33 (Or.inl (ne0_7 NDp))).other W37 (Or.inr (slot_ne (Or.inr (wd 19 rfl)) (Or.inl (wd 57 rfl)) (by decide) (t := (.array .long)) (t' := .int) (by decide) (by decide))))
    have f41 := (((((F_kq_before.other W8 (Or.inl (ne0_1 NDp))).other W20 (Or.inl (ne0_2 NDp))).other W30 (Or.inl (ne0_3 NDp))).other W33 (Or.inl (ne0_7 NDp))).other W37 (Or.inr (slot_ne (Or.inr (wd 21 rfl)) (Or.inl (wd 57 rfl)) (by decide) (t := (.array .int)) (t' := .int) (by decide) (by decide))))
    have f42 := ((((f9.other W20 (Or.inl (ne0_2 NDp))).other W30 (Or.inl (ne0_3 NDp))).other W33 (Or.inl (ne0_7 NDp))).other W37 (Or.inr (slot_ne (Or.inr (wd 23 rfl)) (Or.inl (wd 57 rfl)) (by decide) (t := (.array .int)) (t' := .int) (by decide) (by decide))))
    have f43 := ((f31.other W33 (Or.inl (ne0_7 NDp))).other W37 (Or.inr (slot_ne (Or.inr (wd 26 rfl)) (Or.inl (wd 57 rfl)) (by decide) (t := (.array .boolean)) (t' := .int) (by decide) (by decide))))
    have f44 := ((((f13.other W20 (Or.inl (ne0_2 NDp))).other W30 (Or.inl (ne0_3 NDp))).other W33 (Or.inl (ne0_7 NDp))).other W37 (Or.inr (slot_ne (Or.inr (wd 12 rfl)) (Or.inl (wd 57 rfl)) (by decide) (t := (.array .int)) (t' := .int) (by decide) (by decide))))
    have f45 := (((f21.other W30 (Or.inl (ne0_3 NDp))).other W33 (Or.inl (ne0_7 NDp))).other W37 (Or.inr (slot_ne (Or.inr (wd 15 rfl)) (Or.inl (wd 57 rfl)) (by decide) (t := (.array .long)) (t' := .int) (by decide) (by decide))))
    have f46 := (((f26.other W30 (Or.inl (ne0_3 NDp))).other W33 (Or.inl (ne0_7 NDp))).other W37 (Or.inr (slot_ne (Or.inr (wd 17 rfl)) (Or.inl (wd 57 rfl)) (by decide) (t := (.array .long)) (t' := .int) (by decide) (by decide))))
    have f47 := (((((F_kq_further.other W8 (Or.inl (ne0_1 NDp))).other W20 (Or.inl (ne0_2 NDp))).other W30 (Or.inl (ne0_3 NDp))).other W33 (Or.inl (ne0_7 NDp))).other W37 (Or.inr (slot_ne (Or.inr (wd 50 rfl)) (Or.inl (wd 57 rfl)) (by decide) (t := (.object cH)) (t' := .int) (by decide) (by decide))))
    have f48 := (((((F_kq_floor.other W8 (Or.inl (ne0_1 NDp))).other W20 (Or.inl (ne0_2 NDp))).other W30 (Or.inl (ne0_3 NDp))).other W33 (Or.inl (ne0_7 NDp))).other W37 (Or.inr (slot_ne (Or.inl (wd 72 rfl)) (Or.inl (wd 57 rfl)) (by decide) (t := .long) (t' := .int) (by decide) (by decide))))
    have f49 := (V33.other W37 (ne7_0 NDp))
    have f50 := ((((V8.other W20 (ne1_2 NDp)).other W30 (ne1_3 NDp)).other W33 (ne1_7 NDp)).other W37 (ne1_0 NDp))
    have f51 := (((V20.other W30 (ne2_3 NDp)).other W33 (ne2_7 NDp)).other W37 (ne2_0 NDp))
    have f52 := ((V30.other W33 (ne3_7 NDp)).other W37 (ne3_0 NDp))
    obtain ⟨fs, hr, hrun, hended, hW, hsame⟩ := X37.leave (v := none) (fun _ => rfl)
    refine ⟨_, _, pre0 _ ?_, hrun, hended, _, _, rfl, ?_, ⟨_, rfl⟩, hW, hsame.mono (by decide) (by decide)⟩
    · refine cs24.trans ?_
      refine s_ifNo X22 hx (D d18_123) ((if0 _ _).trans (teq hc25).2) ?_
      refine s_aloadN X22 hx (D d18_126) rfl rfl ?_
      refine st27 _ ?_
      refine s_iloadN X27 hx (D d18_130) rfl ?_
      refine s_bipush X27 hx (64 : Int32) (D d18_131) rfl ?_
      refine s_idiv X27 hx (D d18_133) (by decide) rfl ?_
      refine s_dup2 X27 hx (D d18_134) rfl rfl ?_
      refine X27.laload hx (j := ((((y2 &&& (65535 : Int64)).toInt32) / (64 : Int32)) / (64 : Int32))) (v := (.long y28)) (by rw [e27]; exact (Ar28).1) (State.isArrayOf_alike hZ.alike (Ar28).2.1) (Ar28).2.2 hin28 hat28 (g := (mkF m 135 #[.val (.ref kq), .val (.int en), .val (.int ((y2 &&& (65535 : Int64)).toInt32)), .val (.int (((y2 &&& (65535 : Int64)).toInt32) / (64 : Int32)))] [(.int ((((y2 &&& (65535 : Int64)).toInt32) / (64 : Int32)) / (64 : Int32))), (.ref aW), (.int ((((y2 &&& (65535 : Int64)).toInt32) / (64 : Int32)) / (64 : Int32))), (.ref aW)])) rfl rfl (D d18_135) _ ?_
      refine s_lconst X27 hx (1 : Int64) (D d18_136) rfl ?_
      refine s_iloadN X27 hx (D d18_137) rfl ?_
      refine s_bipush X27 hx (64 : Int32) (D d18_138) rfl ?_
      refine s_irem X27 hx (D d18_140) (by decide) rfl ?_
      refine s_lshl X27 hx (D d18_141) rfl ?_
      refine X27.ldc2Long hx hown (mvT hZ (wd 108 rfl)) (g := (mkF m 142 #[.val (.ref kq), .val (.int en), .val (.int ((y2 &&& (65535 : Int64)).toInt32)), .val (.int (((y2 &&& (65535 : Int64)).toInt32) / (64 : Int32)))] [(.long ((1 : Int64) <<< (((((y2 &&& (65535 : Int64)).toInt32) / (64 : Int32)) % (64 : Int32)) &&& 0x3f).toInt64)), (.long y28), (.int ((((y2 &&& (65535 : Int64)).toInt32) / (64 : Int32)) / (64 : Int32))), (.ref aW)])) rfl (D d18_142) _ ?_
      refine s_lxor X27 hx (D d18_145) rfl ?_
      refine s_land X27 hx (D d18_146) rfl ?_
      refine st30 _ ?_
      refine s_aloadN X30 hx (D d18_148) rfl rfl ?_
      refine st32 _ ?_
      refine s_iloadN X32 hx (D d18_152) rfl ?_
      refine s_iconst X32 hx (0 : Int32) (D d18_153) rfl ?_
      refine st33 _ ?_
      refine s_aloadN X33 hx (D d18_155) rfl rfl ?_
      refine s_dup X33 hx (D d18_156) rfl ?_
      refine st36 _ ?_
      refine s_iconst X36 hx (1 : Int32) (D d18_160) rfl ?_
      refine s_isub X36 hx (D d18_161) rfl ?_
      refine st37 _ ?_
      exact X37.returnOut hx Bd.returns (D d18_165) hr
    · show Q_rm_kunlink1 Z kq en aF aO aW aK aB aA aI hp lo aE aP kK kB kA kI kF kO kW bk ib0 ib1 bf0 bf1 af0 af1 kk0 kk1 fF fO fW h0 n0 _ T37.heap _
      rw [e37]
      exact ⟨(upd fF (((y2 &&& (65535 : Int64)).toInt32)).toNatClampNeg y7), (upd fO ((((y2 &&& (65535 : Int64)).toInt32) / (64 : Int32))).toNatClampNeg (y18 &&& (((1 : Int64) <<< ((((y2 &&& (65535 : Int64)).toInt32) % (64 : Int32)) &&& 0x3f).toInt64) ^^^ (-1 : Int64)))), (upd fW (((((y2 &&& (65535 : Int64)).toInt32) / (64 : Int32)) / (64 : Int32))).toNatClampNeg (y28 &&& (((1 : Int64) <<< (((((y2 &&& (65535 : Int64)).toInt32) / (64 : Int32)) % (64 : Int32)) &&& 0x3f).toInt64) ^^^ (-1 : Int64)))), rfl, N37, K37, f40, f41, f42, f43, f44, f45, f46, f47, Fw37, f48, f49, f50, f51, f52, ul39⟩
  · have f53 := ((F_kq_inBucket.other W8 (Or.inl (ne0_1 NDp))).other W20 (Or.inl (ne0_2 NDp)))
    obtain ⟨T54, X54, e54, st54⟩ := getF X22 hx hZ hown (host := "") (Or.inl (wd 25 rfl)) Via.refl e22 f53 (g := (mkF m 149 #[.val (.ref kq), .val (.int en), .val (.int ((y2 &&& (65535 : Int64)).toInt32)), .val (.int (((y2 &&& (65535 : Int64)).toInt32) / (64 : Int32)))] [(.ref kq)])) rfl rfl (D d18_149)
    have f56 := ((V_aI.other W8 (ne7_1 NDp)).other W20 (ne7_2 NDp))
    obtain ⟨cl55, Ar55, q55, S55, Nn55, H55, G55⟩ := id f56
    have hin55 : ¬ (en < 0 ∨ cl55.slots.size ≤ (en).toNatClampNeg) := inb_of S55 (own_in2 he)
    obtain ⟨T55, h55, X55, e55, W55, st55⟩ := stZ X54 hx hZ e54 Ar55 (j := en) hin55 (g := (mkF m 154 #[.val (.ref kq), .val (.int en), .val (.int ((y2 &&& (65535 : Int64)).toInt32)), .val (.int (((y2 &&& (65535 : Int64)).toInt32) / (64 : Int32)))] [(.int (0 : Int32)), (.int en), (.ref aI)])) rfl rfl (D d18_154)
    have V55 : Arv Z h55 aI kI .boolean (2 : Int32) [(.int (s2 en 0 (0 : Int32) ib0)), (.int (s2 en 1 (0 : Int32) ib1))] (.int (0 : Int32)) := own_set2I (w := (0 : Int32)) Ar55 q55 S55 Nn55 H55 G55 rfl W55 he
    have N55 := Fr.snoc X55 N20 g_aI
    have Zn55 : n0 ≤ h55.size := Nat.le_trans Zn20 (Keep.of_wr W55).1
    have K55 : Keep h0 h55 [kq, aI, aF, aO, aW] := K20.wr W55 (Or.inl (List.mem_of_getElem? (i := 1) rfl))
    have O55 := O20.wr W55 g_aI
    have f57 := (((F_kq_bucketed.other W8 (Or.inl (ne0_1 NDp))).other W20 (Or.inl (ne0_2 NDp))).other W55 (Or.inl (ne0_7 NDp)))
    obtain ⟨T58, X58, e58, st58⟩ := getF X55 hx hZ hown (host := "") (Or.inl (wd 56 rfl)) Via.refl e55 f57 (g := (mkF m 157 #[.val (.ref kq), .val (.int en), .val (.int ((y2 &&& (65535 : Int64)).toInt32)), .val (.int (((y2 &&& (65535 : Int64)).toInt32) / (64 : Int32)))] [(.ref kq), (.ref kq)])) rfl rfl (D d18_157)
    have f60 := (((E_kq.wr W8).wr W20).wr W55)
    obtain ⟨T59, h59, X59, e59, W59, st59⟩ := putF X58 hx hZ hown (host := "") (Or.inl (wd 56 rfl)) Via.refl e58 f57 f60 (Or.inl (wd 57 rfl)) (wd 1 rfl) (ty := .int) (by decide) rfl rfl (g := (mkF m 162 #[.val (.ref kq), .val (.int en), .val (.int ((y2 &&& (65535 : Int64)).toInt32)), .val (.int (((y2 &&& (65535 : Int64)).toInt32) / (64 : Int32)))] [(.int (bk - (1 : Int32))), (.ref kq)])) rfl rfl (D d18_162)
    have Fw59 : Fld Z h59 kq cQ "bucketed" "I" (.int (bk - (1 : Int32))) := Fld.same W59 f57
    have N59 := Fr.snoc X59 N55 g_kq
    have Zn59 : n0 ≤ h59.size := Nat.le_trans Zn55 (Keep.of_wr W59).1
    have K59 : Keep h0 h59 [kq, aI, aF, aO, aW] := K55.wr W59 (Or.inl (List.mem_of_getElem? (i := 0) rfl))
    have O59 := O55.wr W59 g_kq
    have ul61 := own_ul_b LI0 OK0 he hin hsol hy2 hy7 hy18 hy23 (fun z => hc25 ((lw_eq _ _).mpr z))
    have f62 := ((((F_kq_keys.other W8 (Or.inl (ne0_1 NDp))).other W20 (Or.inl (ne0_2 NDp))).other W55 (Or.inl (ne0_7 NDp))).other W59 (Or.inr (slot_ne (Or.inr (wd 19 rfl)) (Or.inl (wd 57 rfl)) (by decide) (t := (.array .long)) (t' := .int) (by decide) (by decide))))
    have f63 := ((((F_kq_before.other W8 (Or.inl (ne0_1 NDp))).other W20 (Or.inl (ne0_2 NDp))).other W55 (Or.inl (ne0_7 NDp))).other W59 (Or.inr (slot_ne (Or.inr (wd 21 rfl)) (Or.inl (wd 57 rfl)) (by decide) (t := (.array .int)) (t' := .int) (by decide) (by decide))))
    have f64 := (((f9.other W20 (Or.inl (ne0_2 NDp))).other W55 (Or.inl (ne0_7 NDp))).other W59 (Or.inr (slot_ne (Or.inr (wd 23 rfl)) (Or.inl (wd 57 rfl)) (by decide) (t := (.array .int)) (t' := .int) (by decide) (by decide))))
    have f65 := ((f53.other W55 (Or.inl (ne0_7 NDp))).other W59 (Or.inr (slot_ne (Or.inr (wd 26 rfl)) (Or.inl (wd 57 rfl)) (by decide) (t := (.array .boolean)) (t' := .int) (by decide) (by decide))))
    have f66 := (((f13.other W20 (Or.inl (ne0_2 NDp))).other W55 (Or.inl (ne0_7 NDp))).other W59 (Or.inr (slot_ne (Or.inr (wd 12 rfl)) (Or.inl (wd 57 rfl)) (by decide) (t := (.array .int)) (t' := .int) (by decide) (by decide))))
    have f67 := ((f21.other W55 (Or.inl (ne0_7 NDp))).other W59 (Or.inr (slot_ne (Or.inr (wd 15 rfl)) (Or.inl (wd 57 rfl)) (by decide) (t := (.array .long)) (t' := .int) (by decide) (by decide))))
    have f68 := ((((F_kq_occupiedWords.other W8 (Or.inl (ne0_1 NDp))).other W20 (Or.inl (ne0_2 NDp))).other W55 (Or.inl (ne0_7 NDp))).other W59 (Or.inr (slot_ne (Or.inr (wd 17 rfl)) (Or.inl (wd 57 rfl)) (by decide) (t := (.array .long)) (t' := .int) (by decide) (by decide))))
    have f69 := ((((F_kq_further.other W8 (Or.inl (ne0_1 NDp))).other W20 (Or.inl (ne0_2 NDp))).other W55 (Or.inl (ne0_7 NDp))).other W59 (Or.inr (slot_ne (Or.inr (wd 50 rfl)) (Or.inl (wd 57 rfl)) (by decide) (t := (.object cH)) (t' := .int) (by decide) (by decide))))
    have f70 := ((((F_kq_floor.other W8 (Or.inl (ne0_1 NDp))).other W20 (Or.inl (ne0_2 NDp))).other W55 (Or.inl (ne0_7 NDp))).other W59 (Or.inr (slot_ne (Or.inl (wd 72 rfl)) (Or.inl (wd 57 rfl)) (by decide) (t := .long) (t' := .int) (by decide) (by decide))))
    have f71 := (V55.other W59 (ne7_0 NDp))
    have f72 := (((V8.other W20 (ne1_2 NDp)).other W55 (ne1_7 NDp)).other W59 (ne1_0 NDp))
    have f73 := ((V20.other W55 (ne2_7 NDp)).other W59 (ne2_0 NDp))
    have f74 := ((((V_aW.other W8 (ne3_1 NDp)).other W20 (ne3_2 NDp)).other W55 (ne3_7 NDp)).other W59 (ne3_0 NDp))
    obtain ⟨fs, hr, hrun, hended, hW, hsame⟩ := X59.leave (v := none) (fun _ => rfl)
    refine ⟨_, _, pre0 _ ?_, hrun, hended, _, _, rfl, ?_, ⟨_, rfl⟩, hW, hsame.mono (by decide) (by decide)⟩
    · refine cs24.trans ?_
      refine s_ifYes X22 hx 148 (D d18_123) ((if0 _ _).trans (feq hc25).2) (of_decide_eq_true rfl) rfl ?_
      refine s_aloadN X22 hx (D d18_148) rfl rfl ?_
      refine st54 _ ?_
      refine s_iloadN X54 hx (D d18_152) rfl ?_
      refine s_iconst X54 hx (0 : Int32) (D d18_153) rfl ?_
      refine st55 _ ?_
      refine s_aloadN X55 hx (D d18_155) rfl rfl ?_
      refine s_dup X55 hx (D d18_156) rfl ?_
      refine st58 _ ?_
      refine s_iconst X58 hx (1 : Int32) (D d18_160) rfl ?_
      refine s_isub X58 hx (D d18_161) rfl ?_
      refine st59 _ ?_
      exact X59.returnOut hx Bd.returns (D d18_165) hr
    · show Q_rm_kunlink1 Z kq en aF aO aW aK aB aA aI hp lo aE aP kK kB kA kI kF kO kW bk ib0 ib1 bf0 bf1 af0 af1 kk0 kk1 fF fO fW h0 n0 _ T59.heap _
      rw [e59]
      exact ⟨(upd fF (((y2 &&& (65535 : Int64)).toInt32)).toNatClampNeg y7), (upd fO ((((y2 &&& (65535 : Int64)).toInt32) / (64 : Int32))).toNatClampNeg (y18 &&& (((1 : Int64) <<< ((((y2 &&& (65535 : Int64)).toInt32) % (64 : Int32)) &&& 0x3f).toInt64) ^^^ (-1 : Int64)))), fW, rfl, N59, K59, f62, f63, f64, f65, f66, f67, f68, f69, Fw59, f70, f71, f72, f73, f74, ul61⟩
theorem own_k1 {en y b n e0 e1 p0 p1 i0 i1 m0 m1 : Int32} (h : KI b n e0 e1 p0 p1 i0 i1 m0 m1) (he : I2 en) (hy : y = g2 en i0 i1) (hi : ¬ y = 0) : g2 en i0 i1 = 1 := by
  rw [hy] at hi
  rcases he with rfl | rfl
  · rw [own_g0] at hi ⊢; exact (own_mb_1 h.2.2.1 hi).1
  · rw [own_g1] at hi ⊢; exact (own_mb_1 h.2.2.2 hi).1
theorem d8_0 : decode prog_39_method_6_code 0 = .ok (.aload_n 0, 1) := by decide +kernel
theorem d8_1 : decode prog_39_method_6_code 1 = .ok (.getfield 32, 3) := by decide +kernel
theorem d8_4 : decode prog_39_method_6_code 4 = .ok (.iload_n 1, 1) := by decide +kernel
theorem d8_5 : decode prog_39_method_6_code 5 = .ok (.baload, 1) := by decide +kernel
theorem d8_6 : decode prog_39_method_6_code 6 = .ok (.ifCond .eq 11, 3) := by decide +kernel
theorem d8_9 : decode prog_39_method_6_code 9 = .ok (.aload_n 0, 1) := by decide +kernel
theorem d8_10 : decode prog_39_method_6_code 10 = .ok (.iload_n 1, 1) := by decide +kernel
theorem d8_11 : decode prog_39_method_6_code 11 = .ok (.invokevirtual 91, 3) := by decide +kernel
theorem d8_14 : decode prog_39_method_6_code 14 = .ok (.goto 11, 3) := by decide +kernel
theorem d8_17 : decode prog_39_method_6_code 17 = .ok (.aload_n 0, 1) := by decide +kernel
theorem d8_18 : decode prog_39_method_6_code 18 = .ok (.getfield 50, 3) := by decide +kernel
theorem d8_21 : decode prog_39_method_6_code 21 = .ok (.iload_n 1, 1) := by decide +kernel
theorem d8_22 : decode prog_39_method_6_code 22 = .ok (.invokevirtual 94, 3) := by decide +kernel
theorem d8_25 : decode prog_39_method_6_code 25 = .ok (.return_, 1) := by decide +kernel
theorem nn66 {kq aF aO aW aK aB aA aI hp lo aE aP : Addr} (h : List.Nodup [kq, aF, aO, aW, aK, aB, aA, aI, hp, lo, aE, aP]) : kq ∉ [hp, aE, aP] := own_nin h 0 [8, 10, 11] rfl rfl (by decide)
theorem nn67 {kq aF aO aW aK aB aA aI hp lo aE aP : Addr} (h : List.Nodup [kq, aF, aO, aW, aK, aB, aA, aI, hp, lo, aE, aP]) : aI ∉ [hp, aE, aP] := own_nin h 7 [8, 10, 11] rfl rfl (by decide)
theorem nn68 {kq aF aO aW aK aB aA aI hp lo aE aP : Addr} (h : List.Nodup [kq, aF, aO, aW, aK, aB, aA, aI, hp, lo, aE, aP]) : aF ∉ [hp, aE, aP] := own_nin h 1 [8, 10, 11] rfl rfl (by decide)
theorem nn69 {kq aF aO aW aK aB aA aI hp lo aE aP : Addr} (h : List.Nodup [kq, aF, aO, aW, aK, aB, aA, aI, hp, lo, aE, aP]) : aO ∉ [hp, aE, aP] := own_nin h 2 [8, 10, 11] rfl rfl (by decide)
theorem nn70 {kq aF aO aW aK aB aA aI hp lo aE aP : Addr} (h : List.Nodup [kq, aF, aO, aW, aK, aB, aA, aI, hp, lo, aE, aP]) : aW ∉ [hp, aE, aP] := own_nin h 3 [8, 10, 11] rfl rfl (by decide)
theorem nn71 {kq aF aO aW aK aB aA aI hp lo aE aP : Addr} (h : List.Nodup [kq, aF, aO, aW, aK, aB, aA, aI, hp, lo, aE, aP]) : hp ∉ [kq, aI, aF, aO, aW] := own_nin h 8 [0, 7, 1, 2, 3] rfl rfl (by decide)
theorem nn72 {kq aF aO aW aK aB aA aI hp lo aE aP : Addr} (h : List.Nodup [kq, aF, aO, aW, aK, aB, aA, aI, hp, lo, aE, aP]) : aE ∉ [kq, aI, aF, aO, aW] := own_nin h 10 [0, 7, 1, 2, 3] rfl rfl (by decide)
theorem nn73 {kq aF aO aW aK aB aA aI hp lo aE aP : Addr} (h : List.Nodup [kq, aF, aO, aW, aK, aB, aA, aI, hp, lo, aE, aP]) : aP ∉ [kq, aI, aF, aO, aW] := own_nin h 11 [0, 7, 1, 2, 3] rfl rfl (by decide)
theorem ef_rm_kremove1 (m : MethodId) (x0 : Addr) (x1 : Int32) : entryFrame m #[(.ref x0), (.int x1)] 2 = mkF m 0 #[.val (.ref x0), .val (.int x1)] [] := by first | (simp [entryFrame, mkF, argsToLocals, Value.category]; done) | rfl
def Q_rm_kremove1 (Z : State) (kq : Addr) (en : Int32) (aF aO aW aK aB aA aI hp lo aE aP : Addr) (cK kK kB kA kI kF kO kW kE kP : ClassId) (bk ib0 ib1 bf0 bf1 af0 af1 sz en0 en1 po0 po1 mm0 mm1 : Int32) (kk0 kk1 : Int64) (fF : Nat → Int32) (fO fW : Nat → Int64) (h0 : Heap) (n0 : Nat) (v : Option Value) (h : Heap) (L : List Loc) : Prop := ∃ (ve0 : Int32) (ve1 : Int32) (vp0 : Int32) (vp1 : Int32) (vz_ : Int32) (vb_ : Int32) (vi0 : Int32) (vi1 : Int32) (vF : Nat → Int32) (vO : Nat → Int64) (vW : Nat → Int64), v = none ∧ Fr n0 L ∧ Keep h0 h [kq, aI, aF, aO, aW, hp, aE, aP] ∧ Fld Z h kq cQ "keys" "[J" (.ref aK) ∧ Fld Z h kq cQ "before" "[I" (.ref aB) ∧ Fld Z h kq cQ "after" "[I" (.ref aA) ∧ Fld Z h kq cQ "inBucket" "[Z" (.ref aI) ∧ Fld Z h kq cQ "firsts" "[I" (.ref aF) ∧ Fld Z h kq cQ "occupied" "[J" (.ref aO) ∧ Fld Z h kq cQ "occupiedWords" "[J" (.ref aW) ∧ Fld Z h kq cQ "further" "Lcom/example/leasewise/leasewise/IndexedHeap;" (.ref hp) ∧ Fld Z h kq cQ "bucketed" "I" (.int vb_) ∧ Fld Z h kq cQ "floor" "J" (.long (0 : Int64)) ∧ Arv Z h aI kI .boolean (2 : Int32) [(.int vi0), (.int vi1)] (.int (0 : Int32)) ∧ ArfI Z h aF kF (65536 : Int32) vF ∧ ArfJ Z h aO kO (1024 : Int32) vO ∧ ArfJ Z h aW kW (16 : Int32) vW ∧ Fld Z h hp cH "order" "Lcom/example/leasewise/leasewise/IndexedHeap$Order;" (.ref lo) ∧ Fld Z h hp cH "entries" "[I" (.ref aE) ∧ Fld Z h hp cH "positions" "[I" (.ref aP) ∧ Fld Z h hp cH "size" "I" (.int vz_) ∧ Arv Z h aE kE .int (2 : Int32) [(.int ve0), (.int ve1)] (.int (0 : Int32)) ∧ Arv Z h aP kP .int (2 : Int32) [(.int vp0), (.int vp1)] (.int (-1 : Int32)) ∧ (KI vb_ vz_ ve0 ve1 vp0 vp1 vi0 vi1 (s2 en 0 (0 : Int32) mm0) (s2 en 1 (0 : Int32) mm1)) ∧ (LI vF vi0 vi1 kk0 kk1 bf0 bf1 af0 af1 ∧ OKB vF vO vW)
set_option maxRecDepth 65536 in
set_option maxHeartbeats 40000000 in
theorem rm_kremove1 (l : Launch) (Z : State) (a0 : Array Value) (hw : ∀ d ∈ tables_1, d.before a0 Z = true) (ws : List Jvm.Cond) (kq : Addr) (en : Int32) (aF aO aW aK aB aA aI hp lo aE aP : Addr) (cK kK kB kA kI kF kO kW kE kP : ClassId) (bk ib0 ib1 bf0 bf1 af0 af1 sz en0 en1 po0 po1 mm0 mm1 : Int32) (kk0 kk1 : Int64) (fF : Nat → Int32) (fO fW : Nat → Int64) (h0 : Heap) (n0 : Nat) (O0 : Old Z n0 h0) (E_kq : Exa Z h0 kq cQ) (F_kq_keys : Fld Z h0 kq cQ "keys" "[J" (.ref aK)) (F_kq_before : Fld Z h0 kq cQ "before" "[I" (.ref aB)) (F_kq_after : Fld Z h0 kq cQ "after" "[I" (.ref aA)) (F_kq_inBucket : Fld Z h0 kq cQ "inBucket" "[Z" (.ref aI)) (F_kq_firsts : Fld Z h0 kq cQ "firsts" "[I" (.ref aF)) (F_kq_occupied : Fld Z h0 kq cQ "occupied" "[J" (.ref aO)) (F_kq_occupiedWords : Fld Z h0 kq cQ "occupiedWords" "[J" (.ref aW)) (F_kq_further : Fld Z h0 kq cQ "further" "Lcom/example/leasewise/leasewise/IndexedHeap;" (.ref hp)) (F_kq_bucketed : Fld Z h0 kq cQ "bucketed" "I" (.int bk)) (F_kq_floor : Fld Z h0 kq cQ "floor" "J" (.long (0 : Int64))) (V_aK : Arv Z h0 aK kK .long (2 : Int32) [(.long kk0), (.long kk1)] (.long (0 : Int64))) (V_aB : Arv Z h0 aB kB .int (2 : Int32) [(.int bf0), (.int bf1)] (.int (0 : Int32))) (V_aA : Arv Z h0 aA kA .int (2 : Int32) [(.int af0), (.int af1)] (.int (0 : Int32))) (V_aI : Arv Z h0 aI kI .boolean (2 : Int32) [(.int ib0), (.int ib1)] (.int (0 : Int32))) (E_hp : Exa Z h0 hp cH) (F_hp_order : Fld Z h0 hp cH "order" "Lcom/example/leasewise/leasewise/IndexedHeap$Order;" (.ref lo)) (F_hp_entries : Fld Z h0 hp cH "entries" "[I" (.ref aE)) (F_hp_positions : Fld Z h0 hp cH "positions" "[I" (.ref aP)) (F_hp_size : Fld Z h0 hp cH "size" "I" (.int sz)) (V_aE : Arv Z h0 aE kE .int (2 : Int32) [(.int en0), (.int en1)] (.int (0 : Int32))) (V_aP : Arv Z h0 aP kP .int (2 : Int32) [(.int po0), (.int po1)] (.int (-1 : Int32))) (MDc : Jvm.LamKit.Made Z cQ sgm cK) (NDp : List.Nodup [kq, aF, aO, aW, aK, aB, aA, aI, hp, lo, aE, aP]) (g_kq : n0 ≤ kq) (g_aI : n0 ≤ aI) (g_aF : n0 ≤ aF) (g_aO : n0 ≤ aO) (g_aW : n0 ≤ aW) (g_hp : n0 ≤ hp) (g_aE : n0 ≤ aE) (g_aP : n0 ≤ aP) (KI0 : KI bk sz en0 en1 po0 po1 ib0 ib1 mm0 mm1) (LI0 : LI fF ib0 ib1 kk0 kk1 bf0 bf1 af0 af1) (OK0 : OKB fF fO fW) (hso : g2 en ib0 ib1 = 1 → ot en ib0 ib1 = 0) (he : I2 en) (Y_lo : LamO h0 lo cK kq) (V_aF : ArfI Z h0 aF kF (65536 : Int32) fF) (V_aO : ArfJ Z h0 aO kO (1024 : Int32) fO) (V_aW : ArfJ Z h0 aW kW (16 : Int32) fW) :
    MetFree l (⟨cQ, "remove", "(I)V"⟩ : MethodName) (head1 (Jvm.Cond.code (⟨cQ, "remove", "(I)V"⟩ : MethodName) prog_39_method_6_code 2 none :: ws) ({ frames := 4, cells := 0, slots := 0, locals := 60 } : Room)) (fun a U => a = #[(.ref kq), (.int en)] ∧ Z.WarmedH U.vm ∧ U.heap = h0) (fun _ _ _ _ _ => True) (fun _ U o U' => ∃ v L, o = .returned v ∧ Q_rm_kremove1 Z kq en aF aO aW aK aB aA aI hp lo aE aP cK kK kB kA kI kF kO kW kE kP bk ib0 ib1 bf0 bf1 af0 af1 sz en0 en1 po0 po1 mm0 mm1 kk0 kk1 fF fO fW h0 n0 v U'.heap L ∧ FrameEnd U o U' L ({ frames := 4, cells := 0, slots := 0, locals := 60 } : Room).cells ({ frames := 4, cells := 0, slots := 0, locals := 60 } : Room).slots) := by
  refine MetFree.of_bodySF (plainFor_of_name pn_2) hisR ?_
  intro p e s m args below meth c s₁ Bd hml0 hP hK
  obtain ⟨rfl, hZH, hh⟩ := hP
  have hZ := hZH.wide
  have hx := Bd.exec
  have hby := Bd.bytes
  have D := fun {pc : Nat} {r : Except ClassFile.DecodeError (ClassFile.Instr × Nat)} (q : decode prog_39_method_6_code pc = r) => hb (pc := pc) hby q
  have hml : c.maxLocals = 2 := hml0
  have hown : s.vm.findClass cQ = some m.cls := findClass_of_methodNamed Bd.named
  have hnm := (name_of_methodNamed Bd.named Bd.method).1
  have X0 : Stand p l e ({ frames := 4, cells := 0, slots := 0, locals := 60 } : Room) s m #[(.ref kq), (.int en)] below meth c s₁ [] 0 0 := Stand.of_body Bd
  have e0 : s₁.heap = h0 := by rw [← hh, Bd.state]; rfl
  have N0 := Fr.nil n0
  have pre0 : ∀ t, Steps p.tables e below (s₁.setTop (mkF m 0 #[.val (.ref kq), .val (.int en)] [])) t → Steps p.tables e below (s₁.setTop (entryFrame m #[(.ref kq), (.int en)] 2)) t := fun t k => castTop (ef_rm_kremove1 m (kq) (en)) k
  have wd := fun {d : Jvm.Cond} (i : Nat) (h : tables_1[i]? = some d) => hw d (List.mem_of_getElem? h)
  obtain ⟨T1, X1, e1, st1⟩ := getF X0 hx hZ hown (host := "") (Or.inl (wd 25 rfl)) Via.refl e0 F_kq_inBucket (g := (mkF m 1 #[.val (.ref kq), .val (.int en)] [(.ref kq)])) rfl rfl (D d8_1)
  obtain ⟨cl2, Ar2, q2, S2, Nn2, H2, G2⟩ := id V_aI
  have hin2 : ¬ (en < 0 ∨ cl2.slots.size ≤ (en).toNatClampNeg) := inb_of S2 (own_in2 he)
  obtain ⟨y2, hy2⟩ : ∃ y, y = g2 en ib0 ib1 := ⟨_, rfl⟩
  have hat2 := own_get2I H2 hin2 he hy2
  have cs3 : Steps p.tables e below (s₁.setTop (mkF m 0 #[.val (.ref kq), .val (.int en)] [])) (T1.setTop (mkF m 6 #[.val (.ref kq), .val (.int en)] [(.int y2)])) := (by
    refine s_aloadN X0 hx (D d8_0) rfl rfl ?_
    refine st1 _ ?_
    refine s_iloadN X1 hx (D d8_4) rfl ?_
    refine X1.baloadBooleans hx (j := en) (v := (.int y2)) (by rw [e1]; exact (Ar2).1) (State.isArrayOf_alike hZ.alike (Ar2).2.1) (Ar2).2.2 hin2 hat2 (g := (mkF m 5 #[.val (.ref kq), .val (.int en)] [(.int en), (.ref aI)])) rfl rfl (D d8_5) _ ?_
    exact Steps.refl _)
  by_cases hc4 : y2 = (0 : Int32)
  · obtain ⟨T5, X5, e5, st5⟩ := getF X1 hx hZ hown (host := "") (Or.inl (wd 49 rfl)) Via.refl e1 F_kq_further (g := (mkF m 18 #[.val (.ref kq), .val (.int en)] [(.ref kq)])) rfl rfl (D d8_18)
    obtain ⟨cq6, kq6, q6a, q6b, q6c⟩ := isOf hZ e5 E_hp
    obtain ⟨_, _, ⟨T6, L6, k6, n6⟩, -, X6, ⟨Lc6, hQ6, l6, y6, z6⟩, st6⟩ := X5.virtualBack hx (y := (⟨cH, "remove", "(I)V"⟩ : MethodName)) (z := (⟨cH, "remove", "(I)V"⟩ : MethodName)) hown (mvT hZ (wd 78 rfl)) (mvT hZ (wd 79 rfl)) (notFace_of_selects (args := #[]) (mvT hZ (wd 81 rfl))) (mvT hZ (wd 81 rfl)) (mvT hZ (wd 80 rfl)) (by decide) (own_backH (W := 0) (rm_hremove l Z a0 hw [] hp en kq aF aO aW aK aB aA aI lo aE aP cK kK kE kP sz en0 en1 po0 po1 h0 n0 O0 E_hp F_hp_order F_hp_entries F_hp_positions F_hp_size E_kq F_kq_keys MDc V_aE V_aP g_hp g_aE g_aP NDp KI0.1 he (Arp.of V_aK (own_pj2J (own_PJ _) (own_PJ _) (own_PJ _))) Y_lo) hZH (wd 82 rfl) (wd 33 rfl) (by decide) (by decide)) q6a q6c (g := (mkF m 22 #[.val (.ref kq), .val (.int en)] [(.int en), (.ref hp)])) rfl (by rw [hml]; rfl) (Steps.refl _) (argsL := [(.int en)]) (rest := []) (lenOf pd_4 rfl) rfl (by show 2 * 0 + _ ≤ _; exact Nat.le_of_eq rfl) (D d8_22) (fun _ _ => ⟨rfl, e5, (by decide : 0 + 0 ≤ _), (by decide : 0 + 0 ≤ _)⟩)
    dsimp only [Pt.U, Pt.locs, Pt.cells, Pt.slots] at X6 l6 y6 z6 st6 hQ6
    subst l6 y6 z6
    obtain ⟨ve0_6, ve1_6, vp0_6, vp1_6, vz__6, rfl, N6q, K6, Q6_0, Q6_1, Q6_2, Q6_3, Q6_4, Q6_5, Q6_6, Q6_7⟩ := hQ6
    have O6 := O0.keep K6 (allS g_hp (allS g_aE (allS g_aP all0)))
    have KK6 : Keep h0 T6.heap [kq, aI, aF, aO, aW, hp, aE, aP] := (Keep.refl h0 [kq, aI, aF, aO, aW, hp, aE, aP]).trans K6 (allS (own_mem 5 rfl) (allS (own_mem 6 rfl) (allS (own_mem 7 rfl) all0)))
    have N6 := Fr.app N0 N6q
    have f7 := (F_kq_keys.keep K6 (nn66 NDp))
    have f8 := (F_kq_before.keep K6 (nn66 NDp))
    have f9 := (F_kq_after.keep K6 (nn66 NDp))
    have f10 := (F_kq_inBucket.keep K6 (nn66 NDp))
    have f11 := (F_kq_firsts.keep K6 (nn66 NDp))
    have f12 := (F_kq_occupied.keep K6 (nn66 NDp))
    have f13 := (F_kq_occupiedWords.keep K6 (nn66 NDp))
    have f14 := (F_kq_further.keep K6 (nn66 NDp))
    have f15 := (F_kq_bucketed.keep K6 (nn66 NDp))
    have f16 := (F_kq_floor.keep K6 (nn66 NDp))
    have f17 := (V_aI.keep K6 (nn67 NDp))
    have f18 := (V_aF.keep K6 (nn68 NDp))
    have f19 := (V_aO.keep K6 (nn69 NDp))
    have f20 := (V_aW.keep K6 (nn70 NDp))
    obtain ⟨fs, hr, hrun, hended, hW, hsame⟩ := X6.leave (v := none) (fun _ => rfl)
    refine ⟨_, _, pre0 _ ?_, hrun, hended, _, _, rfl, ?_, ⟨_, rfl⟩, hW, hsame.mono (by decide) (by decide)⟩
    · refine cs3.trans ?_
      refine s_ifYes X1 hx 17 (D d8_6) ((if0 _ _).trans (teq hc4).1) (of_decide_eq_true rfl) rfl ?_
      refine s_aloadN X1 hx (D d8_17) rfl rfl ?_
      refine st5 _ ?_
      refine s_iloadN X5 hx (D d8_21) rfl ?_
      refine st6.trans ?_
      exact X6.returnOut hx Bd.returns (D d8_25) hr
    · show Q_rm_kremove1 Z kq en aF aO aW aK aB aA aI hp lo aE aP cK kK kB kA kI kF kO kW kE kP bk ib0 ib1 bf0 bf1 af0 af1 sz en0 en1 po0 po1 mm0 mm1 kk0 kk1 fF fO fW h0 n0 _ T6.heap _
      exact ⟨ve0_6, ve1_6, vp0_6, vp1_6, vz__6, bk, ib0, ib1, fF, fO, fW, rfl, N6, KK6, f7, f8, f9, f10, f11, f12, f13, f14, f15, f16, f17, f18, f19, f20, Q6_0, Q6_1, Q6_2, Q6_3, Q6_4, Q6_5, (own_kh KI0 hy2 hc4 Q6_6), ⟨LI0, OK0⟩⟩
  · obtain ⟨cq21, q21, q21'⟩ := E_kq.cell
    obtain ⟨_, _, ⟨T21, L21, k21, n21⟩, -, X21, ⟨Lc21, hQ21, l21, y21, z21⟩, st21⟩ := X1.privateBack hx (y := (⟨cQ, "unlink", "(I)V"⟩ : MethodName)) hown (mvT hZ (wd 123 rfl)) (mvT hZ (wd 124 rfl)) (own_selpriv (y := (⟨cQ, "unlink", "(I)V"⟩ : MethodName)) (mvT hZ (wd 54 rfl)) rfl (Cond.privateMethod_at (mvP hZ (wd 125 rfl) (args := #[]))) (mvT hZ (wd 124 rfl)) (by decide)) (Cond.privateMethod_at (mvP hZ (wd 125 rfl) (args := #[]))) (mvT hZ (wd 126 rfl)) (by decide) (own_backH (W := 0) (rm_kunlink1 l Z a0 hw [] kq en aF aO aW aK aB aA aI hp lo aE aP kK kB kA kI kF kO kW bk ib0 ib1 bf0 bf1 af0 af1 kk0 kk1 fF fO fW h0 n0 O0 E_kq F_kq_keys F_kq_before F_kq_after F_kq_inBucket F_kq_firsts F_kq_occupied F_kq_occupiedWords F_kq_further F_kq_bucketed F_kq_floor V_aK V_aB V_aA V_aI NDp he LI0 OK0 ((own_k1 KI0 he hy2 hc4)) (hso (own_k1 KI0 he hy2 hc4)) g_kq g_aI g_aF g_aO g_aW V_aF V_aO V_aW) hZH (wd 126 rfl) (wd 2 rfl) (by decide) (by decide)) (g := (mkF m 11 #[.val (.ref kq), .val (.int en)] [(.int en), (.ref kq)])) rfl (by rw [hml]; rfl) (Steps.refl _) (a := kq) (by rw [e1]; exact q21) q21' (argsL := [(.int en)]) (rest := []) (lenOf pd_4 rfl) rfl (by show 2 * 0 + _ ≤ _; exact Nat.le_of_eq rfl) (D d8_11) (fun _ _ => ⟨rfl, e1, (by decide : 0 + 0 ≤ _), (by decide : 0 + 0 ≤ _)⟩)
    dsimp only [Pt.U, Pt.locs, Pt.cells, Pt.slots] at X21 l21 y21 z21 st21 hQ21
    subst l21 y21 z21
    obtain ⟨vF_21, vO_21, vW_21, rfl, N21q, K21, Q21_0, Q21_1, Q21_2, Q21_3, Q21_4, Q21_5, Q21_6, Q21_7, Q21_8, Q21_9, Q21_10, Q21_11, Q21_12, Q21_13, Q21_14⟩ := hQ21
    have O21 := O0.keep K21 (allS g_kq (allS g_aI (allS g_aF (allS g_aO (allS g_aW all0)))))
    have KK21 : Keep h0 T21.heap [kq, aI, aF, aO, aW, hp, aE, aP] := (Keep.refl h0 [kq, aI, aF, aO, aW, hp, aE, aP]).trans K21 (allS (own_mem 0 rfl) (allS (own_mem 1 rfl) (allS (own_mem 2 rfl) (allS (own_mem 3 rfl) (allS (own_mem 4 rfl) all0)))))
    have N21 := Fr.app N0 N21q
    have f22 := (F_hp_order.keep K21 (nn71 NDp))
    have f23 := (F_hp_entries.keep K21 (nn71 NDp))
    have f24 := (F_hp_positions.keep K21 (nn71 NDp))
    have f25 := (F_hp_size.keep K21 (nn71 NDp))
    have f26 := (V_aE.keep K21 (nn72 NDp))
    have f27 := (V_aP.keep K21 (nn73 NDp))
    obtain ⟨fs, hr, hrun, hended, hW, hsame⟩ := X21.leave (v := none) (fun _ => rfl)
    refine ⟨_, _, pre0 _ ?_, hrun, hended, _, _, rfl, ?_, ⟨_, rfl⟩, hW, hsame.mono (by decide) (by decide)⟩
    · refine cs3.trans ?_
      refine s_ifNo X1 hx (D d8_6) ((if0 _ _).trans (feq hc4).1) ?_
      refine s_aloadN X1 hx (D d8_9) rfl rfl ?_
      refine s_iloadN X1 hx (D d8_10) rfl ?_
      refine st21.trans ?_
      refine s_goto X21 hx 25 (D d8_14) (of_decide_eq_true rfl) rfl ?_
      exact X21.returnOut hx Bd.returns (D d8_25) hr
    · show Q_rm_kremove1 Z kq en aF aO aW aK aB aA aI hp lo aE aP cK kK kB kA kI kF kO kW kE kP bk ib0 ib1 bf0 bf1 af0 af1 sz en0 en1 po0 po1 mm0 mm1 kk0 kk1 fF fO fW h0 n0 _ T21.heap _
      exact ⟨en0, en1, po0, po1, sz, (bk - (1 : Int32)), (s2 en 0 (0 : Int32) ib0), (s2 en 1 (0 : Int32) ib1), vF_21, vO_21, vW_21, rfl, N21, KK21, Q21_0, Q21_1, Q21_2, Q21_3, Q21_4, Q21_5, Q21_6, Q21_7, Q21_8, Q21_9, Q21_10, Q21_11, Q21_12, Q21_13, f22, f23, f24, f25, f26, f27, (own_ku KI0 he hy2 hc4), Q21_14⟩
theorem d7_0 : decode prog_39_method_5_code 0 = .ok (.lload_n 2, 1) := by decide +kernel
theorem d7_1 : decode prog_39_method_5_code 1 = .ok (.aload_n 0, 1) := by decide +kernel
theorem d7_2 : decode prog_39_method_5_code 2 = .ok (.getfield 66, 3) := by decide +kernel
theorem d7_5 : decode prog_39_method_5_code 5 = .ok (.lcmp, 1) := by decide +kernel
theorem d7_6 : decode prog_39_method_5_code 6 = .ok (.ifCond .ge 21, 3) := by decide +kernel
theorem d7_27 : decode prog_39_method_5_code 27 = .ok (.aload_n 0, 1) := by decide +kernel
theorem d7_28 : decode prog_39_method_5_code 28 = .ok (.iload_n 1, 1) := by decide +kernel
theorem d7_29 : decode prog_39_method_5_code 29 = .ok (.invokevirtual 79, 3) := by decide +kernel
theorem d7_32 : decode prog_39_method_5_code 32 = .ok (.aload_n 0, 1) := by decide +kernel
theorem d7_33 : decode prog_39_method_5_code 33 = .ok (.getfield 23, 3) := by decide +kernel
theorem d7_36 : decode prog_39_method_5_code 36 = .ok (.iload_n 1, 1) := by decide +kernel
theorem d7_37 : decode prog_39_method_5_code 37 = .ok (.lload_n 2, 1) := by decide +kernel
theorem d7_38 : decode prog_39_method_5_code 38 = .ok (.lastore, 1) := by decide +kernel
theorem d7_39 : decode prog_39_method_5_code 39 = .ok (.lload_n 2, 1) := by decide +kernel
theorem d7_40 : decode prog_39_method_5_code 40 = .ok (.aload_n 0, 1) := by decide +kernel
theorem d7_41 : decode prog_39_method_5_code 41 = .ok (.getfield 66, 3) := by decide +kernel
theorem d7_44 : decode prog_39_method_5_code 44 = .ok (.lsub, 1) := by decide +kernel
theorem d7_45 : decode prog_39_method_5_code 45 = .ok (.ldc2_w 83, 3) := by decide +kernel
theorem d7_48 : decode prog_39_method_5_code 48 = .ok (.lcmp, 1) := by decide +kernel
theorem d7_49 : decode prog_39_method_5_code 49 = .ok (.ifCond .ge 11, 3) := by decide +kernel
theorem d7_52 : decode prog_39_method_5_code 52 = .ok (.aload_n 0, 1) := by decide +kernel
theorem d7_53 : decode prog_39_method_5_code 53 = .ok (.iload_n 1, 1) := by decide +kernel
theorem d7_54 : decode prog_39_method_5_code 54 = .ok (.invokevirtual 85, 3) := by decide +kernel
theorem d7_57 : decode prog_39_method_5_code 57 = .ok (.goto 11, 3) := by decide +kernel
theorem d7_60 : decode prog_39_method_5_code 60 = .ok (.aload_n 0, 1) := by decide +kernel
theorem d7_61 : decode prog_39_method_5_code 61 = .ok (.getfield 50, 3) := by decide +kernel
theorem d7_64 : decode prog_39_method_5_code 64 = .ok (.iload_n 1, 1) := by decide +kernel
theorem d7_65 : decode prog_39_method_5_code 65 = .ok (.invokevirtual 88, 3) := by decide +kernel
theorem d7_68 : decode prog_39_method_5_code 68 = .ok (.return_, 1) := by decide +kernel
theorem nn74 {kq aF aO aW aK aB aA aI hp lo aE aP : Addr} (h : List.Nodup [kq, aF, aO, aW, aK, aB, aA, aI, hp, lo, aE, aP]) : aK ∉ [kq, aI, aF, aO, aW, hp, aE, aP] := own_nin h 4 [0, 7, 1, 2, 3, 8, 10, 11] rfl rfl (by decide)
theorem ne0_4 {kq aF aO aW aK aB aA aI hp lo aE aP : Addr} (h : List.Nodup [kq, aF, aO, aW, aK, aB, aA, aI, hp, lo, aE, aP]) : kq ≠ aK := own_nd h 0 4 rfl rfl (by decide)
theorem ne1_4 {kq aF aO aW aK aB aA aI hp lo aE aP : Addr} (h : List.Nodup [kq, aF, aO, aW, aK, aB, aA, aI, hp, lo, aE, aP]) : aF ≠ aK := own_nd h 1 4 rfl rfl (by decide)
theorem ne2_4 {kq aF aO aW aK aB aA aI hp lo aE aP : Addr} (h : List.Nodup [kq, aF, aO, aW, aK, aB, aA, aI, hp, lo, aE, aP]) : aO ≠ aK := own_nd h 2 4 rfl rfl (by decide)
theorem ne3_4 {kq aF aO aW aK aB aA aI hp lo aE aP : Addr} (h : List.Nodup [kq, aF, aO, aW, aK, aB, aA, aI, hp, lo, aE, aP]) : aW ≠ aK := own_nd h 3 4 rfl rfl (by decide)
theorem nn79 {kq aF aO aW aK aB aA aI hp lo aE aP : Addr} (h : List.Nodup [kq, aF, aO, aW, aK, aB, aA, aI, hp, lo, aE, aP]) : aB ∉ [kq, aI, aF, aO, aW, hp, aE, aP] := own_nin h 5 [0, 7, 1, 2, 3, 8, 10, 11] rfl rfl (by decide)
theorem ne5_4 {kq aF aO aW aK aB aA aI hp lo aE aP : Addr} (h : List.Nodup [kq, aF, aO, aW, aK, aB, aA, aI, hp, lo, aE, aP]) : aB ≠ aK := own_nd h 5 4 rfl rfl (by decide)
theorem nn81 {kq aF aO aW aK aB aA aI hp lo aE aP : Addr} (h : List.Nodup [kq, aF, aO, aW, aK, aB, aA, aI, hp, lo, aE, aP]) : aA ∉ [kq, aI, aF, aO, aW, hp, aE, aP] := own_nin h 6 [0, 7, 1, 2, 3, 8, 10, 11] rfl rfl (by decide)
theorem ne6_4 {kq aF aO aW aK aB aA aI hp lo aE aP : Addr} (h : List.Nodup [kq, aF, aO, aW, aK, aB, aA, aI, hp, lo, aE, aP]) : aA ≠ aK := own_nd h 6 4 rfl rfl (by decide)
theorem ne7_4 {kq aF aO aW aK aB aA aI hp lo aE aP : Addr} (h : List.Nodup [kq, aF, aO, aW, aK, aB, aA, aI, hp, lo, aE, aP]) : aI ≠ aK := own_nd h 7 4 rfl rfl (by decide)
theorem nn84 {kq aF aO aW aK aB aA aI hp lo aE aP : Addr} (h : List.Nodup [kq, aF, aO, aW, aK, aB, aA, aI, hp, lo, aE, aP]) : aK ∉ [kq, aB, aA, aI, aF, aO, aW] := own_nin h 4 [0, 5, 6, 7, 1, 2, 3] rfl rfl (by decide)
theorem ne8_4 {kq aF aO aW aK aB aA aI hp lo aE aP : Addr} (h : List.Nodup [kq, aF, aO, aW, aK, aB, aA, aI, hp, lo, aE, aP]) : hp ≠ aK := own_nd h 8 4 rfl rfl (by decide)
theorem nn86 {kq aF aO aW aK aB aA aI hp lo aE aP : Addr} (h : List.Nodup [kq, aF, aO, aW, aK, aB, aA, aI, hp, lo, aE, aP]) : hp ∉ [kq, aB, aA, aI, aF, aO, aW] := own_nin h 8 [0, 5, 6, 7, 1, 2, 3] rfl rfl (by decide)
theorem ne10_4 {kq aF aO aW aK aB aA aI hp lo aE aP : Addr} (h : List.Nodup [kq, aF, aO, aW, aK, aB, aA, aI, hp, lo, aE, aP]) : aE ≠ aK := own_nd h 10 4 rfl rfl (by decide)
theorem nn88 {kq aF aO aW aK aB aA aI hp lo aE aP : Addr} (h : List.Nodup [kq, aF, aO, aW, aK, aB, aA, aI, hp, lo, aE, aP]) : aE ∉ [kq, aB, aA, aI, aF, aO, aW] := own_nin h 10 [0, 5, 6, 7, 1, 2, 3] rfl rfl (by decide)
theorem ne11_4 {kq aF aO aW aK aB aA aI hp lo aE aP : Addr} (h : List.Nodup [kq, aF, aO, aW, aK, aB, aA, aI, hp, lo, aE, aP]) : aP ≠ aK := own_nd h 11 4 rfl rfl (by decide)
theorem nn90 {kq aF aO aW aK aB aA aI hp lo aE aP : Addr} (h : List.Nodup [kq, aF, aO, aW, aK, aB, aA, aI, hp, lo, aE, aP]) : aP ∉ [kq, aB, aA, aI, aF, aO, aW] := own_nin h 11 [0, 5, 6, 7, 1, 2, 3] rfl rfl (by decide)
theorem nn91 {kq aF aO aW aK aB aA aI hp lo aE aP : Addr} (h : List.Nodup [kq, aF, aO, aW, aK, aB, aA, aI, hp, lo, aE, aP]) : lo ∉ [kq, aI, aF, aO, aW, hp, aE, aP] := own_nin h 9 [0, 7, 1, 2, 3, 8, 10, 11] rfl rfl (by decide)
theorem ne9_4 {kq aF aO aW aK aB aA aI hp lo aE aP : Addr} (h : List.Nodup [kq, aF, aO, aW, aK, aB, aA, aI, hp, lo, aE, aP]) : lo ≠ aK := own_nd h 9 4 rfl rfl (by decide)
theorem nn93 {kq aF aO aW aK aB aA aI hp lo aE aP : Addr} (h : List.Nodup [kq, aF, aO, aW, aK, aB, aA, aI, hp, lo, aE, aP]) : aK ∉ [hp, aE, aP] := own_nin h 4 [8, 10, 11] rfl rfl (by decide)
theorem nn94 {kq aF aO aW aK aB aA aI hp lo aE aP : Addr} (h : List.Nodup [kq, aF, aO, aW, aK, aB, aA, aI, hp, lo, aE, aP]) : aB ∉ [hp, aE, aP] := own_nin h 5 [8, 10, 11] rfl rfl (by decide)
theorem nn95 {kq aF aO aW aK aB aA aI hp lo aE aP : Addr} (h : List.Nodup [kq, aF, aO, aW, aK, aB, aA, aI, hp, lo, aE, aP]) : aA ∉ [hp, aE, aP] := own_nin h 6 [8, 10, 11] rfl rfl (by decide)
theorem ef_rm_kput1 (m : MethodId) (x0 : Addr) (x1 : Int32) (x2 : Int64) : entryFrame m #[(.ref x0), (.int x1), (.long x2)] 4 = mkF m 0 #[.val (.ref x0), .val (.int x1), .val (.long x2), .second] [] := by first | (simp [entryFrame, mkF, argsToLocals, Value.category]; done) | rfl
def Q_rm_kput1 (Z : State) (kq : Addr) (en : Int32) (y : Int64) (aF aO aW aK aB aA aI hp lo aE aP : Addr) (cK kK kB kA kI kF kO kW kE kP : ClassId) (bk ib0 ib1 bf0 bf1 af0 af1 sz en0 en1 po0 po1 mm0 mm1 : Int32) (kk0 kk1 : Int64) (fF : Nat → Int32) (fO fW : Nat → Int64) (h0 : Heap) (n0 : Nat) (v : Option Value) (h : Heap) (L : List Loc) : Prop := ∃ (ve0 : Int32) (ve1 : Int32) (vp0 : Int32) (vp1 : Int32) (vz_ : Int32) (vb_ : Int32) (vi0 : Int32) (vi1 : Int32) (vF : Nat → Int32) (vO : Nat → Int64) (vW : Nat → Int64) (vbf0 : Int32) (vbf1 : Int32) (vaf0 : Int32) (vaf1 : Int32), v = none ∧ Fr n0 L ∧ Keep h0 h [kq, aB, aA, aI, aF, aO, aW, hp, aE, aP, aK] ∧ Fld Z h kq cQ "keys" "[J" (.ref aK) ∧ Fld Z h kq cQ "before" "[I" (.ref aB) ∧ Fld Z h kq cQ "after" "[I" (.ref aA) ∧ Fld Z h kq cQ "inBucket" "[Z" (.ref aI) ∧ Fld Z h kq cQ "firsts" "[I" (.ref aF) ∧ Fld Z h kq cQ "occupied" "[J" (.ref aO) ∧ Fld Z h kq cQ "occupiedWords" "[J" (.ref aW) ∧ Fld Z h kq cQ "further" "Lcom/example/leasewise/leasewise/IndexedHeap;" (.ref hp) ∧ Fld Z h kq cQ "bucketed" "I" (.int vb_) ∧ Fld Z h kq cQ "floor" "J" (.long (0 : Int64)) ∧ Arv Z h aK kK .long (2 : Int32) [(.long (s2 en 0 y kk0)), (.long (s2 en 1 y kk1))] (.long (0 : Int64)) ∧ Arv Z h aB kB .int (2 : Int32) [(.int vbf0), (.int vbf1)] (.int (0 : Int32)) ∧ Arv Z h aA kA .int (2 : Int32) [(.int vaf0), (.int vaf1)] (.int (0 : Int32)) ∧ Arv Z h aI kI .boolean (2 : Int32) [(.int vi0), (.int vi1)] (.int (0 : Int32)) ∧ ArfI Z h aF kF (65536 : Int32) vF ∧ ArfJ Z h aO kO (1024 : Int32) vO ∧ ArfJ Z h aW kW (16 : Int32) vW ∧ Fld Z h hp cH "order" "Lcom/example/leasewise/leasewise/IndexedHeap$Order;" (.ref lo) ∧ Fld Z h hp cH "entries" "[I" (.ref aE) ∧ Fld Z h hp cH "positions" "[I" (.ref aP) ∧ Fld Z h hp cH "size" "I" (.int vz_) ∧ Arv Z h aE kE .int (2 : Int32) [(.int ve0), (.int ve1)] (.int (0 : Int32)) ∧ Arv Z h aP kP .int (2 : Int32) [(.int vp0), (.int vp1)] (.int (-1 : Int32)) ∧ (KI vb_ vz_ ve0 ve1 vp0 vp1 vi0 vi1 (s2 en 0 (1 : Int32) mm0) (s2 en 1 (1 : Int32) mm1)) ∧ (LI vF vi0 vi1 (s2 en 0 y kk0) (s2 en 1 y kk1) vbf0 vbf1 vaf0 vaf1 ∧ OKB vF vO vW ∧ PV4 vbf0 vbf1 vaf0 vaf1)
set_option maxRecDepth 65536 in
set_option maxHeartbeats 40000000 in
theorem rm_kput1 (l : Launch) (Z : State) (a0 : Array Value) (hw : ∀ d ∈ tables_1, d.before a0 Z = true) (ws : List Jvm.Cond) (kq : Addr) (en : Int32) (y : Int64) (aF aO aW aK aB aA aI hp lo aE aP : Addr) (cK kK kB kA kI kF kO kW kE kP : ClassId) (bk ib0 ib1 bf0 bf1 af0 af1 sz en0 en1 po0 po1 mm0 mm1 : Int32) (kk0 kk1 : Int64) (fF : Nat → Int32) (fO fW : Nat → Int64) (h0 : Heap) (n0 : Nat) (O0 : Old Z n0 h0) (E_kq : Exa Z h0 kq cQ) (F_kq_keys : Fld Z h0 kq cQ "keys" "[J" (.ref aK)) (F_kq_before : Fld Z h0 kq cQ "before" "[I" (.ref aB)) (F_kq_after : Fld Z h0 kq cQ "after" "[I" (.ref aA)) (F_kq_inBucket : Fld Z h0 kq cQ "inBucket" "[Z" (.ref aI)) (F_kq_firsts : Fld Z h0 kq cQ "firsts" "[I" (.ref aF)) (F_kq_occupied : Fld Z h0 kq cQ "occupied" "[J" (.ref aO)) (F_kq_occupiedWords : Fld Z h0 kq cQ "occupiedWords" "[J" (.ref aW)) (F_kq_further : Fld Z h0 kq cQ "further" "Lcom/example/leasewise/leasewise/IndexedHeap;" (.ref hp)) (F_kq_bucketed : Fld Z h0 kq cQ "bucketed" "I" (.int bk)) (F_kq_floor : Fld Z h0 kq cQ "floor" "J" (.long (0 : Int64))) (V_aK : Arv Z h0 aK kK .long (2 : Int32) [(.long kk0), (.long kk1)] (.long (0 : Int64))) (V_aB : Arv Z h0 aB kB .int (2 : Int32) [(.int bf0), (.int bf1)] (.int (0 : Int32))) (V_aA : Arv Z h0 aA kA .int (2 : Int32) [(.int af0), (.int af1)] (.int (0 : Int32))) (V_aI : Arv Z h0 aI kI .boolean (2 : Int32) [(.int ib0), (.int ib1)] (.int (0 : Int32))) (E_hp : Exa Z h0 hp cH) (F_hp_order : Fld Z h0 hp cH "order" "Lcom/example/leasewise/leasewise/IndexedHeap$Order;" (.ref lo)) (F_hp_entries : Fld Z h0 hp cH "entries" "[I" (.ref aE)) (F_hp_positions : Fld Z h0 hp cH "positions" "[I" (.ref aP)) (F_hp_size : Fld Z h0 hp cH "size" "I" (.int sz)) (V_aE : Arv Z h0 aE kE .int (2 : Int32) [(.int en0), (.int en1)] (.int (0 : Int32))) (V_aP : Arv Z h0 aP kP .int (2 : Int32) [(.int po0), (.int po1)] (.int (-1 : Int32))) (MDc : Jvm.LamKit.Made Z cQ sgm cK) (NDp : List.Nodup [kq, aF, aO, aW, aK, aB, aA, aI, hp, lo, aE, aP]) (g_kq : n0 ≤ kq) (g_aB : n0 ≤ aB) (g_aA : n0 ≤ aA) (g_aI : n0 ≤ aI) (g_aF : n0 ≤ aF) (g_aO : n0 ≤ aO) (g_aW : n0 ≤ aW) (g_hp : n0 ≤ hp) (g_aE : n0 ≤ aE) (g_aP : n0 ≤ aP) (g_aK : n0 ≤ aK) (KI0 : KI bk sz en0 en1 po0 po1 ib0 ib1 mm0 mm1) (LI0 : LI fF ib0 ib1 kk0 kk1 bf0 bf1 af0 af1) (OK0 : OKB fF fO fW) (PV0 : PV4 bf0 bf1 af0 af1) (hso : g2 en ib0 ib1 = 1 → ot en ib0 ib1 = 0) (he : I2 en) (hy : ¬ (y < (0 : Int64))) (Y_lo : LamO h0 lo cK kq) (V_aF : ArfI Z h0 aF kF (65536 : Int32) fF) (V_aO : ArfJ Z h0 aO kO (1024 : Int32) fO) (V_aW : ArfJ Z h0 aW kW (16 : Int32) fW) :
    MetFree l (⟨cQ, "put", "(IJ)V"⟩ : MethodName) (head1 (Jvm.Cond.code (⟨cQ, "put", "(IJ)V"⟩ : MethodName) prog_39_method_5_code 4 none :: ws) ({ frames := 5, cells := 0, slots := 0, locals := 73 } : Room)) (fun a U => a = #[(.ref kq), (.int en), (.long y)] ∧ Z.WarmedH U.vm ∧ U.heap = h0) (fun _ _ _ _ _ => True) (fun _ U o U' => ∃ v L, o = .returned v ∧ Q_rm_kput1 Z kq en y aF aO aW aK aB aA aI hp lo aE aP cK kK kB kA kI kF kO kW kE kP bk ib0 ib1 bf0 bf1 af0 af1 sz en0 en1 po0 po1 mm0 mm1 kk0 kk1 fF fO fW h0 n0 v U'.heap L ∧ FrameEnd U o U' L ({ frames := 5, cells := 0, slots := 0, locals := 73 } : Room).cells ({ frames := 5, cells := 0, slots := 0, locals := 73 } : Room).slots) := by
  refine MetFree.of_bodySF (plainFor_of_name pn_2) hisR ?_
  intro p e s m args below meth c s₁ Bd hml0 hP hK
  obtain ⟨rfl, hZH, hh⟩ := hP
  have hZ := hZH.wide
  have hx := Bd.exec
  have hby := Bd.bytes
  have D := fun {pc : Nat} {r : Except ClassFile.DecodeError (ClassFile.Instr × Nat)} (q : decode prog_39_method_5_code pc = r) => hb (pc := pc) hby q
  have hml : c.maxLocals = 4 := hml0
  have hown : s.vm.findClass cQ = some m.cls := findClass_of_methodNamed Bd.named
  have hnm := (name_of_methodNamed Bd.named Bd.method).1
  have X0 : Stand p l e ({ frames := 5, cells := 0, slots := 0, locals := 73 } : Room) s m #[(.ref kq), (.int en), (.long y)] below meth c s₁ [] 0 0 := Stand.of_body Bd
  have e0 : s₁.heap = h0 := by rw [← hh, Bd.state]; rfl
  have N0 := Fr.nil n0
  have pre0 : ∀ t, Steps p.tables e below (s₁.setTop (mkF m 0 #[.val (.ref kq), .val (.int en), .val (.long y), .second] [])) t → Steps p.tables e below (s₁.setTop (entryFrame m #[(.ref kq), (.int en), (.long y)] 4)) t := fun t k => castTop (ef_rm_kput1 m (kq) (en) (y)) k
  have wd := fun {d : Jvm.Cond} (i : Nat) (h : tables_1[i]? = some d) => hw d (List.mem_of_getElem? h)
  obtain ⟨T1, X1, e1, st1⟩ := getF X0 hx hZ hown (host := "") (Or.inl (wd 71 rfl)) Via.refl e0 F_kq_floor (g := (mkF m 2 #[.val (.ref kq), .val (.int en), .val (.long y), .second] [(.ref kq), (.long y)])) rfl rfl (D d7_2)
  obtain ⟨cq2, kq2, q2a, q2b, q2c⟩ := isOf hZ e1 E_kq
  obtain ⟨_, _, ⟨T2, L2, k2, n2⟩, -, X2, ⟨Lc2, hQ2, l2, y2, z2⟩, st2⟩ := X1.virtualBack hx (y := (⟨cQ, "remove", "(I)V"⟩ : MethodName)) (z := (⟨cQ, "remove", "(I)V"⟩ : MethodName)) hown (mvT hZ (wd 73 rfl)) (mvT hZ (wd 74 rfl)) (notFace_of_selects (args := #[]) (mvT hZ (wd 76 rfl))) (mvT hZ (wd 76 rfl)) (mvT hZ (wd 75 rfl)) (by decide) (own_backH (W := 0) (rm_kremove1 l Z a0 hw [] kq en aF aO aW aK aB aA aI hp lo aE aP cK kK kB kA kI kF kO kW kE kP bk ib0 ib1 bf0 bf1 af0 af1 sz en0 en1 po0 po1 mm0 mm1 kk0 kk1 fF fO fW h0 n0 O0 E_kq F_kq_keys F_kq_before F_kq_after F_kq_inBucket F_kq_firsts F_kq_occupied F_kq_occupiedWords F_kq_further F_kq_bucketed F_kq_floor V_aK V_aB V_aA V_aI E_hp F_hp_order F_hp_entries F_hp_positions F_hp_size V_aE V_aP MDc NDp g_kq g_aI g_aF g_aO g_aW g_hp g_aE g_aP KI0 LI0 OK0 hso he Y_lo V_aF V_aO V_aW) hZH (wd 77 rfl) (wd 2 rfl) (by decide) (by decide)) q2a q2c (g := (mkF m 29 #[.val (.ref kq), .val (.int en), .val (.long y), .second] [(.int en), (.ref kq)])) rfl (by rw [hml]; rfl) (Steps.refl _) (argsL := [(.int en)]) (rest := []) (lenOf pd_4 rfl) rfl (by show 2 * 0 + _ ≤ _; exact Nat.le_of_eq rfl) (D d7_29) (fun _ _ => ⟨rfl, e1, (by decide : 0 + 0 ≤ _), (by decide : 0 + 0 ≤ _)⟩)
  dsimp only [Pt.U, Pt.locs, Pt.cells, Pt.slots] at X2 l2 y2 z2 st2 hQ2
  subst l2 y2 z2
  obtain ⟨ve0_2, ve1_2, vp0_2, vp1_2, vz__2, vb__2, vi0_2, vi1_2, vF_2, vO_2, vW_2, rfl, N2q, K2, Q2_0, Q2_1, Q2_2, Q2_3, Q2_4, Q2_5, Q2_6, Q2_7, Q2_8, Q2_9, Q2_10, Q2_11, Q2_12, Q2_13, Q2_14, Q2_15, Q2_16, Q2_17, Q2_18, Q2_19, Q2_20, Q2_21⟩ := hQ2
  have O2 := O0.keep K2 (allS g_kq (allS g_aI (allS g_aF (allS g_aO (allS g_aW (allS g_hp (allS g_aE (allS g_aP all0))))))))
  have KK2 : Keep h0 T2.heap [kq, aB, aA, aI, aF, aO, aW, hp, aE, aP, aK] := (Keep.refl h0 [kq, aB, aA, aI, aF, aO, aW, hp, aE, aP, aK]).trans K2 (allS (own_mem 0 rfl) (allS (own_mem 3 rfl) (allS (own_mem 4 rfl) (allS (own_mem 5 rfl) (allS (own_mem 6 rfl) (allS (own_mem 7 rfl) (allS (own_mem 8 rfl) (allS (own_mem 9 rfl) all0))))))))
  have N2 := Fr.app N0 N2q
  obtain ⟨T3, X3, e3, st3⟩ := getF X2 hx hZ hown (host := "") (Or.inl (wd 18 rfl)) Via.refl rfl Q2_0 (g := (mkF m 33 #[.val (.ref kq), .val (.int en), .val (.long y), .second] [(.ref kq)])) rfl rfl (D d7_33)
  have f5 := (V_aK.keep K2 (nn74 NDp))
  obtain ⟨cl4, Ar4, q4, S4, Nn4, H4, G4⟩ := id f5
  have hin4 : ¬ (en < 0 ∨ cl4.slots.size ≤ (en).toNatClampNeg) := inb_of S4 (own_in2 he)
  obtain ⟨T4, h4, X4, e4, W4, st4⟩ := stJ X3 hx hZ e3 Ar4 (j := en) hin4 (g := (mkF m 38 #[.val (.ref kq), .val (.int en), .val (.long y), .second] [(.long y), (.int en), (.ref aK)])) rfl rfl (D d7_38)
  have V4 : Arv Z h4 aK kK .long (2 : Int32) [(.long (s2 en 0 y kk0)), (.long (s2 en 1 y kk1))] (.long (0 : Int64)) := own_set2J (w := y) Ar4 q4 S4 Nn4 H4 G4 rfl W4 he
  have N4 := Fr.snoc X4 N2 g_aK
  have Zn4 : n0 ≤ h4.size := Nat.le_trans (own_oldsz O2) (Keep.of_wr W4).1
  have K4 : Keep h0 h4 [kq, aB, aA, aI, aF, aO, aW, hp, aE, aP, aK] := KK2.wr W4 (Or.inl (List.mem_of_getElem? (i := 10) rfl))
  have O4 := O2.wr W4 g_aK
  have f6 := (Q2_9.other W4 (Or.inl (ne0_4 NDp)))
  obtain ⟨T7, X7, e7, st7⟩ := getF X4 hx hZ hown (host := "") (Or.inl (wd 71 rfl)) Via.refl e4 f6 (g := (mkF m 41 #[.val (.ref kq), .val (.int en), .val (.long y), .second] [(.ref kq), (.long y)])) rfl rfl (D d7_41)
  have cs8 : Steps p.tables e below (s₁.setTop (mkF m 0 #[.val (.ref kq), .val (.int en), .val (.long y), .second] [])) (T7.setTop (mkF m 49 #[.val (.ref kq), .val (.int en), .val (.long y), .second] [(.int (lcmpW (y - (0 : Int64)) (65536 : Int64)))])) := (by
    refine s_lloadN X0 hx (D d7_0) rfl ?_
    refine s_aloadN X0 hx (D d7_1) rfl rfl ?_
    refine st1 _ ?_
    refine s_lcmp X1 hx (D d7_5) rfl ?_
    refine s_ifYes X1 hx 27 (D d7_6) ((if0 _ _).trans (flt (fun hh => hy ((lw_lt _ _).mp hh) : ¬ ((lcmpW y (0 : Int64)) < (0 : Int32)))).2.1) (of_decide_eq_true rfl) rfl ?_
    refine s_aloadN X1 hx (D d7_27) rfl rfl ?_
    refine s_iloadN X1 hx (D d7_28) rfl ?_
    refine st2.trans ?_
    refine s_aloadN X2 hx (D d7_32) rfl rfl ?_
    refine st3 _ ?_
    refine s_iloadN X3 hx (D d7_36) rfl ?_
    refine s_lloadN X3 hx (D d7_37) rfl ?_
    refine st4 _ ?_
    refine s_lloadN X4 hx (D d7_39) rfl ?_
    refine s_aloadN X4 hx (D d7_40) rfl rfl ?_
    refine st7 _ ?_
    refine s_lsub X7 hx (D d7_44) rfl ?_
    refine X7.ldc2Long hx hown (mvT hZ (wd 83 rfl)) (g := (mkF m 45 #[.val (.ref kq), .val (.int en), .val (.long y), .second] [(.long (y - (0 : Int64)))])) rfl (D d7_45) _ ?_
    refine s_lcmp X7 hx (D d7_48) rfl ?_
    exact Steps.refl _)
  by_cases hc9 : (lcmpW (y - (0 : Int64)) (65536 : Int64)) < (0 : Int32)
  · have f10 := (Q2_11.other W4 (ne1_4 NDp))
    have f11 := (Q2_12.other W4 (ne2_4 NDp))
    have f12 := (Q2_13.other W4 (ne3_4 NDp))
    have f13 := ((E_kq.keep K2).wr W4)
    have f14 := (Q2_0.other W4 (Or.inl (ne0_4 NDp)))
    have f15 := (Q2_1.other W4 (Or.inl (ne0_4 NDp)))
    have f16 := (Q2_2.other W4 (Or.inl (ne0_4 NDp)))
    have f17 := (Q2_3.other W4 (Or.inl (ne0_4 NDp)))
    have f18 := (Q2_4.other W4 (Or.inl (ne0_4 NDp)))
    have f19 := (Q2_5.other W4 (Or.inl (ne0_4 NDp)))
    have f20 := (Q2_6.other W4 (Or.inl (ne0_4 NDp)))
    have f21 := (Q2_7.other W4 (Or.inl (ne0_4 NDp)))
    have f22 := (Q2_8.other W4 (Or.inl (ne0_4 NDp)))
    have f23 := ((V_aB.keep K2 (nn79 NDp)).other W4 (ne5_4 NDp))
    have f24 := ((V_aA.keep K2 (nn81 NDp)).other W4 (ne6_4 NDp))
    have f25 := (Q2_10.other W4 (ne7_4 NDp))
    obtain ⟨cq26, q26, q26'⟩ := f13.cell
    obtain ⟨_, _, ⟨T26, L26, k26, n26⟩, -, X26, ⟨Lc26, hQ26, l26, y26, z26⟩, st26⟩ := X7.privateBack hx (y := (⟨cQ, "link", "(I)V"⟩ : MethodName)) hown (mvT hZ (wd 84 rfl)) (mvT hZ (wd 85 rfl)) (own_selpriv (y := (⟨cQ, "link", "(I)V"⟩ : MethodName)) (mvT hZ (wd 54 rfl)) rfl (Cond.privateMethod_at (mvP hZ (wd 86 rfl) (args := #[]))) (mvT hZ (wd 85 rfl)) (by decide)) (Cond.privateMethod_at (mvP hZ (wd 86 rfl) (args := #[]))) (mvT hZ (wd 87 rfl)) (by decide) (own_backH (W := 0) (rm_klink1 l Z a0 hw [] kq en aF aO aW aK aB aA aI hp lo aE aP kK kB kA kI kF kO kW vb__2 vi0_2 vi1_2 bf0 bf1 af0 af1 (s2 en 0 y kk0) (s2 en 1 y kk1) vF_2 vO_2 vW_2 h4 n0 O4 f13 f14 f15 f16 f17 f18 f19 f20 f21 f22 f6 V4 f23 f24 f25 NDp he (li_put Q2_21.1 he (own_kz Q2_20 he).1 y) Q2_21.2 PV0 ((own_kz Q2_20 he).1) g_kq g_aB g_aA g_aI g_aF g_aO g_aW f10 f11 f12) hZH (wd 87 rfl) (wd 2 rfl) (by decide) (by decide)) (g := (mkF m 54 #[.val (.ref kq), .val (.int en), .val (.long y), .second] [(.int en), (.ref kq)])) rfl (by rw [hml]; rfl) (Steps.refl _) (a := kq) (by rw [e7]; exact q26) q26' (argsL := [(.int en)]) (rest := []) (lenOf pd_4 rfl) rfl (by show 2 * 0 + _ ≤ _; exact Nat.le_of_eq rfl) (D d7_54) (fun _ _ => ⟨rfl, e7, (by decide : 0 + 0 ≤ _), (by decide : 0 + 0 ≤ _)⟩)
    dsimp only [Pt.U, Pt.locs, Pt.cells, Pt.slots] at X26 l26 y26 z26 st26 hQ26
    subst l26 y26 z26
    obtain ⟨vF_26, vO_26, vW_26, vbf0_26, vbf1_26, vaf0_26, vaf1_26, rfl, N26q, K26, Q26_0, Q26_1, Q26_2, Q26_3, Q26_4, Q26_5, Q26_6, Q26_7, Q26_8, Q26_9, Q26_10, Q26_11, Q26_12, Q26_13, Q26_14, Q26_15, Q26_16⟩ := hQ26
    have O26 := O4.keep K26 (allS g_kq (allS g_aB (allS g_aA (allS g_aI (allS g_aF (allS g_aO (allS g_aW all0)))))))
    have KK26 : Keep h0 T26.heap [kq, aB, aA, aI, aF, aO, aW, hp, aE, aP, aK] := K4.trans K26 (allS (own_mem 0 rfl) (allS (own_mem 1 rfl) (allS (own_mem 2 rfl) (allS (own_mem 3 rfl) (allS (own_mem 4 rfl) (allS (own_mem 5 rfl) (allS (own_mem 6 rfl) all0)))))))
    have N26 := Fr.app N4 N26q
    have f27 := (V4.keep K26 (nn84 NDp))
    have f28 := ((Q2_14.other W4 (Or.inl (ne8_4 NDp))).keep K26 (nn86 NDp))
    have f29 := ((Q2_15.other W4 (Or.inl (ne8_4 NDp))).keep K26 (nn86 NDp))
    have f30 := ((Q2_16.other W4 (Or.inl (ne8_4 NDp))).keep K26 (nn86 NDp))
    have f31 := ((Q2_17.other W4 (Or.inl (ne8_4 NDp))).keep K26 (nn86 NDp))
    have f32 := ((Q2_18.other W4 (ne10_4 NDp)).keep K26 (nn88 NDp))
    have f33 := ((Q2_19.other W4 (ne11_4 NDp)).keep K26 (nn90 NDp))
    obtain ⟨fs, hr, hrun, hended, hW, hsame⟩ := X26.leave (v := none) (fun _ => rfl)
    refine ⟨_, _, pre0 _ ?_, hrun, hended, _, _, rfl, ?_, ⟨_, rfl⟩, hW, hsame.mono (by decide) (by decide)⟩
    · refine cs8.trans ?_
      refine s_ifNo X7 hx (D d7_49) ((if0 _ _).trans (tlt hc9).2.1) ?_
      refine s_aloadN X7 hx (D d7_52) rfl rfl ?_
      refine s_iloadN X7 hx (D d7_53) rfl ?_
      refine st26.trans ?_
      refine s_goto X26 hx 68 (D d7_57) (of_decide_eq_true rfl) rfl ?_
      exact X26.returnOut hx Bd.returns (D d7_68) hr
    · show Q_rm_kput1 Z kq en y aF aO aW aK aB aA aI hp lo aE aP cK kK kB kA kI kF kO kW kE kP bk ib0 ib1 bf0 bf1 af0 af1 sz en0 en1 po0 po1 mm0 mm1 kk0 kk1 fF fO fW h0 n0 _ T26.heap _
      exact ⟨ve0_2, ve1_2, vp0_2, vp1_2, vz__2, (vb__2 + (1 : Int32)), (s2 en 0 (1 : Int32) vi0_2), (s2 en 1 (1 : Int32) vi1_2), vF_26, vO_26, vW_26, vbf0_26, vbf1_26, vaf0_26, vaf1_26, rfl, N26, KK26, Q26_0, Q26_1, Q26_2, Q26_3, Q26_4, Q26_5, Q26_6, Q26_7, Q26_8, Q26_9, f27, Q26_10, Q26_11, Q26_12, Q26_13, Q26_14, Q26_15, f28, f29, f30, f31, f32, f33, (own_kl Q2_20 he), Q26_16⟩
  · have f34 := (Q2_7.other W4 (Or.inl (ne0_4 NDp)))
    obtain ⟨T35, X35, e35, st35⟩ := getF X7 hx hZ hown (host := "") (Or.inl (wd 49 rfl)) Via.refl e7 f34 (g := (mkF m 61 #[.val (.ref kq), .val (.int en), .val (.long y), .second] [(.ref kq)])) rfl rfl (D d7_61)
    have f36 := ((Y_lo.keep K2 (nn91 NDp)).other W4 (ne9_4 NDp))
    have f37 := ((E_hp.keep K2).wr W4)
    have f38 := (Q2_14.other W4 (Or.inl (ne8_4 NDp)))
    have f39 := (Q2_15.other W4 (Or.inl (ne8_4 NDp)))
    have f40 := (Q2_16.other W4 (Or.inl (ne8_4 NDp)))
    have f41 := (Q2_17.other W4 (Or.inl (ne8_4 NDp)))
    have f42 := ((E_kq.keep K2).wr W4)
    have f43 := (Q2_0.other W4 (Or.inl (ne0_4 NDp)))
    have f44 := (Q2_18.other W4 (ne10_4 NDp))
    have f45 := (Q2_19.other W4 (ne11_4 NDp))
    obtain ⟨cq46, kq46, q46a, q46b, q46c⟩ := isOf hZ e35 f37
    obtain ⟨_, _, ⟨T46, L46, k46, n46⟩, -, X46, ⟨Lc46, hQ46, l46, y46, z46⟩, st46⟩ := X35.virtualBack hx (y := (⟨cH, "put", "(I)V"⟩ : MethodName)) (z := (⟨cH, "put", "(I)V"⟩ : MethodName)) hown (mvT hZ (wd 127 rfl)) (mvT hZ (wd 128 rfl)) (notFace_of_selects (args := #[]) (mvT hZ (wd 130 rfl))) (mvT hZ (wd 130 rfl)) (mvT hZ (wd 129 rfl)) (by decide) (own_backH (W := 0) (rm_hput l Z a0 hw [] hp en kq aF aO aW aK aB aA aI lo aE aP cK kK kE kP vz__2 ve0_2 ve1_2 vp0_2 vp1_2 h4 n0 O4 f37 f38 f39 f40 f41 f42 f43 MDc f44 f45 g_hp g_aE g_aP NDp Q2_20.1 he ((own_kz Q2_20 he).2) (Arp.of V4 (own_pj2J (own_PJ _) (own_PJ _) (own_PJ _))) f36) hZH (wd 131 rfl) (wd 33 rfl) (by decide) (by decide)) q46a q46c (g := (mkF m 65 #[.val (.ref kq), .val (.int en), .val (.long y), .second] [(.int en), (.ref hp)])) rfl (by rw [hml]; rfl) (Steps.refl _) (argsL := [(.int en)]) (rest := []) (lenOf pd_4 rfl) rfl (by show 2 * 0 + _ ≤ _; exact Nat.le_of_eq rfl) (D d7_65) (fun _ _ => ⟨rfl, e35, (by decide : 0 + 0 ≤ _), (by decide : 0 + 0 ≤ _)⟩)
    dsimp only [Pt.U, Pt.locs, Pt.cells, Pt.slots] at X46 l46 y46 z46 st46 hQ46
    subst l46 y46 z46
    obtain ⟨ve0_46, ve1_46, vp0_46, vp1_46, vz__46, rfl, N46q, K46, Q46_0, Q46_1, Q46_2, Q46_3, Q46_4, Q46_5, Q46_6⟩ := hQ46
    have O46 := O4.keep K46 (allS g_hp (allS g_aE (allS g_aP all0)))
    have KK46 : Keep h0 T46.heap [kq, aB, aA, aI, aF, aO, aW, hp, aE, aP, aK] := K4.trans K46 (allS (own_mem 7 rfl) (allS (own_mem 8 rfl) (allS (own_mem 9 rfl) all0)))
    have N46 := Fr.app N4 N46q
    have f47 := (f43.keep K46 (nn66 NDp))
    have f48 := ((Q2_1.other W4 (Or.inl (ne0_4 NDp))).keep K46 (nn66 NDp))
    have f49 := ((Q2_2.other W4 (Or.inl (ne0_4 NDp))).keep K46 (nn66 NDp))
    have f50 := ((Q2_3.other W4 (Or.inl (ne0_4 NDp))).keep K46 (nn66 NDp))
    have f51 := ((Q2_4.other W4 (Or.inl (ne0_4 NDp))).keep K46 (nn66 NDp))
    have f52 := ((Q2_5.other W4 (Or.inl (ne0_4 NDp))).keep K46 (nn66 NDp))
    have f53 := ((Q2_6.other W4 (Or.inl (ne0_4 NDp))).keep K46 (nn66 NDp))
    have f54 := (f34.keep K46 (nn66 NDp))
    have f55 := ((Q2_8.other W4 (Or.inl (ne0_4 NDp))).keep K46 (nn66 NDp))
    have f56 := (f6.keep K46 (nn66 NDp))
    have f57 := (V4.keep K46 (nn93 NDp))
    have f58 := (((V_aB.keep K2 (nn79 NDp)).other W4 (ne5_4 NDp)).keep K46 (nn94 NDp))
    have f59 := (((V_aA.keep K2 (nn81 NDp)).other W4 (ne6_4 NDp)).keep K46 (nn95 NDp))
    have f60 := ((Q2_10.other W4 (ne7_4 NDp)).keep K46 (nn67 NDp))
    have f61 := ((Q2_11.other W4 (ne1_4 NDp)).keep K46 (nn68 NDp))
    have f62 := ((Q2_12.other W4 (ne2_4 NDp)).keep K46 (nn69 NDp))
    have f63 := ((Q2_13.other W4 (ne3_4 NDp)).keep K46 (nn70 NDp))
    obtain ⟨fs, hr, hrun, hended, hW, hsame⟩ := X46.leave (v := none) (fun _ => rfl)
    refine ⟨_, _, pre0 _ ?_, hrun, hended, _, _, rfl, ?_, ⟨_, rfl⟩, hW, hsame.mono (by decide) (by decide)⟩
    · refine cs8.trans ?_
      refine s_ifYes X7 hx 60 (D d7_49) ((if0 _ _).trans (flt hc9).2.1) (of_decide_eq_true rfl) rfl ?_
      refine s_aloadN X7 hx (D d7_60) rfl rfl ?_
      refine st35 _ ?_
      refine s_iloadN X35 hx (D d7_64) rfl ?_
      refine st46.trans ?_
      exact X46.returnOut hx Bd.returns (D d7_68) hr
    · show Q_rm_kput1 Z kq en y aF aO aW aK aB aA aI hp lo aE aP cK kK kB kA kI kF kO kW kE kP bk ib0 ib1 bf0 bf1 af0 af1 sz en0 en1 po0 po1 mm0 mm1 kk0 kk1 fF fO fW h0 n0 _ T46.heap _
      exact ⟨ve0_46, ve1_46, vp0_46, vp1_46, vz__46, vb__2, vi0_2, vi1_2, vF_2, vO_2, vW_2, bf0, bf1, af0, af1, rfl, N46, KK46, f47, f48, f49, f50, f51, f52, f53, f54, f55, f56, f57, f58, f59, f60, f61, f62, f63, Q46_0, Q46_1, Q46_2, Q46_3, Q46_4, Q46_5, (own_kp Q2_20 Q46_6), ⟨li_put Q2_21.1 he (own_kz Q2_20 he).1 y, Q2_21.2, PV0⟩⟩
theorem ef_rm_kremove2 (m : MethodId) (x0 : Addr) (x1 : Int32) : entryFrame m #[(.ref x0), (.int x1)] 2 = mkF m 0 #[.val (.ref x0), .val (.int x1)] [] := by first | (simp [entryFrame, mkF, argsToLocals, Value.category]; done) | rfl
def Q_rm_kremove2 (Z : State) (kq : Addr) (en : Int32) (aF aO aW aK aB aA aI hp lo aE aP : Addr) (cK kK kB kA kI kF kO kW kE kP : ClassId) (bk ib0 ib1 sz en0 en1 po0 po1 mm0 mm1 : Int32) (fl : Int64) (h0 : Heap) (n0 : Nat) (v : Option Value) (h : Heap) (L : List Loc) : Prop := ∃ (ve0 : Int32) (ve1 : Int32) (vp0 : Int32) (vp1 : Int32) (vz_ : Int32) (vb_ : Int32) (vi0 : Int32) (vi1 : Int32), v = none ∧ Fr n0 L ∧ Keep h0 h [kq, aB, aA, aI, aF, aO, aW, hp, aE, aP] ∧ Fld Z h kq cQ "keys" "[J" (.ref aK) ∧ Fld Z h kq cQ "before" "[I" (.ref aB) ∧ Fld Z h kq cQ "after" "[I" (.ref aA) ∧ Fld Z h kq cQ "inBucket" "[Z" (.ref aI) ∧ Fld Z h kq cQ "firsts" "[I" (.ref aF) ∧ Fld Z h kq cQ "occupied" "[J" (.ref aO) ∧ Fld Z h kq cQ "occupiedWords" "[J" (.ref aW) ∧ Fld Z h kq cQ "further" "Lcom/example/leasewise/leasewise/IndexedHeap;" (.ref hp) ∧ Fld Z h kq cQ "bucketed" "I" (.int vb_) ∧ Fld Z h kq cQ "floor" "J" (.long fl) ∧ Arp Z h aB kB .int (2 : Int32) PI ∧ Arp Z h aA kA .int (2 : Int32) PI ∧ Arv Z h aI kI .boolean (2 : Int32) [(.int vi0), (.int vi1)] (.int (0 : Int32)) ∧ Arp Z h aF kF .int (65536 : Int32) PI ∧ Arp Z h aO kO .long (1024 : Int32) PJ ∧ Arp Z h aW kW .long (16 : Int32) PJ ∧ Fld Z h hp cH "order" "Lcom/example/leasewise/leasewise/IndexedHeap$Order;" (.ref lo) ∧ Fld Z h hp cH "entries" "[I" (.ref aE) ∧ Fld Z h hp cH "positions" "[I" (.ref aP) ∧ Fld Z h hp cH "size" "I" (.int vz_) ∧ Arv Z h aE kE .int (2 : Int32) [(.int ve0), (.int ve1)] (.int (0 : Int32)) ∧ Arv Z h aP kP .int (2 : Int32) [(.int vp0), (.int vp1)] (.int (-1 : Int32)) ∧ (KI vb_ vz_ ve0 ve1 vp0 vp1 vi0 vi1 (s2 en 0 (0 : Int32) mm0) (s2 en 1 (0 : Int32) mm1))
set_option maxRecDepth 65536 in
set_option maxHeartbeats 40000000 in
theorem rm_kremove2 (l : Launch) (Z : State) (a0 : Array Value) (hw : ∀ d ∈ tables_1, d.before a0 Z = true) (ws : List Jvm.Cond) (kq : Addr) (en : Int32) (aF aO aW aK aB aA aI hp lo aE aP : Addr) (cK kK kB kA kI kF kO kW kE kP : ClassId) (bk ib0 ib1 sz en0 en1 po0 po1 mm0 mm1 : Int32) (fl : Int64) (h0 : Heap) (n0 : Nat) (O0 : Old Z n0 h0) (E_kq : Exa Z h0 kq cQ) (F_kq_keys : Fld Z h0 kq cQ "keys" "[J" (.ref aK)) (F_kq_before : Fld Z h0 kq cQ "before" "[I" (.ref aB)) (F_kq_after : Fld Z h0 kq cQ "after" "[I" (.ref aA)) (F_kq_inBucket : Fld Z h0 kq cQ "inBucket" "[Z" (.ref aI)) (F_kq_firsts : Fld Z h0 kq cQ "firsts" "[I" (.ref aF)) (F_kq_occupied : Fld Z h0 kq cQ "occupied" "[J" (.ref aO)) (F_kq_occupiedWords : Fld Z h0 kq cQ "occupiedWords" "[J" (.ref aW)) (F_kq_further : Fld Z h0 kq cQ "further" "Lcom/example/leasewise/leasewise/IndexedHeap;" (.ref hp)) (F_kq_bucketed : Fld Z h0 kq cQ "bucketed" "I" (.int bk)) (F_kq_floor : Fld Z h0 kq cQ "floor" "J" (.long fl)) (V_aI : Arv Z h0 aI kI .boolean (2 : Int32) [(.int ib0), (.int ib1)] (.int (0 : Int32))) (E_hp : Exa Z h0 hp cH) (F_hp_order : Fld Z h0 hp cH "order" "Lcom/example/leasewise/leasewise/IndexedHeap$Order;" (.ref lo)) (F_hp_entries : Fld Z h0 hp cH "entries" "[I" (.ref aE)) (F_hp_positions : Fld Z h0 hp cH "positions" "[I" (.ref aP)) (F_hp_size : Fld Z h0 hp cH "size" "I" (.int sz)) (V_aE : Arv Z h0 aE kE .int (2 : Int32) [(.int en0), (.int en1)] (.int (0 : Int32))) (V_aP : Arv Z h0 aP kP .int (2 : Int32) [(.int po0), (.int po1)] (.int (-1 : Int32))) (MDc : Jvm.LamKit.Made Z cQ sgm cK) (NDp : List.Nodup [kq, aF, aO, aW, aK, aB, aA, aI, hp, lo, aE, aP]) (g_kq : n0 ≤ kq) (g_aB : n0 ≤ aB) (g_aA : n0 ≤ aA) (g_aI : n0 ≤ aI) (g_aF : n0 ≤ aF) (g_aO : n0 ≤ aO) (g_aW : n0 ≤ aW) (g_hp : n0 ≤ hp) (g_aE : n0 ≤ aE) (g_aP : n0 ≤ aP) (KI0 : KI bk sz en0 en1 po0 po1 ib0 ib1 mm0 mm1) (he : I2 en) (V_aK : Arp Z h0 aK kK .long (2 : Int32) PJ) (V_aB : Arp Z h0 aB kB .int (2 : Int32) PI) (V_aA : Arp Z h0 aA kA .int (2 : Int32) PI) (V_aF : Arp Z h0 aF kF .int (65536 : Int32) PI) (V_aO : Arp Z h0 aO kO .long (1024 : Int32) PJ) (V_aW : Arp Z h0 aW kW .long (16 : Int32) PJ) (Y_lo : LamO h0 lo cK kq) :
    MetFree l (⟨cQ, "remove", "(I)V"⟩ : MethodName) (head1 (Jvm.Cond.code (⟨cQ, "remove", "(I)V"⟩ : MethodName) prog_39_method_6_code 2 none :: ws) ({ frames := 4, cells := 0, slots := 0, locals := 60 } : Room)) (fun a U => a = #[(.ref kq), (.int en)] ∧ Z.WarmedH U.vm ∧ U.heap = h0) (fun _ _ _ _ _ => True) (fun _ U o U' => ∃ v L, o = .returned v ∧ Q_rm_kremove2 Z kq en aF aO aW aK aB aA aI hp lo aE aP cK kK kB kA kI kF kO kW kE kP bk ib0 ib1 sz en0 en1 po0 po1 mm0 mm1 fl h0 n0 v U'.heap L ∧ FrameEnd U o U' L ({ frames := 4, cells := 0, slots := 0, locals := 60 } : Room).cells ({ frames := 4, cells := 0, slots := 0, locals := 60 } : Room).slots) := by
  refine MetFree.of_bodySF (plainFor_of_name pn_2) hisR ?_
  intro p e s m args below meth c s₁ Bd hml0 hP hK
  obtain ⟨rfl, hZH, hh⟩ := hP
  have hZ := hZH.wide
  have hx := Bd.exec
  have hby := Bd.bytes
  have D := fun {pc : Nat} {r : Except ClassFile.DecodeError (ClassFile.Instr × Nat)} (q : decode prog_39_method_6_code pc = r) => hb (pc := pc) hby q
  have hml : c.maxLocals = 2 := hml0
  have hown : s.vm.findClass cQ = some m.cls := findClass_of_methodNamed Bd.named
  have hnm := (name_of_methodNamed Bd.named Bd.method).1
  have X0 : Stand p l e ({ frames := 4, cells := 0, slots := 0, locals := 60 } : Room) s m #[(.ref kq), (.int en)] below meth c s₁ [] 0 0 := Stand.of_body Bd
  have e0 : s₁.heap = h0 := by rw [← hh, Bd.state]; rfl
  have N0 := Fr.nil n0
  have pre0 : ∀ t, Steps p.tables e below (s₁.setTop (mkF m 0 #[.val (.ref kq), .val (.int en)] [])) t → Steps p.tables e below (s₁.setTop (entryFrame m #[(.ref kq), (.int en)] 2)) t := fun t k => castTop (ef_rm_kremove2 m (kq) (en)) k
  have wd := fun {d : Jvm.Cond} (i : Nat) (h : tables_1[i]? = some d) => hw d (List.mem_of_getElem? h)
  obtain ⟨T1, X1, e1, st1⟩ := getF X0 hx hZ hown (host := "") (Or.inl (wd 25 rfl)) Via.refl e0 F_kq_inBucket (g := (mkF m 1 #[.val (.ref kq), .val (.int en)] [(.ref kq)])) rfl rfl (D d8_1)
  obtain ⟨cl2, Ar2, q2, S2, Nn2, H2, G2⟩ := id V_aI
  have hin2 : ¬ (en < 0 ∨ cl2.slots.size ≤ (en).toNatClampNeg) := inb_of S2 (own_in2 he)
  obtain ⟨y2, hy2⟩ : ∃ y, y = g2 en ib0 ib1 := ⟨_, rfl⟩
  have hat2 := own_get2I H2 hin2 he hy2
  have cs3 : Steps p.tables e below (s₁.setTop (mkF m 0 #[.val (.ref kq), .val (.int en)] [])) (T1.setTop (mkF m 6 #[.val (.ref kq), .val (.int en)] [(.int y2)])) := (by
    refine s_aloadN X0 hx (D d8_0) rfl rfl ?_
    refine st1 _ ?_
    refine s_iloadN X1 hx (D d8_4) rfl ?_
    refine X1.baloadBooleans hx (j := en) (v := (.int y2)) (by rw [e1]; exact (Ar2).1) (State.isArrayOf_alike hZ.alike (Ar2).2.1) (Ar2).2.2 hin2 hat2 (g := (mkF m 5 #[.val (.ref kq), .val (.int en)] [(.int en), (.ref aI)])) rfl rfl (D d8_5) _ ?_
    exact Steps.refl _)
  by_cases hc4 : y2 = (0 : Int32)
  · obtain ⟨T5, X5, e5, st5⟩ := getF X1 hx hZ hown (host := "") (Or.inl (wd 49 rfl)) Via.refl e1 F_kq_further (g := (mkF m 18 #[.val (.ref kq), .val (.int en)] [(.ref kq)])) rfl rfl (D d8_18)
    obtain ⟨cq6, kq6, q6a, q6b, q6c⟩ := isOf hZ e5 E_hp
    obtain ⟨_, _, ⟨T6, L6, k6, n6⟩, -, X6, ⟨Lc6, hQ6, l6, y6, z6⟩, st6⟩ := X5.virtualBack hx (y := (⟨cH, "remove", "(I)V"⟩ : MethodName)) (z := (⟨cH, "remove", "(I)V"⟩ : MethodName)) hown (mvT hZ (wd 78 rfl)) (mvT hZ (wd 79 rfl)) (notFace_of_selects (args := #[]) (mvT hZ (wd 81 rfl))) (mvT hZ (wd 81 rfl)) (mvT hZ (wd 80 rfl)) (by decide) (own_backH (W := 0) (rm_hremove l Z a0 hw [] hp en kq aF aO aW aK aB aA aI lo aE aP cK kK kE kP sz en0 en1 po0 po1 h0 n0 O0 E_hp F_hp_order F_hp_entries F_hp_positions F_hp_size E_kq F_kq_keys MDc V_aE V_aP g_hp g_aE g_aP NDp KI0.1 he V_aK Y_lo) hZH (wd 82 rfl) (wd 33 rfl) (by decide) (by decide)) q6a q6c (g := (mkF m 22 #[.val (.ref kq), .val (.int en)] [(.int en), (.ref hp)])) rfl (by rw [hml]; rfl) (Steps.refl _) (argsL := [(.int en)]) (rest := []) (lenOf pd_4 rfl) rfl (by show 2 * 0 + _ ≤ _; exact Nat.le_of_eq rfl) (D d8_22) (fun _ _ => ⟨rfl, e5, (by decide : 0 + 0 ≤ _), (by decide : 0 + 0 ≤ _)⟩)
    dsimp only [Pt.U, Pt.locs, Pt.cells, Pt.slots] at X6 l6 y6 z6 st6 hQ6
    subst l6 y6 z6
    obtain ⟨ve0_6, ve1_6, vp0_6, vp1_6, vz__6, rfl, N6q, K6, Q6_0, Q6_1, Q6_2, Q6_3, Q6_4, Q6_5, Q6_6, Q6_7⟩ := hQ6
    have O6 := O0.keep K6 (allS g_hp (allS g_aE (allS g_aP all0)))
    have KK6 : Keep h0 T6.heap [kq, aB, aA, aI, aF, aO, aW, hp, aE, aP] := (Keep.refl h0 [kq, aB, aA, aI, aF, aO, aW, hp, aE, aP]).trans K6 (allS (own_mem 7 rfl) (allS (own_mem 8 rfl) (allS (own_mem 9 rfl) all0)))
    have N6 := Fr.app N0 N6q
    have f7 := (F_kq_keys.keep K6 (nn66 NDp))
    have f8 := (F_kq_before.keep K6 (nn66 NDp))
    have f9 := (F_kq_after.keep K6 (nn66 NDp))
    have f10 := (F_kq_inBucket.keep K6 (nn66 NDp))
    have f11 := (F_kq_firsts.keep K6 (nn66 NDp))
    have f12 := (F_kq_occupied.keep K6 (nn66 NDp))
    have f13 := (F_kq_occupiedWords.keep K6 (nn66 NDp))
    have f14 := (F_kq_further.keep K6 (nn66 NDp))
    have f15 := (F_kq_bucketed.keep K6 (nn66 NDp))
    have f16 := (F_kq_floor.keep K6 (nn66 NDp))
    have f17 := (V_aB.keep K6 (nn94 NDp))
    have f18 := (V_aA.keep K6 (nn95 NDp))
    have f19 := (V_aI.keep K6 (nn67 NDp))
    have f20 := (V_aF.keep K6 (nn68 NDp))
    have f21 := (V_aO.keep K6 (nn69 NDp))
    have f22 := (V_aW.keep K6 (nn70 NDp))
    obtain ⟨fs, hr, hrun, hended, hW, hsame⟩ := X6.leave (v := none) (fun _ => rfl)
    refine ⟨_, _, pre0 _ ?_, hrun, hended, _, _, rfl, ?_, ⟨_, rfl⟩, hW, hsame.mono (by decide) (by decide)⟩
    · refine cs3.trans ?_
      refine s_ifYes X1 hx 17 (D d8_6) ((if0 _ _).trans (teq hc4).1) (of_decide_eq_true rfl) rfl ?_
      refine s_aloadN X1 hx (D d8_17) rfl rfl ?_
      refine st5 _ ?_
      refine s_iloadN X5 hx (D d8_21) rfl ?_
      refine st6.trans ?_
      exact X6.returnOut hx Bd.returns (D d8_25) hr
    · show Q_rm_kremove2 Z kq en aF aO aW aK aB aA aI hp lo aE aP cK kK kB kA kI kF kO kW kE kP bk ib0 ib1 sz en0 en1 po0 po1 mm0 mm1 fl h0 n0 _ T6.heap _
      exact ⟨ve0_6, ve1_6, vp0_6, vp1_6, vz__6, bk, ib0, ib1, rfl, N6, KK6, f7, f8, f9, f10, f11, f12, f13, f14, f15, f16, f17, f18, f19, f20, f21, f22, Q6_0, Q6_1, Q6_2, Q6_3, Q6_4, Q6_5, (own_kh KI0 hy2 hc4 Q6_6)⟩
  · obtain ⟨cq23, q23, q23'⟩ := E_kq.cell
    obtain ⟨_, _, ⟨T23, L23, k23, n23⟩, -, X23, ⟨Lc23, hQ23, l23, y23, z23⟩, st23⟩ := X1.privateBack hx (y := (⟨cQ, "unlink", "(I)V"⟩ : MethodName)) hown (mvT hZ (wd 123 rfl)) (mvT hZ (wd 124 rfl)) (own_selpriv (y := (⟨cQ, "unlink", "(I)V"⟩ : MethodName)) (mvT hZ (wd 54 rfl)) rfl (Cond.privateMethod_at (mvP hZ (wd 125 rfl) (args := #[]))) (mvT hZ (wd 124 rfl)) (by decide)) (Cond.privateMethod_at (mvP hZ (wd 125 rfl) (args := #[]))) (mvT hZ (wd 126 rfl)) (by decide) (own_backH (W := 0) (rm_kunlink2 l Z a0 hw [] kq en aF aO aW aK aB aA aI hp lo aE aP kK kB kA kI kF kO kW bk ib0 ib1 fl h0 n0 O0 E_kq F_kq_keys F_kq_before F_kq_after F_kq_inBucket F_kq_firsts F_kq_occupied F_kq_occupiedWords F_kq_further F_kq_bucketed F_kq_floor V_aI NDp he g_kq g_aB g_aA g_aI g_aF g_aO g_aW V_aK V_aB V_aA V_aF V_aO V_aW) hZH (wd 126 rfl) (wd 2 rfl) (by decide) (by decide)) (g := (mkF m 11 #[.val (.ref kq), .val (.int en)] [(.int en), (.ref kq)])) rfl (by rw [hml]; rfl) (Steps.refl _) (a := kq) (by rw [e1]; exact q23) q23' (argsL := [(.int en)]) (rest := []) (lenOf pd_4 rfl) rfl (by show 2 * 0 + _ ≤ _; exact Nat.le_of_eq rfl) (D d8_11) (fun _ _ => ⟨rfl, e1, (by decide : 0 + 0 ≤ _), (by decide : 0 + 0 ≤ _)⟩)
    dsimp only [Pt.U, Pt.locs, Pt.cells, Pt.slots] at X23 l23 y23 z23 st23 hQ23
    subst l23 y23 z23
    obtain ⟨rfl, N23q, K23, Q23_0, Q23_1, Q23_2, Q23_3, Q23_4, Q23_5, Q23_6, Q23_7, Q23_8, Q23_9, Q23_10, Q23_11, Q23_12, Q23_13, Q23_14, Q23_15⟩ := hQ23
    have O23 := O0.keep K23 (allS g_kq (allS g_aB (allS g_aA (allS g_aI (allS g_aF (allS g_aO (allS g_aW all0)))))))
    have KK23 : Keep h0 T23.heap [kq, aB, aA, aI, aF, aO, aW, hp, aE, aP] := (Keep.refl h0 [kq, aB, aA, aI, aF, aO, aW, hp, aE, aP]).trans K23 (allS (own_mem 0 rfl) (allS (own_mem 1 rfl) (allS (own_mem 2 rfl) (allS (own_mem 3 rfl) (allS (own_mem 4 rfl) (allS (own_mem 5 rfl) (allS (own_mem 6 rfl) all0)))))))
    have N23 := Fr.app N0 N23q
    have f24 := (F_hp_order.keep K23 (nn86 NDp))
    have f25 := (F_hp_entries.keep K23 (nn86 NDp))
    have f26 := (F_hp_positions.keep K23 (nn86 NDp))
    have f27 := (F_hp_size.keep K23 (nn86 NDp))
    have f28 := (V_aE.keep K23 (nn88 NDp))
    have f29 := (V_aP.keep K23 (nn90 NDp))
    obtain ⟨fs, hr, hrun, hended, hW, hsame⟩ := X23.leave (v := none) (fun _ => rfl)
    refine ⟨_, _, pre0 _ ?_, hrun, hended, _, _, rfl, ?_, ⟨_, rfl⟩, hW, hsame.mono (by decide) (by decide)⟩
    · refine cs3.trans ?_
      refine s_ifNo X1 hx (D d8_6) ((if0 _ _).trans (feq hc4).1) ?_
      refine s_aloadN X1 hx (D d8_9) rfl rfl ?_
      refine s_iloadN X1 hx (D d8_10) rfl ?_
      refine st23.trans ?_
      refine s_goto X23 hx 25 (D d8_14) (of_decide_eq_true rfl) rfl ?_
      exact X23.returnOut hx Bd.returns (D d8_25) hr
    · show Q_rm_kremove2 Z kq en aF aO aW aK aB aA aI hp lo aE aP cK kK kB kA kI kF kO kW kE kP bk ib0 ib1 sz en0 en1 po0 po1 mm0 mm1 fl h0 n0 _ T23.heap _
      exact ⟨en0, en1, po0, po1, sz, (bk - (1 : Int32)), (s2 en 0 (0 : Int32) ib0), (s2 en 1 (0 : Int32) ib1), rfl, N23, KK23, Q23_0, Q23_1, Q23_2, Q23_3, Q23_4, Q23_5, Q23_6, Q23_7, Q23_8, Q23_9, Q23_10, Q23_11, Q23_12, Q23_13, Q23_14, Q23_15, f24, f25, f26, f27, f28, f29, (own_ku KI0 he hy2 hc4)⟩
theorem own_ite1 {p : Int32} : (if p = (0 : Int32) then (1 : Int32) else (0 : Int32)) = (0 : Int32) ↔ ¬ p = 0 := by
  by_cases h : p = 0
  · simp [h]
  · simp [h]
theorem d5_0 : decode prog_39_method_2_code 0 = .ok (.aload_n 0, 1) := by decide +kernel
theorem d5_1 : decode prog_39_method_2_code 1 = .ok (.getfield 54, 3) := by decide +kernel
theorem d5_4 : decode prog_39_method_2_code 4 = .ok (.ifCond .ne 17, 3) := by decide +kernel
theorem d5_7 : decode prog_39_method_2_code 7 = .ok (.aload_n 0, 1) := by decide +kernel
theorem d5_8 : decode prog_39_method_2_code 8 = .ok (.getfield 50, 3) := by decide +kernel
theorem d5_11 : decode prog_39_method_2_code 11 = .ok (.invokevirtual 58, 3) := by decide +kernel
theorem d5_14 : decode prog_39_method_2_code 14 = .ok (.ifCond .eq 7, 3) := by decide +kernel
theorem d5_17 : decode prog_39_method_2_code 17 = .ok (.iconst 1, 1) := by decide +kernel
theorem d5_18 : decode prog_39_method_2_code 18 = .ok (.goto 4, 3) := by decide +kernel
theorem d5_21 : decode prog_39_method_2_code 21 = .ok (.iconst 0, 1) := by decide +kernel
theorem d5_22 : decode prog_39_method_2_code 22 = .ok (.ireturn, 1) := by decide +kernel
theorem pd_6 : parseMethodDescriptor "()Z" = some ⟨[], some .boolean⟩ := by decide +kernel
theorem ef_rm_kisEmpty (m : MethodId) (x0 : Addr) : entryFrame m #[(.ref x0)] 1 = mkF m 0 #[.val (.ref x0)] [] := by first | (simp [entryFrame, mkF, argsToLocals, Value.category]; done) | rfl
def Q_rm_kisEmpty (Z : State) (kq : Addr) (hp : Addr) (bk ib0 ib1 sz en0 en1 po0 po1 mm0 mm1 : Int32) (h0 : Heap) (n0 : Nat) (v : Option Value) (h : Heap) (L : List Loc) : Prop := v = some (.int (EM mm0 mm1)) ∧ Fr n0 L ∧ h = h0
set_option maxRecDepth 65536 in
set_option maxHeartbeats 40000000 in
theorem rm_kisEmpty (l : Launch) (Z : State) (a0 : Array Value) (hw : ∀ d ∈ tables_1, d.before a0 Z = true) (ws : List Jvm.Cond) (kq : Addr) (hp : Addr) (bk ib0 ib1 sz en0 en1 po0 po1 mm0 mm1 : Int32) (h0 : Heap) (n0 : Nat) (O0 : Old Z n0 h0) (E_kq : Exa Z h0 kq cQ) (F_kq_further : Fld Z h0 kq cQ "further" "Lcom/example/leasewise/leasewise/IndexedHeap;" (.ref hp)) (F_kq_bucketed : Fld Z h0 kq cQ "bucketed" "I" (.int bk)) (E_hp : Exa Z h0 hp cH) (F_hp_size : Fld Z h0 hp cH "size" "I" (.int sz)) (KI0 : KI bk sz en0 en1 po0 po1 ib0 ib1 mm0 mm1) :
    MetFree l (⟨cQ, "isEmpty", "()Z"⟩ : MethodName) (head1 (Jvm.Cond.code (⟨cQ, "isEmpty", "()Z"⟩ : MethodName) prog_39_method_2_code 1 (some .boolean) :: ws) ({ frames := 1, cells := 0, slots := 0, locals := 12 } : Room)) (fun a U => a = #[(.ref kq)] ∧ Z.WarmedH U.vm ∧ U.heap = h0) (fun _ _ _ _ _ => True) (fun _ U o U' => ∃ v L, o = .returned v ∧ Q_rm_kisEmpty Z kq hp bk ib0 ib1 sz en0 en1 po0 po1 mm0 mm1 h0 n0 v U'.heap L ∧ FrameEnd U o U' L ({ frames := 1, cells := 0, slots := 0, locals := 12 } : Room).cells ({ frames := 1, cells := 0, slots := 0, locals := 12 } : Room).slots) := by
  refine MetFree.of_bodySF (plainFor_of_name pn_2) hisR ?_
  intro p e s m args below meth c s₁ Bd hml0 hP hK
  obtain ⟨rfl, hZH, hh⟩ := hP
  have hZ := hZH.wide
  have hx := Bd.exec
  have hby := Bd.bytes
  have D := fun {pc : Nat} {r : Except ClassFile.DecodeError (ClassFile.Instr × Nat)} (q : decode prog_39_method_2_code pc = r) => hb (pc := pc) hby q
  have hml : c.maxLocals = 1 := hml0
  have hown : s.vm.findClass cQ = some m.cls := findClass_of_methodNamed Bd.named
  have hnm := (name_of_methodNamed Bd.named Bd.method).1
  have X0 : Stand p l e ({ frames := 1, cells := 0, slots := 0, locals := 12 } : Room) s m #[(.ref kq)] below meth c s₁ [] 0 0 := Stand.of_body Bd
  have e0 : s₁.heap = h0 := by rw [← hh, Bd.state]; rfl
  have N0 := Fr.nil n0
  have pre0 : ∀ t, Steps p.tables e below (s₁.setTop (mkF m 0 #[.val (.ref kq)] [])) t → Steps p.tables e below (s₁.setTop (entryFrame m #[(.ref kq)] 1)) t := fun t k => castTop (ef_rm_kisEmpty m (kq)) k
  have wd := fun {d : Jvm.Cond} (i : Nat) (h : tables_1[i]? = some d) => hw d (List.mem_of_getElem? h)
  obtain ⟨T1, X1, e1, st1⟩ := getF X0 hx hZ hown (host := "") (Or.inl (wd 56 rfl)) Via.refl e0 F_kq_bucketed (g := (mkF m 1 #[.val (.ref kq)] [(.ref kq)])) rfl rfl (D d5_1)
  have cs2 : Steps p.tables e below (s₁.setTop (mkF m 0 #[.val (.ref kq)] [])) (T1.setTop (mkF m 4 #[.val (.ref kq)] [(.int bk)])) := (by
    refine s_aloadN X0 hx (D d5_0) rfl rfl ?_
    refine st1 _ ?_
    exact Steps.refl _)
  by_cases hc3 : bk = (0 : Int32)
  · obtain ⟨T4, X4, e4, st4⟩ := getF X1 hx hZ hown (host := "") (Or.inl (wd 49 rfl)) Via.refl e1 F_kq_further (g := (mkF m 8 #[.val (.ref kq)] [(.ref kq)])) rfl rfl (D d5_8)
    obtain ⟨cq5, kq5, q5a, q5b, q5c⟩ := isOf hZ e4 E_hp
    obtain ⟨_, _, ⟨T5, L5, k5, n5⟩, -, X5, ⟨Lc5, hQ5, l5, y5, z5⟩, st5⟩ := X4.virtualBack hx (y := (⟨cH, "isEmpty", "()Z"⟩ : MethodName)) (z := (⟨cH, "isEmpty", "()Z"⟩ : MethodName)) hown (mvT hZ (wd 58 rfl)) (mvT hZ (wd 59 rfl)) (notFace_of_selects (args := #[]) (mvT hZ (wd 61 rfl))) (mvT hZ (wd 61 rfl)) (mvT hZ (wd 60 rfl)) (by decide) (own_backH (W := 0) (rm_hisEmpty l Z a0 hw [] hp sz h0 n0 O0 E_hp F_hp_size) hZH (wd 62 rfl) (wd 33 rfl) (by decide) (by decide)) q5a q5c (g := (mkF m 11 #[.val (.ref kq)] [(.ref hp)])) rfl (by rw [hml]; rfl) (Steps.refl _) (argsL := []) (rest := []) (lenOf pd_6 rfl) rfl (by show 2 * 0 + _ ≤ _; exact Nat.le_of_eq rfl) (D d5_11) (fun _ _ => ⟨rfl, e4, (by decide : 0 + 0 ≤ _), (by decide : 0 + 0 ≤ _)⟩)
    dsimp only [Pt.U, Pt.locs, Pt.cells, Pt.slots] at X5 l5 y5 z5 st5 hQ5
    subst l5 y5 z5
    obtain ⟨rfl, N5q, e5⟩ := hQ5
    have N5 := Fr.app N0 N5q
    have cs6 : Steps p.tables e below (s₁.setTop (mkF m 0 #[.val (.ref kq)] [])) (T5.setTop (mkF m 14 #[.val (.ref kq)] [(.int (if sz = (0 : Int32) then (1 : Int32) else (0 : Int32)))])) := cs2.trans (by
      refine s_ifNo X1 hx (D d5_4) ((if0 _ _).trans (teq hc3).2) ?_
      refine s_aloadN X1 hx (D d5_7) rfl rfl ?_
      refine st4 _ ?_
      refine st5.trans ?_
      exact Steps.refl _)
    by_cases hc7 : (if sz = (0 : Int32) then (1 : Int32) else (0 : Int32)) = (0 : Int32)
    · obtain ⟨fs, hr, hrun, hended, hW, hsame⟩ := X5.leave (v := some (.int (0 : Int32))) (fun h => by rw [Bd.returns] at h; cases h)
      refine ⟨_, _, pre0 _ ?_, hrun, hended, _, _, rfl, ?_, ⟨_, rfl⟩, hW, hsame.mono (by decide) (by decide)⟩
      · refine cs6.trans ?_
        refine s_ifYes X5 hx 21 (D d5_14) ((if0 _ _).trans (teq hc7).1) (of_decide_eq_true rfl) rfl ?_
        refine s_iconst X5 hx (0 : Int32) (D d5_21) rfl ?_
        exact retN X5 hx (t := .boolean) Bd.returns (by simp) (D d5_22) hr
      · show Q_rm_kisEmpty Z kq hp bk ib0 ib1 sz en0 en1 po0 po1 mm0 mm1 h0 n0 _ T5.heap _
        rw [e5]
        exact ⟨by rw [own_em KI0, if_neg (fun z => own_ite1.mp hc7 z.2)], N5, rfl⟩
    · obtain ⟨fs, hr, hrun, hended, hW, hsame⟩ := X5.leave (v := some (.int (1 : Int32))) (fun h => by rw [Bd.returns] at h; cases h)
      refine ⟨_, _, pre0 _ ?_, hrun, hended, _, _, rfl, ?_, ⟨_, rfl⟩, hW, hsame.mono (by decide) (by decide)⟩
      · refine cs6.trans ?_
        refine s_ifNo X5 hx (D d5_14) ((if0 _ _).trans (feq hc7).1) ?_
        refine s_iconst X5 hx (1 : Int32) (D d5_17) rfl ?_
        refine s_goto X5 hx 22 (D d5_18) (of_decide_eq_true rfl) rfl ?_
        exact retN X5 hx (t := .boolean) Bd.returns (by simp) (D d5_22) hr
      · show Q_rm_kisEmpty Z kq hp bk ib0 ib1 sz en0 en1 po0 po1 mm0 mm1 h0 n0 _ T5.heap _
        rw [e5]
        exact ⟨by rw [own_em KI0, if_pos ⟨hc3, Classical.byContradiction fun z => hc7 (own_ite1.mpr z)⟩], N5, rfl⟩
  · obtain ⟨fs, hr, hrun, hended, hW, hsame⟩ := X1.leave (v := some (.int (0 : Int32))) (fun h => by rw [Bd.returns] at h; cases h)
    refine ⟨_, _, pre0 _ ?_, hrun, hended, _, _, rfl, ?_, ⟨_, rfl⟩, hW, hsame.mono (by decide) (by decide)⟩
    · refine cs2.trans ?_
      refine s_ifYes X1 hx 21 (D d5_4) ((if0 _ _).trans (feq hc3).2) (of_decide_eq_true rfl) rfl ?_
      refine s_iconst X1 hx (0 : Int32) (D d5_21) rfl ?_
      exact retN X1 hx (t := .boolean) Bd.returns (by simp) (D d5_22) hr
    · show Q_rm_kisEmpty Z kq hp bk ib0 ib1 sz en0 en1 po0 po1 mm0 mm1 h0 n0 _ T1.heap _
      rw [e1]
      exact ⟨by rw [own_em KI0, if_neg (fun z => hc3 z.1)], N0, rfl⟩
theorem d17_0 : decode jdk_29_method_66_code 0 = .ok (.lload_n 0, 1) := by decide +kernel
theorem d17_1 : decode jdk_29_method_66_code 1 = .ok (.lload_n 2, 1) := by decide +kernel
theorem d17_2 : decode jdk_29_method_66_code 2 = .ok (.lcmp, 1) := by decide +kernel
theorem d17_3 : decode jdk_29_method_66_code 3 = .ok (.ifCond .lt 7, 3) := by decide +kernel
theorem d17_6 : decode jdk_29_method_66_code 6 = .ok (.lload_n 0, 1) := by decide +kernel
theorem d17_7 : decode jdk_29_method_66_code 7 = .ok (.goto 4, 3) := by decide +kernel
theorem d17_10 : decode jdk_29_method_66_code 10 = .ok (.lload_n 2, 1) := by decide +kernel
theorem d17_11 : decode jdk_29_method_66_code 11 = .ok (.lreturn, 1) := by decide +kernel
theorem ef_rm_max (m : MethodId) (x0 : Int64) (x1 : Int64) : entryFrame m #[(.long x0), (.long x1)] 4 = mkF m 0 #[.val (.long x0), .second, .val (.long x1), .second] [] := by first | (simp [entryFrame, mkF, argsToLocals, Value.category]; done) | rfl
def Q_rm_max (Z : State) (x : Int64) (y : Int64) (h0 : Heap) (n0 : Nat) (v : Option Value) (h : Heap) (L : List Loc) : Prop := v = some (.long (if lcmpW x y < 0 then y else x)) ∧ Fr n0 L ∧ h = h0
set_option maxRecDepth 65536 in
set_option maxHeartbeats 40000000 in
theorem rm_max (l : Launch) (Z : State) (a0 : Array Value) (hw : ∀ d ∈ tables_1, d.before a0 Z = true) (ws : List Jvm.Cond) (x : Int64) (y : Int64) (h0 : Heap) (n0 : Nat) (O0 : Old Z n0 h0) :
    MetFree l (⟨"java/lang/Math", "max", "(JJ)J"⟩ : MethodName) (head1 (Jvm.Cond.code (⟨"java/lang/Math", "max", "(JJ)J"⟩ : MethodName) jdk_29_method_66_code 4 (some .long) :: ws) ({ frames := 0, cells := 0, slots := 0, locals := 0 } : Room)) (fun a U => a = #[(.long x), (.long y)] ∧ Z.WarmedH U.vm ∧ U.heap = h0) (fun _ _ _ _ _ => True) (fun _ U o U' => ∃ v L, o = .returned v ∧ Q_rm_max Z x y h0 n0 v U'.heap L ∧ FrameEnd U o U' L ({ frames := 0, cells := 0, slots := 0, locals := 0 } : Room).cells ({ frames := 0, cells := 0, slots := 0, locals := 0 } : Room).slots) := by
  refine MetFree.of_bodySF (Jvm.Free.JP.mathPlain rfl (by decide +kernel)) hisR ?_
  intro p e s m args below meth c s₁ Bd hml0 hP hK
  obtain ⟨rfl, hZH, hh⟩ := hP
  have hZ := hZH.wide
  have hx := Bd.exec
  have hby := Bd.bytes
  have D := fun {pc : Nat} {r : Except ClassFile.DecodeError (ClassFile.Instr × Nat)} (q : decode jdk_29_method_66_code pc = r) => hb (pc := pc) hby q
  have hml : c.maxLocals = 4 := hml0
  have hown : s.vm.findClass "java/lang/Math" = some m.cls := findClass_of_methodNamed Bd.named
  have hnm := (name_of_methodNamed Bd.named Bd.method).1
  have X0 : Stand p l e ({ frames := 0, cells := 0, slots := 0, locals := 0 } : Room) s m #[(.long x), (.long y)] below meth c s₁ [] 0 0 := Stand.of_body Bd
  have e0 : s₁.heap = h0 := by rw [← hh, Bd.state]; rfl
  have N0 := Fr.nil n0
  have pre0 : ∀ t, Steps p.tables e below (s₁.setTop (mkF m 0 #[.val (.long x), .second, .val (.long y), .second] [])) t → Steps p.tables e below (s₁.setTop (entryFrame m #[(.long x), (.long y)] 4)) t := fun t k => castTop (ef_rm_max m (x) (y)) k
  have wd := fun {d : Jvm.Cond} (i : Nat) (h : tables_1[i]? = some d) => hw d (List.mem_of_getElem? h)
  have cs1 : Steps p.tables e below (s₁.setTop (mkF m 0 #[.val (.long x), .second, .val (.long y), .second] [])) (s₁.setTop (mkF m 3 #[.val (.long x), .second, .val (.long y), .second] [(.int (lcmpW x y))])) := (by
    refine s_lloadN X0 hx (D d17_0) rfl ?_
    refine s_lloadN X0 hx (D d17_1) rfl ?_
    refine s_lcmp X0 hx (D d17_2) rfl ?_
    exact Steps.refl _)
  by_cases hc2 : (lcmpW x y) < (0 : Int32)
  · obtain ⟨fs, hr, hrun, hended, hW, hsame⟩ := X0.leave (v := some (.long y)) (fun h => by rw [Bd.returns] at h; cases h)
    refine ⟨_, _, pre0 _ ?_, hrun, hended, _, _, rfl, ?_, ⟨_, rfl⟩, hW, hsame.mono (by decide) (by decide)⟩
    · refine cs1.trans ?_
      refine s_ifYes X0 hx 10 (D d17_3) ((if0 _ _).trans (tlt hc2).1) (of_decide_eq_true rfl) rfl ?_
      refine s_lloadN X0 hx (D d17_10) rfl ?_
      jvm_step X0.here [X0.here.top, hx, (D d17_11), X0.method', Bd.returns, narrow]
      first | (intro acts; rw [hr _ acts rfl rfl rfl]) | rw [hr _ _ rfl rfl rfl]
      exact Steps.refl _
    · show Q_rm_max Z x y h0 n0 _ s₁.heap _
      rw [e0]
      exact ⟨by rw [if_pos hc2], N0, rfl⟩
  · obtain ⟨fs, hr, hrun, hended, hW, hsame⟩ := X0.leave (v := some (.long x)) (fun h => by rw [Bd.returns] at h; cases h)
    refine ⟨_, _, pre0 _ ?_, hrun, hended, _, _, rfl, ?_, ⟨_, rfl⟩, hW, hsame.mono (by decide) (by decide)⟩
    · refine cs1.trans ?_
      refine s_ifNo X0 hx (D d17_3) ((if0 _ _).trans (flt hc2).1) ?_
      refine s_lloadN X0 hx (D d17_6) rfl ?_
      refine s_goto X0 hx 11 (D d17_7) (of_decide_eq_true rfl) rfl ?_
      jvm_step X0.here [X0.here.top, hx, (D d17_11), X0.method', Bd.returns, narrow]
      first | (intro acts; rw [hr _ acts rfl rfl rfl]) | rw [hr _ _ rfl rfl rfl]
      exact Steps.refl _
    · show Q_rm_max Z x y h0 n0 _ s₁.heap _
      rw [e0]
      exact ⟨by rw [if_neg hc2], N0, rfl⟩
theorem d26_0 : decode jdk_29_method_70_code 0 = .ok (.lload_n 0, 1) := by decide +kernel
theorem d26_1 : decode jdk_29_method_70_code 1 = .ok (.lload_n 2, 1) := by decide +kernel
theorem d26_2 : decode jdk_29_method_70_code 2 = .ok (.lcmp, 1) := by decide +kernel
theorem d26_3 : decode jdk_29_method_70_code 3 = .ok (.ifCond .gt 7, 3) := by decide +kernel
theorem d26_6 : decode jdk_29_method_70_code 6 = .ok (.lload_n 0, 1) := by decide +kernel
theorem d26_7 : decode jdk_29_method_70_code 7 = .ok (.goto 4, 3) := by decide +kernel
theorem d26_10 : decode jdk_29_method_70_code 10 = .ok (.lload_n 2, 1) := by decide +kernel
theorem d26_11 : decode jdk_29_method_70_code 11 = .ok (.lreturn, 1) := by decide +kernel
theorem ef_rm_min (m : MethodId) (x0 : Int64) (x1 : Int64) : entryFrame m #[(.long x0), (.long x1)] 4 = mkF m 0 #[.val (.long x0), .second, .val (.long x1), .second] [] := by first | (simp [entryFrame, mkF, argsToLocals, Value.category]; done) | rfl
def Q_rm_min (Z : State) (x : Int64) (y : Int64) (h0 : Heap) (n0 : Nat) (v : Option Value) (h : Heap) (L : List Loc) : Prop := v = some (.long (if 0 < lcmpW x y then y else x)) ∧ Fr n0 L ∧ h = h0
set_option maxRecDepth 65536 in
set_option maxHeartbeats 40000000 in
theorem rm_min (l : Launch) (Z : State) (a0 : Array Value) (hw : ∀ d ∈ tables_1, d.before a0 Z = true) (ws : List Jvm.Cond) (x : Int64) (y : Int64) (h0 : Heap) (n0 : Nat) (O0 : Old Z n0 h0) :
    MetFree l (⟨"java/lang/Math", "min", "(JJ)J"⟩ : MethodName) (head1 (Jvm.Cond.code (⟨"java/lang/Math", "min", "(JJ)J"⟩ : MethodName) jdk_29_method_70_code 4 (some .long) :: ws) ({ frames := 0, cells := 0, slots := 0, locals := 0 } : Room)) (fun a U => a = #[(.long x), (.long y)] ∧ Z.WarmedH U.vm ∧ U.heap = h0) (fun _ _ _ _ _ => True) (fun _ U o U' => ∃ v L, o = .returned v ∧ Q_rm_min Z x y h0 n0 v U'.heap L ∧ FrameEnd U o U' L ({ frames := 0, cells := 0, slots := 0, locals := 0 } : Room).cells ({ frames := 0, cells := 0, slots := 0, locals := 0 } : Room).slots) := by
  refine MetFree.of_bodySF (Jvm.Free.JP.mathPlain rfl (by decide +kernel)) hisR ?_
  intro p e s m args below meth c s₁ Bd hml0 hP hK
  obtain ⟨rfl, hZH, hh⟩ := hP
  have hZ := hZH.wide
  have hx := Bd.exec
  have hby := Bd.bytes
  have D := fun {pc : Nat} {r : Except ClassFile.DecodeError (ClassFile.Instr × Nat)} (q : decode jdk_29_method_70_code pc = r) => hb (pc := pc) hby q
  have hml : c.maxLocals = 4 := hml0
  have hown : s.vm.findClass "java/lang/Math" = some m.cls := findClass_of_methodNamed Bd.named
  have hnm := (name_of_methodNamed Bd.named Bd.method).1
  have X0 : Stand p l e ({ frames := 0, cells := 0, slots := 0, locals := 0 } : Room) s m #[(.long x), (.long y)] below meth c s₁ [] 0 0 := Stand.of_body Bd
  have e0 : s₁.heap = h0 := by rw [← hh, Bd.state]; rfl
  have N0 := Fr.nil n0
  have pre0 : ∀ t, Steps p.tables e below (s₁.setTop (mkF m 0 #[.val (.long x), .second, .val (.long y), .second] [])) t → Steps p.tables e below (s₁.setTop (entryFrame m #[(.long x), (.long y)] 4)) t := fun t k => castTop (ef_rm_min m (x) (y)) k
  have wd := fun {d : Jvm.Cond} (i : Nat) (h : tables_1[i]? = some d) => hw d (List.mem_of_getElem? h)
  have cs1 : Steps p.tables e below (s₁.setTop (mkF m 0 #[.val (.long x), .second, .val (.long y), .second] [])) (s₁.setTop (mkF m 3 #[.val (.long x), .second, .val (.long y), .second] [(.int (lcmpW x y))])) := (by
    refine s_lloadN X0 hx (D d26_0) rfl ?_
    refine s_lloadN X0 hx (D d26_1) rfl ?_
    refine s_lcmp X0 hx (D d26_2) rfl ?_
    exact Steps.refl _)
  by_cases hc2 : (0 : Int32) < (lcmpW x y)
  · obtain ⟨fs, hr, hrun, hended, hW, hsame⟩ := X0.leave (v := some (.long y)) (fun h => by rw [Bd.returns] at h; cases h)
    refine ⟨_, _, pre0 _ ?_, hrun, hended, _, _, rfl, ?_, ⟨_, rfl⟩, hW, hsame.mono (by decide) (by decide)⟩
    · refine cs1.trans ?_
      refine s_ifYes X0 hx 10 (D d26_3) ((if0 _ _).trans (tlt hc2).2.2.1) (of_decide_eq_true rfl) rfl ?_
      refine s_lloadN X0 hx (D d26_10) rfl ?_
      jvm_step X0.here [X0.here.top, hx, (D d26_11), X0.method', Bd.returns, narrow]
      first | (intro acts; rw [hr _ acts rfl rfl rfl]) | rw [hr _ _ rfl rfl rfl]
      exact Steps.refl _
    · show Q_rm_min Z x y h0 n0 _ s₁.heap _
      rw [e0]
      exact ⟨by rw [if_pos hc2], N0, rfl⟩
  · obtain ⟨fs, hr, hrun, hended, hW, hsame⟩ := X0.leave (v := some (.long x)) (fun h => by rw [Bd.returns] at h; cases h)
    refine ⟨_, _, pre0 _ ?_, hrun, hended, _, _, rfl, ?_, ⟨_, rfl⟩, hW, hsame.mono (by decide) (by decide)⟩
    · refine cs1.trans ?_
      refine s_ifNo X0 hx (D d26_3) ((if0 _ _).trans (flt hc2).2.2.1) ?_
      refine s_lloadN X0 hx (D d26_6) rfl ?_
      refine s_goto X0 hx 11 (D d26_7) (of_decide_eq_true rfl) rfl ?_
      jvm_step X0.here [X0.here.top, hx, (D d26_11), X0.method', Bd.returns, narrow]
      first | (intro acts; rw [hr _ acts rfl rfl rfl]) | rw [hr _ _ rfl rfl rfl]
      exact Steps.refl _
    · show Q_rm_min Z x y h0 n0 _ s₁.heap _
      rw [e0]
      exact ⟨by rw [if_neg hc2], N0, rfl⟩
theorem own_all2 {P : Jvm.Cond → Prop} {a b : Jvm.Cond} (h1 : P a) (h2 : P b) : ∀ w ∈ [a, b], P w := fun w hm => by
  simp only [List.mem_cons, List.not_mem_nil, or_false] at hm
  rcases hm with rfl | rfl
  · exact h1
  · exact h2
theorem own_all4 {P : Jvm.Cond → Prop} {a b d e : Jvm.Cond} (h1 : P a) (h2 : P b) (h3 : P d) (h4 : P e) : ∀ w ∈ [a, b, d, e], P w := fun w hm => by
  simp only [List.mem_cons, List.not_mem_nil, or_false] at hm
  rcases hm with rfl | rfl | rfl | rfl
  · exact h1
  · exact h2
  · exact h3
  · exact h4
theorem own_ntab {Z s : State} {a0 args : Array Value} (hw : ∀ d ∈ tables_1, d.before a0 Z = true) (hZ : Z.Warmed39 s.vm) : Jvm.Free.JP.Long_numberOfTrailingZeros_J.tab.before args s = true := by
  have wd := fun {d : Jvm.Cond} (i : Nat) (h : tables_1[i]? = some d) => hw d (List.mem_of_getElem? h)
  have hi : Jvm.Free.JP.Integer_numberOfTrailingZeros_I.tab.before args s = true := Jvm.Free.XT.unparts (mvT hZ (wd 116 rfl)) (own_all2 (mvT hZ (wd 115 rfl)) (mvT hZ (wd 117 rfl)))
  exact Jvm.Free.XT.unparts (mvT hZ (wd 112 rfl)) (own_all4 (mvT hZ (wd 111 rfl)) hi (mvT hZ (wd 113 rfl)) (mvT hZ (wd 114 rfl)))
def Q_rm_ntz (Z : State) (x : Int64) (h0 : Heap) (n0 : Nat) (v : Option Value) (h : Heap) (L : List Loc) : Prop := v = some (.int (Jvm.Free.JP.Long_numberOfTrailingZeros_J.val x)) ∧ Fr n0 L ∧ h = h0
theorem own_nback {l : Launch} {R : Room} {p : Program} {e : Env} {below : List Frame} {s Z : State} {sargs : Array Value} {h : Heap} {len W n0 : Nat} (x : Int64) (ht : Jvm.Free.JP.Long_numberOfTrailingZeros_J.tab.before sargs s = true) (hf : 2 ≤ R.frames) (hl : W + 28 ≤ R.locals) :
    Back l R p e below s sargs (⟨"java/lang/Long", "numberOfTrailingZeros", "(J)I"⟩ : MethodName) len W (fun A a => a = #[.long x] ∧ A.U.heap = h ∧ A.cells + 0 ≤ R.cells ∧ A.slots + 0 ≤ R.slots) (fun A _ v B => ∃ L, Q_rm_ntz Z x h n0 v B.U.heap L ∧ B.locs = A.locs ++ L ∧ B.cells = A.cells + 0 ∧ B.slots = A.slots + 0) := by
  have q := Jvm.Free.JP.Long_numberOfTrailingZeros_J.pays (l := l) (R := R) (p := p) (e := e) (below := below) (s := s) (sargs := sargs) (len := len) (W := W) x ht hf hl
  intro m meth c A g ig mk a X hg hsize hdg hW hn hp
  obtain ⟨v, B, X', ⟨⟨hv, hheap⟩, hl', hc', hs'⟩, st⟩ := q m meth c A g ig mk a X hg hsize hdg hW hn ⟨hp.2.2.1, hp.2.2.2, hp.1, trivial⟩
  exact ⟨v, B, X', ⟨[], ⟨hv, Fr.nil n0, hheap.trans hp.2.1⟩, hl', hc', hs'⟩, st⟩
theorem own_ntz {a : Int64} (h : ¬ a = 0) : ∃ t, t < 64 ∧ Jvm.Free.JP.Long_numberOfTrailingZeros_J.val a = Int32.ofNat t ∧ bt a t = true := by
  have hn : a.toBitVec.toNat ≠ 0 := fun e => h (Int64.toBitVec_inj.mp (BitVec.eq_of_toNat_eq (by rw [e]; rfl)))
  obtain ⟨t, ht⟩ := Jvm.Free.JM.low_ex _ hn
  exact ⟨t, ht.lt a.toBitVec.isLt, Jvm.Free.JM.ntz64 ht, ht.at⟩
theorem own_addn {a b : Nat} (h : a + b < 2147483648) : (Int32.ofNat a + Int32.ofNat b).toInt = ((a + b : Nat) : Int) := by
  rw [← Int32.ofNat_add, Int32.toInt_ofNat_of_lt (by omega)]
def NWp (O : Nat → Int64) (r : Int32) : Prop := ∃ w : Nat, r.toInt = (w : Int) ∧ w < 1024 ∧ ¬ O w = 0
def NOp (F : Nat → Int32) (r : Int32) : Prop := ∃ b : Nat, r.toInt = (b : Int) ∧ b < 65536 ∧ ¬ F b = -1
theorem own_nw {F : Nat → Int32} {O W : Nat → Int64} (B : OKB F O W) (g : Nat) (hg : g < 16) {k : Int32} (hk : k = Int32.ofNat (64 * g)) {y z : Int64} (hy : y = W g) (hz : z = y ∨ z = y &&& (-2 : Int64)) (hn : ¬ z = 0) : NWp O (k + Jvm.Free.JP.Long_numberOfTrailingZeros_J.val z) := by
  subst hk
  obtain ⟨t, ht, hv, hb⟩ := own_ntz hn
  have hyb : bt y t = true := by
    rcases hz with rfl | rfl
    · exact hb
    · rw [bt_and] at hb; exact (Bool.and_eq_true_iff.mp hb).1
  refine ⟨64 * g + t, ?_, by omega, ?_⟩
  · rw [hv]; exact own_addn (by omega)
  · rw [B.2 _ (by omega), show (64 * g + t) / 64 = g from by omega, show (64 * g + t) % 64 = t from by omega, ← hy]; exact hyb
theorem own_m2 : ∀ j : Fin 64, 1 ≤ j.1 → bt (-2) j.1 = true := by decide
theorem own_nwn {F : Nat → Int32} {O W : Nat → Int64} (B : OKB F O W) (h0 : W 0 &&& (-2 : Int64) = 0) (h1 : W 1 = 0) (h2 : W 2 = 0) (h3 : W 3 = 0) (h4 : W 4 = 0) (h5 : W 5 = 0) (h6 : W 6 = 0) (h7 : W 7 = 0) (h8 : W 8 = 0) (h9 : W 9 = 0) (h10 : W 10 = 0) (h11 : W 11 = 0) (h12 : W 12 = 0) (h13 : W 13 = 0) (h14 : W 14 = 0) (h15 : W 15 = 0)
    (hwx : ∃ w, 1 ≤ w ∧ w < 1024 ∧ ¬ O w = 0) : False := by
  obtain ⟨w, hw1, hw, hn⟩ := hwx
  have hb := (B.2 w hw).mp hn
  have hg : w / 64 = 0 ∨ w / 64 = 1 ∨ w / 64 = 2 ∨ w / 64 = 3 ∨ w / 64 = 4 ∨ w / 64 = 5 ∨ w / 64 = 6 ∨ w / 64 = 7 ∨ w / 64 = 8 ∨ w / 64 = 9 ∨ w / 64 = 10 ∨ w / 64 = 11 ∨ w / 64 = 12 ∨ w / 64 = 13 ∨ w / 64 = 14 ∨ w / 64 = 15 := by omega
  rcases hg with q | q | q | q | q | q | q | q | q | q | q | q | q | q | q | q
  · rw [q] at hb; exact bt_nz (j := w % 64) (by rw [bt_and, hb, own_m2 ⟨w % 64, Nat.mod_lt _ (by decide)⟩ (by show 1 ≤ w % 64; omega)]; rfl) h0
  · rw [q, h1, bt_z] at hb; cases hb
  · rw [q, h2, bt_z] at hb; cases hb
  · rw [q, h3, bt_z] at hb; cases hb
  · rw [q, h4, bt_z] at hb; cases hb
  · rw [q, h5, bt_z] at hb; cases hb
  · rw [q, h6, bt_z] at hb; cases hb
  · rw [q, h7, bt_z] at hb; cases hb
  · rw [q, h8, bt_z] at hb; cases hb
  · rw [q, h9, bt_z] at hb; cases hb
  · rw [q, h10, bt_z] at hb; cases hb
  · rw [q, h11, bt_z] at hb; cases hb
  · rw [q, h12, bt_z] at hb; cases hb
  · rw [q, h13, bt_z] at hb; cases hb
  · rw [q, h14, bt_z] at hb; cases hb
  · rw [q, h15, bt_z] at hb; cases hb
theorem own_no1 {F : Nat → Int32} {O W : Nat → Int64} (B : OKB F O W) {y : Int64} (hy : y = O 0) (hn : ¬ (y &&& (-1 : Int64)) = 0) : NOp F ((0 : Int32) + Jvm.Free.JP.Long_numberOfTrailingZeros_J.val (y &&& (-1 : Int64))) := by
  obtain ⟨t, ht, hv, hb⟩ := own_ntz hn
  rw [bt_and] at hb
  have hyb := (Bool.and_eq_true_iff.mp hb).1
  refine ⟨0 + t, ?_, by omega, ?_⟩
  · rw [hv]; exact own_addn (a := 0) (by omega)
  · rw [B.1 _ (by omega), show (0 + t) / 64 = 0 from by omega, show (0 + t) % 64 = t from by omega, ← hy]; exact hyb
theorem own_m1a (y : Int64) (h : y &&& (-1 : Int64) = 0) : y = 0 := by
  apply Classical.byContradiction
  intro hn
  obtain ⟨j, hj, hb⟩ := bt_ex hn
  exact bt_nz (j := j) (by rw [bt_and, hb, bt_m1 ⟨j, hj⟩]; rfl) h
theorem own_wx {F : Nat → Int32} {O W : Nat → Int64} (B : OKB F O W) {y : Int64} (hy : y = O 0) (hz : (y &&& (-1 : Int64)) = 0) (hex : ∃ b, b < 65536 ∧ ¬ F b = -1) : ∃ w, 1 ≤ w ∧ w < 1024 ∧ ¬ O w = 0 := by
  obtain ⟨b, hb, hF⟩ := hex
  have q := bt_nz ((B.1 b hb).mp hF)
  refine ⟨b / 64, ?_, by omega, q⟩
  by_cases u : b / 64 = 0
  · rw [u, ← hy] at q; exact absurd (own_m1a y hz) q
  · omega
theorem own_nwb {O : Nat → Int64} {r : Int32} (hw : NWp O r) : (0 ≤ r.toInt ∧ r.toInt < 1024) := by obtain ⟨w, h1, h2, -⟩ := hw; omega
theorem own_nn0 {r : Int32} {n : Int} (h : 0 ≤ r.toInt ∧ r.toInt < n) : ¬ r < 0 := by
  rw [Int32.lt_iff_toInt_lt]
  have : (0 : Int32).toInt = 0 := by decide
  omega
theorem own_no2 {F : Nat → Int32} {O W : Nat → Int64} (B : OKB F O W) {y : Int64} {r : Int32} (hw : NWp O r) (hy : y = O r.toNatClampNeg) : NOp F (r * (64 : Int32) + Jvm.Free.JP.Long_numberOfTrailingZeros_J.val y) := by
  obtain ⟨w, h1, h2, h3⟩ := hw
  rw [own_cln h1] at hy
  obtain ⟨t, ht, hv, hb⟩ := own_ntz (a := y) (by rw [hy]; exact h3)
  refine ⟨w * 64 + t, ?_, by omega, ?_⟩
  · rw [hv, own_ofn h1 (by omega), show Int32.ofNat w * (64 : Int32) = Int32.ofNat (w * 64) from (Int32.ofNat_mul w 64).symm]
    exact own_addn (by omega)
  · rw [B.1 _ (by omega), show (w * 64 + t) / 64 = w from by omega, show (w * 64 + t) % 64 = t from by omega, ← hy]; exact hb
theorem own_nob {F : Nat → Int32} {r : Int32} (h : NOp F r) : (0 ≤ r.toInt ∧ r.toInt < 65536) := by obtain ⟨b, h1, h2, -⟩ := h; omega
theorem own_non {F : Nat → Int32} {r : Int32} (h : NOp F r) : ¬ r < 0 := by
  have q := own_nob h
  rw [Int32.lt_iff_toInt_lt]
  have : (0 : Int32).toInt = 0 := by decide
  omega
theorem own_nov {F : Nat → Int32} {r y : Int32} (h : NOp F r) (hy : y = F r.toNatClampNeg) : ¬ y = -1 ∧ ∃ b, y = F b := by
  obtain ⟨b, h1, -, h3⟩ := h
  rw [own_cln h1] at hy
  exact ⟨by rw [hy]; exact h3, b, hy⟩
def FKp (z k0 k1 : Int64) (m0 m1 : Int32) : Prop := (z = k0 ∧ m0 = 1) ∨ (z = k1 ∧ m1 = 1)
theorem own_fki {F : Nat → Int32} {i0 i1 b0 b1 a0 a1 r y : Int32} {k0 k1 : Int64} (H : LI F i0 i1 k0 k1 b0 b1 a0 a1) (h : NOp F r) (hy : y = F r.toNatClampNeg) : I2 y ∧ g2 y i0 i1 = 1 := by
  obtain ⟨hn, b, hb⟩ := own_nov h hy
  have q := li_v H b (by rw [← hb]; exact hn)
  rw [← hb] at q
  exact ⟨q.1, q.2.1⟩
theorem own_fk1 {F : Nat → Int32} {b n e0 e1 p0 p1 i0 i1 m0 m1 b0 b1 a0 a1 r y : Int32} {k0 k1 z : Int64} (K : KI b n e0 e1 p0 p1 i0 i1 m0 m1) (H : LI F i0 i1 k0 k1 b0 b1 a0 a1) (h : NOp F r) (hy : y = F r.toNatClampNeg) (hz : z = g2 y k0 k1) : FKp z k0 k1 m0 m1 := by
  obtain ⟨q, q1⟩ := own_fki H h hy
  rcases q with rfl | rfl
  · rw [own_g0] at hz q1
    exact Or.inl ⟨hz, (own_mb_1 K.2.2.1 (by rw [q1]; decide)).2.2⟩
  · rw [own_g1] at hz q1
    exact Or.inr ⟨hz, (own_mb_1 K.2.2.2 (by rw [q1]; decide)).2.2⟩
theorem own_mbp {i p m : Int32} (h : MB i p m) (hp : ¬ p = -1) : m = 1 := by
  rcases h with ⟨a, b, d⟩ | ⟨a, b, d⟩ | ⟨a, b, d⟩
  · exact d
  · exact d
  · exact absurd b hp
theorem own_fk2 {b n e0 e1 p0 p1 i0 i1 m0 m1 : Int32} {k0 k1 z : Int64} (K : KI b n e0 e1 p0 p1 i0 i1 m0 m1) (hn : ¬ n = 0) (hz : z = g2 e0 k0 k1) : FKp z k0 k1 m0 m1 := by
  obtain ⟨q, q1⟩ := own_first K.1 hn
  rcases q with h | h
  · rw [h, own_g0] at hz q1
    exact Or.inl ⟨hz, own_mbp K.2.2.1 q1⟩
  · rw [h, own_g1] at hz q1
    exact Or.inr ⟨hz, own_mbp K.2.2.2 q1⟩
theorem own_fk0 {b n e0 e1 p0 p1 i0 i1 m0 m1 : Int32} (K : KI b n e0 e1 p0 p1 i0 i1 m0 m1) (he : EM m0 m1 = 0) (hb : ¬ (0 : Int32) < b) : ¬ n = 0 := fun hn => by
  rw [own_em K] at he
  have h0 := (own_mb_01 K.2.2.1).1
  have h1 := (own_mb_01 K.2.2.2).1
  have hb0 : b = 0 := by
    rw [K.2.1] at hb ⊢
    rcases h0 with h0 | h0 <;> rcases h1 with h1 | h1 <;> rw [h0, h1] at hb ⊢ <;> first | rfl | exact absurd (by decide) hb
  rw [if_pos ⟨hb0, hn⟩] at he
  exact absurd he (by decide)
theorem own_hex {F : Nat → Int32} {b n e0 e1 p0 p1 i0 i1 m0 m1 b0 b1 a0 a1 : Int32} {k0 k1 : Int64} (K : KI b n e0 e1 p0 p1 i0 i1 m0 m1) (H : LI F i0 i1 k0 k1 b0 b1 a0 a1) (hb : (0 : Int32) < b) : ∃ b, b < 65536 ∧ ¬ F b = -1 := by
  have h0 := (own_mb_01 K.2.2.1).1
  have h1 := (own_mb_01 K.2.2.2).1
  rcases h0 with h0 | h0
  · rcases h1 with h1 | h1
    · rw [K.2.1, h0, h1] at hb; exact absurd hb (by decide)
    · exact ⟨_, (own_bkc k1).2, H.2.2.1 h1⟩
  · exact ⟨_, (own_bkc k0).2, H.2.1 h0⟩
theorem own_nlt {z k0 k1 f : Int64} {m0 m1 : Int32} (h : FKp z k0 k1 m0 m1) (hf : (m0 = 1 → ¬ k0 < f) ∧ (m1 = 1 → ¬ k1 < f)) : ¬ z < f := by
  rcases h with ⟨rfl, h⟩ | ⟨rfl, h⟩
  · exact hf.1 h
  · exact hf.2 h
theorem d25_0 : decode prog_39_method_12_code 0 = .ok (.iload_n 1, 1) := by decide +kernel
theorem d25_1 : decode prog_39_method_12_code 1 = .ok (.aload_n 0, 1) := by decide +kernel
theorem d25_2 : decode prog_39_method_12_code 2 = .ok (.getfield 16, 3) := by decide +kernel
theorem d25_5 : decode prog_39_method_12_code 5 = .ok (.arraylength, 1) := by decide +kernel
theorem d25_6 : decode prog_39_method_12_code 6 = .ok (.if_icmp .ne 5, 3) := by decide +kernel
theorem d25_11 : decode prog_39_method_12_code 11 = .ok (.iload_n 1, 1) := by decide +kernel
theorem d25_12 : decode prog_39_method_12_code 12 = .ok (.bipush 64, 2) := by decide +kernel
theorem d25_14 : decode prog_39_method_12_code 14 = .ok (.idiv, 1) := by decide +kernel
theorem d25_15 : decode prog_39_method_12_code 15 = .ok (.istore_n 2, 1) := by decide +kernel
theorem d25_16 : decode prog_39_method_12_code 16 = .ok (.aload_n 0, 1) := by decide +kernel
theorem d25_17 : decode prog_39_method_12_code 17 = .ok (.getfield 20, 3) := by decide +kernel
theorem d25_20 : decode prog_39_method_12_code 20 = .ok (.iload_n 2, 1) := by decide +kernel
theorem d25_21 : decode prog_39_method_12_code 21 = .ok (.laload, 1) := by decide +kernel
theorem d25_22 : decode prog_39_method_12_code 22 = .ok (.ldc2_w 123, 3) := by decide +kernel
theorem d25_25 : decode prog_39_method_12_code 25 = .ok (.iload_n 1, 1) := by decide +kernel
theorem d25_26 : decode prog_39_method_12_code 26 = .ok (.bipush 64, 2) := by decide +kernel
theorem d25_28 : decode prog_39_method_12_code 28 = .ok (.irem, 1) := by decide +kernel
theorem d25_29 : decode prog_39_method_12_code 29 = .ok (.lshl, 1) := by decide +kernel
theorem d25_30 : decode prog_39_method_12_code 30 = .ok (.land, 1) := by decide +kernel
theorem d25_31 : decode prog_39_method_12_code 31 = .ok (.lstore_n 3, 1) := by decide +kernel
theorem d25_32 : decode prog_39_method_12_code 32 = .ok (.lload_n 3, 1) := by decide +kernel
theorem d25_33 : decode prog_39_method_12_code 33 = .ok (.lconst 0, 1) := by decide +kernel
theorem d25_34 : decode prog_39_method_12_code 34 = .ok (.lcmp, 1) := by decide +kernel
theorem d25_35 : decode prog_39_method_12_code 35 = .ok (.ifCond .ne 27, 3) := by decide +kernel
theorem d25_38 : decode prog_39_method_12_code 38 = .ok (.iinc 2 1, 3) := by decide +kernel
theorem d25_41 : decode prog_39_method_12_code 41 = .ok (.iload_n 2, 1) := by decide +kernel
theorem d25_42 : decode prog_39_method_12_code 42 = .ok (.aload_n 0, 1) := by decide +kernel
theorem d25_43 : decode prog_39_method_12_code 43 = .ok (.getfield 20, 3) := by decide +kernel
theorem d25_46 : decode prog_39_method_12_code 46 = .ok (.arraylength, 1) := by decide +kernel
theorem d25_47 : decode prog_39_method_12_code 47 = .ok (.if_icmp .ne 5, 3) := by decide +kernel
theorem d25_52 : decode prog_39_method_12_code 52 = .ok (.aload_n 0, 1) := by decide +kernel
theorem d25_53 : decode prog_39_method_12_code 53 = .ok (.getfield 20, 3) := by decide +kernel
theorem d25_56 : decode prog_39_method_12_code 56 = .ok (.iload_n 2, 1) := by decide +kernel
theorem d25_57 : decode prog_39_method_12_code 57 = .ok (.laload, 1) := by decide +kernel
theorem d25_58 : decode prog_39_method_12_code 58 = .ok (.lstore_n 3, 1) := by decide +kernel
theorem d25_59 : decode prog_39_method_12_code 59 = .ok (.goto (-27), 3) := by decide +kernel
theorem d25_62 : decode prog_39_method_12_code 62 = .ok (.iload_n 2, 1) := by decide +kernel
theorem d25_63 : decode prog_39_method_12_code 63 = .ok (.bipush 64, 2) := by decide +kernel
theorem d25_65 : decode prog_39_method_12_code 65 = .ok (.imul, 1) := by decide +kernel
theorem d25_66 : decode prog_39_method_12_code 66 = .ok (.lload_n 3, 1) := by decide +kernel
theorem d25_67 : decode prog_39_method_12_code 67 = .ok (.invokestatic 125, 3) := by decide +kernel
theorem d25_70 : decode prog_39_method_12_code 70 = .ok (.iadd, 1) := by decide +kernel
theorem d25_71 : decode prog_39_method_12_code 71 = .ok (.ireturn, 1) := by decide +kernel
theorem pd_7 : parseMethodDescriptor "(J)I" = some ⟨[.long], some .int⟩ := by decide +kernel
theorem ef_rm_knextOccupiedWord (m : MethodId) (x0 : Addr) (x1 : Int32) : entryFrame m #[(.ref x0), (.int x1)] 5 = mkF m 0 #[.val (.ref x0), .val (.int x1), .unset, .unset, .unset] [] := by first | (simp [entryFrame, mkF, argsToLocals, Value.category]; done) | rfl
def Q_rm_knextOccupiedWord (Z : State) (kq : Addr) (aO aW : Addr) (kO kW : ClassId) (fF : Nat → Int32) (fO fW : Nat → Int64) (h0 : Heap) (n0 : Nat) (v : Option Value) (h : Heap) (L : List Loc) : Prop := ∃ (r_ : Int32), v = some (.int r_) ∧ Fr n0 L ∧ Keep h0 h [] ∧ (NWp fO r_)
set_option maxRecDepth 65536 in
set_option maxHeartbeats 40000000 in
theorem rm_knextOccupiedWord (l : Launch) (Z : State) (a0 : Array Value) (hw : ∀ d ∈ tables_1, d.before a0 Z = true) (ws : List Jvm.Cond) (kq : Addr) (aO aW : Addr) (kO kW : ClassId) (fF : Nat → Int32) (fO fW : Nat → Int64) (h0 : Heap) (n0 : Nat) (O0 : Old Z n0 h0) (E_kq : Exa Z h0 kq cQ) (F_kq_occupied : Fld Z h0 kq cQ "occupied" "[J" (.ref aO)) (F_kq_occupiedWords : Fld Z h0 kq cQ "occupiedWords" "[J" (.ref aW)) (OK0 : OKB fF fO fW) (hwx : ∃ w, 1 ≤ w ∧ w < 1024 ∧ ¬ fO w = 0) (V_aO : ArfJ Z h0 aO kO (1024 : Int32) fO) (V_aW : ArfJ Z h0 aW kW (16 : Int32) fW) :
    MetFree l (⟨cQ, "nextOccupiedWord", "(I)I"⟩ : MethodName) (head1 (Jvm.Cond.code (⟨cQ, "nextOccupiedWord", "(I)I"⟩ : MethodName) prog_39_method_12_code 5 (some .int) :: ws) ({ frames := 2, cells := 0, slots := 0, locals := 29 } : Room)) (fun a U => a = #[(.ref kq), (.int (1 : Int32))] ∧ Z.WarmedH U.vm ∧ U.heap = h0) (fun _ _ _ _ _ => True) (fun _ U o U' => ∃ v L, o = .returned v ∧ Q_rm_knextOccupiedWord Z kq aO aW kO kW fF fO fW h0 n0 v U'.heap L ∧ FrameEnd U o U' L ({ frames := 2, cells := 0, slots := 0, locals := 29 } : Room).cells ({ frames := 2, cells := 0, slots := 0, locals := 29 } : Room).slots) := by
  refine MetFree.of_bodySF (plainFor_of_name pn_2) hisR ?_
  intro p e s m args below meth c s₁ Bd hml0 hP hK
  obtain ⟨rfl, hZH, hh⟩ := hP
  have hZ := hZH.wide
  have hx := Bd.exec
  have hby := Bd.bytes
  have D := fun {pc : Nat} {r : Except ClassFile.DecodeError (ClassFile.Instr × Nat)} (q : decode prog_39_method_12_code pc = r) => hb (pc := pc) hby q
  have hml : c.maxLocals = 5 := hml0
  have hown : s.vm.findClass cQ = some m.cls := findClass_of_methodNamed Bd.named
  have hnm := (name_of_methodNamed Bd.named Bd.method).1
  have X0 : Stand p l e ({ frames := 2, cells := 0, slots := 0, locals := 29 } : Room) s m #[(.ref kq), (.int (1 : Int32))] below meth c s₁ [] 0 0 := Stand.of_body Bd
  have e0 : s₁.heap = h0 := by rw [← hh, Bd.state]; rfl
  have N0 := Fr.nil n0
  have pre0 : ∀ t, Steps p.tables e below (s₁.setTop (mkF m 0 #[.val (.ref kq), .val (.int (1 : Int32)), .unset, .unset, .unset] [])) t → Steps p.tables e below (s₁.setTop (entryFrame m #[(.ref kq), (.int (1 : Int32))] 5)) t := fun t k => castTop (ef_rm_knextOccupiedWord m (kq) ((1 : Int32))) k
  have wd := fun {d : Jvm.Cond} (i : Nat) (h : tables_1[i]? = some d) => hw d (List.mem_of_getElem? h)
  obtain ⟨T1, X1, e1, st1⟩ := getF X0 hx hZ hown (host := "") (Or.inl (wd 14 rfl)) Via.refl e0 F_kq_occupied (g := (mkF m 2 #[.val (.ref kq), .val (.int (1 : Int32)), .unset, .unset, .unset] [(.ref kq), (.int (1 : Int32))])) rfl rfl (D d25_2)
  obtain ⟨cl2, Ar2, -, S2, Nn2, -, -⟩ := id V_aO
  obtain ⟨T3, X3, e3, st3⟩ := getF X1 hx hZ hown (host := "") (Or.inl (wd 16 rfl)) Via.refl e1 F_kq_occupiedWords (g := (mkF m 17 #[.val (.ref kq), .val (.int (1 : Int32)), .val (.int (0 : Int32)), .unset, .unset] [(.ref kq)])) rfl rfl (D d25_17)
  obtain ⟨cl4, Ar4, q4, S4, Nn4, H4, G4⟩ := id V_aW
  have hin4 : ¬ ((0 : Int32) < 0 ∨ cl4.slots.size ≤ ((0 : Int32)).toNatClampNeg) := inb_of S4 ⟨by decide, by decide⟩
  obtain ⟨y4, hy4⟩ : ∃ y, y = fW ((0 : Int32)).toNatClampNeg := ⟨_, rfl⟩
  have hat4 := ArfJ.get H4 hin4 hy4
  have cs6 : Steps p.tables e below (s₁.setTop (mkF m 0 #[.val (.ref kq), .val (.int (1 : Int32)), .unset, .unset, .unset] [])) (T3.setTop (mkF m 35 #[.val (.ref kq), .val (.int (1 : Int32)), .val (.int (0 : Int32)), .val (.long (y4 &&& (-2 : Int64))), .second] [(.int (lcmpW (y4 &&& (-2 : Int64)) (0 : Int64)))])) := (by
    refine s_iloadN X0 hx (D d25_0) rfl ?_
    refine s_aloadN X0 hx (D d25_1) rfl rfl ?_
    refine st1 _ ?_
    refine X1.arraylength hx (by rw [e1]; exact Ar2.1) (State.isArrayOf_alike hZ.alike Ar2.2.1) (g := (mkF m 5 #[.val (.ref kq), .val (.int (1 : Int32)), .unset, .unset, .unset] [(.ref aO), (.int (1 : Int32))])) rfl rfl (D d25_5) _ ?_
    rw [len_of S2 Nn2]
    refine s_icmpYes X1 hx 11 (D d25_6) (feq (by decide : ¬ ((1 : Int32) = (1024 : Int32)))).2 (of_decide_eq_true rfl) rfl ?_
    refine s_iloadN X1 hx (D d25_11) rfl ?_
    refine s_bipush X1 hx (64 : Int32) (D d25_12) rfl ?_
    refine s_idiv X1 hx (D d25_14) (by decide) (r := (0 : Int32)) (by decide) ?_
    refine s_istoreN X1 hx (D d25_15) (l' := #[.val (.ref kq), .val (.int (1 : Int32)), .val (.int (0 : Int32)), .unset, .unset]) rfl ?_
    refine s_aloadN X1 hx (D d25_16) rfl rfl ?_
    refine st3 _ ?_
    refine s_iloadN X3 hx (D d25_20) rfl ?_
    refine X3.laload hx (j := (0 : Int32)) (v := (.long y4)) (by rw [e3]; exact (Ar4).1) (State.isArrayOf_alike hZ.alike (Ar4).2.1) (Ar4).2.2 hin4 hat4 (g := (mkF m 21 #[.val (.ref kq), .val (.int (1 : Int32)), .val (.int (0 : Int32)), .unset, .unset] [(.int (0 : Int32)), (.ref aW)])) rfl rfl (D d25_21) _ ?_
    refine X3.ldc2Long hx hown (mvT hZ (wd 108 rfl)) (g := (mkF m 22 #[.val (.ref kq), .val (.int (1 : Int32)), .val (.int (0 : Int32)), .unset, .unset] [(.long y4)])) rfl (D d25_22) _ ?_
    refine s_iloadN X3 hx (D d25_25) rfl ?_
    refine s_bipush X3 hx (64 : Int32) (D d25_26) rfl ?_
    refine s_irem X3 hx (D d25_28) (by decide) (r := (1 : Int32)) (by decide) ?_
    refine s_lshl X3 hx (D d25_29) (r := (-2 : Int64)) (by decide) ?_
    refine s_land X3 hx (D d25_30) rfl ?_
    refine s_lstoreN X3 hx (D d25_31) (l' := #[.val (.ref kq), .val (.int (1 : Int32)), .val (.int (0 : Int32)), .val (.long (y4 &&& (-2 : Int64))), .second]) rfl ?_
    refine s_lloadN X3 hx (D d25_32) rfl ?_
    refine s_lconst X3 hx (0 : Int64) (D d25_33) rfl ?_
    refine s_lcmp X3 hx (D d25_34) rfl ?_
    exact Steps.refl _)
  have jn5 : ∃ (jg_5 : Int32) (jw_5 : Int64) (T : State) (L : List Loc) (h : Heap), Stand p l e ({ frames := 2, cells := 0, slots := 0, locals := 29 } : Room) s m #[(.ref kq), (.int (1 : Int32))] below meth c T L 0 0 ∧ T.heap = h ∧ Fr n0 L ∧ Keep h0 h [] ∧ Old Z n0 h ∧ Exa Z h kq cQ ∧ Fld Z h kq cQ "occupied" "[J" (.ref aO) ∧ Fld Z h kq cQ "occupiedWords" "[J" (.ref aW) ∧ ArfJ Z h aO kO (1024 : Int32) fO ∧ ArfJ Z h aW kW (16 : Int32) fW ∧ NWp fO (jg_5 * (64 : Int32) + Jvm.Free.JP.Long_numberOfTrailingZeros_J.val jw_5) ∧ Steps p.tables e below (s₁.setTop (mkF m 0 #[.val (.ref kq), .val (.int (1 : Int32)), .unset, .unset, .unset] [])) (T.setTop (mkF m 62 #[.val (.ref kq), .val (.int (1 : Int32)), .val (.int jg_5), .val (.long jw_5), .second] [])) := by
    by_cases hc7 : (lcmpW (y4 &&& (-2 : Int64)) (0 : Int64)) = (0 : Int32)
    · obtain ⟨T8, X8, e8, st8⟩ := getF X3 hx hZ hown (host := "") (Or.inl (wd 16 rfl)) Via.refl e3 F_kq_occupiedWords (g := (mkF m 43 #[.val (.ref kq), .val (.int (1 : Int32)), .val (.int (1 : Int32)), .val (.long (y4 &&& (-2 : Int64))), .second] [(.ref kq), (.int (1 : Int32))])) rfl rfl (D d25_43)
      obtain ⟨cl9, Ar9, -, S9, Nn9, -, -⟩ := id V_aW
      obtain ⟨T10, X10, e10, st10⟩ := getF X8 hx hZ hown (host := "") (Or.inl (wd 16 rfl)) Via.refl e8 F_kq_occupiedWords (g := (mkF m 53 #[.val (.ref kq), .val (.int (1 : Int32)), .val (.int (1 : Int32)), .val (.long (y4 &&& (-2 : Int64))), .second] [(.ref kq)])) rfl rfl (D d25_53)
      obtain ⟨cl11, Ar11, q11, S11, Nn11, H11, G11⟩ := id V_aW
      have hin11 : ¬ ((1 : Int32) < 0 ∨ cl11.slots.size ≤ ((1 : Int32)).toNatClampNeg) := inb_of S11 ⟨by decide, by decide⟩
      obtain ⟨y11, hy11⟩ : ∃ y, y = fW ((1 : Int32)).toNatClampNeg := ⟨_, rfl⟩
      have hat11 := ArfJ.get H11 hin11 hy11
      have cs12 : Steps p.tables e below (s₁.setTop (mkF m 0 #[.val (.ref kq), .val (.int (1 : Int32)), .unset, .unset, .unset] [])) (T10.setTop (mkF m 35 #[.val (.ref kq), .val (.int (1 : Int32)), .val (.int (1 : Int32)), .val (.long y11), .second] [(.int (lcmpW y11 (0 : Int64)))])) := cs6.trans (by
        refine s_ifNo X3 hx (D d25_35) ((if0 _ _).trans (teq hc7).2) ?_
        refine s_iinc X3 hx (D d25_38) rfl (r := (1 : Int32)) (by decide) (l' := #[.val (.ref kq), .val (.int (1 : Int32)), .val (.int (1 : Int32)), .val (.long (y4 &&& (-2 : Int64))), .second]) rfl ?_
        refine s_iloadN X3 hx (D d25_41) rfl ?_
        refine s_aloadN X3 hx (D d25_42) rfl rfl ?_
        refine st8 _ ?_
        refine X8.arraylength hx (by rw [e8]; exact Ar9.1) (State.isArrayOf_alike hZ.alike Ar9.2.1) (g := (mkF m 46 #[.val (.ref kq), .val (.int (1 : Int32)), .val (.int (1 : Int32)), .val (.long (y4 &&& (-2 : Int64))), .second] [(.ref aW), (.int (1 : Int32))])) rfl rfl (D d25_46) _ ?_
        rw [len_of S9 Nn9]
        refine s_icmpYes X8 hx 52 (D d25_47) (feq (by decide : ¬ ((1 : Int32) = (16 : Int32)))).2 (of_decide_eq_true rfl) rfl ?_
        refine s_aloadN X8 hx (D d25_52) rfl rfl ?_
        refine st10 _ ?_
        refine s_iloadN X10 hx (D d25_56) rfl ?_
        refine X10.laload hx (j := (1 : Int32)) (v := (.long y11)) (by rw [e10]; exact (Ar11).1) (State.isArrayOf_alike hZ.alike (Ar11).2.1) (Ar11).2.2 hin11 hat11 (g := (mkF m 57 #[.val (.ref kq), .val (.int (1 : Int32)), .val (.int (1 : Int32)), .val (.long (y4 &&& (-2 : Int64))), .second] [(.int (1 : Int32)), (.ref aW)])) rfl rfl (D d25_57) _ ?_
        refine s_lstoreN X10 hx (D d25_58) (l' := #[.val (.ref kq), .val (.int (1 : Int32)), .val (.int (1 : Int32)), .val (.long y11), .second]) rfl ?_
        refine s_goto X10 hx 32 (D d25_59) (of_decide_eq_true rfl) rfl ?_
        refine s_lloadN X10 hx (D d25_32) rfl ?_
        refine s_lconst X10 hx (0 : Int64) (D d25_33) rfl ?_
        refine s_lcmp X10 hx (D d25_34) rfl ?_
        exact Steps.refl _)
      by_cases hc13 : (lcmpW y11 (0 : Int64)) = (0 : Int32)
      · obtain ⟨T14, X14, e14, st14⟩ := getF X10 hx hZ hown (host := "") (Or.inl (wd 16 rfl)) Via.refl e10 F_kq_occupiedWords (g := (mkF m 43 #[.val (.ref kq), .val (.int (1 : Int32)), .val (.int (2 : Int32)), .val (.long y11), .second] [(.ref kq), (.int (2 : Int32))])) rfl rfl (D d25_43)
        obtain ⟨cl15, Ar15, -, S15, Nn15, -, -⟩ := id V_aW
        obtain ⟨T16, X16, e16, st16⟩ := getF X14 hx hZ hown (host := "") (Or.inl (wd 16 rfl)) Via.refl e14 F_kq_occupiedWords (g := (mkF m 53 #[.val (.ref kq), .val (.int (1 : Int32)), .val (.int (2 : Int32)), .val (.long y11), .second] [(.ref kq)])) rfl rfl (D d25_53)
        obtain ⟨cl17, Ar17, q17, S17, Nn17, H17, G17⟩ := id V_aW
        have hin17 : ¬ ((2 : Int32) < 0 ∨ cl17.slots.size ≤ ((2 : Int32)).toNatClampNeg) := inb_of S17 ⟨by decide, by decide⟩
        obtain ⟨y17, hy17⟩ : ∃ y, y = fW ((2 : Int32)).toNatClampNeg := ⟨_, rfl⟩
        have hat17 := ArfJ.get H17 hin17 hy17
        have cs18 : Steps p.tables e below (s₁.setTop (mkF m 0 #[.val (.ref kq), .val (.int (1 : Int32)), .unset, .unset, .unset] [])) (T16.setTop (mkF m 35 #[.val (.ref kq), .val (.int (1 : Int32)), .val (.int (2 : Int32)), .val (.long y17), .second] [(.int (lcmpW y17 (0 : Int64)))])) := cs12.trans (by
          refine s_ifNo X10 hx (D d25_35) ((if0 _ _).trans (teq hc13).2) ?_
          refine s_iinc X10 hx (D d25_38) rfl (r := (2 : Int32)) (by decide) (l' := #[.val (.ref kq), .val (.int (1 : Int32)), .val (.int (2 : Int32)), .val (.long y11), .second]) rfl ?_
          refine s_iloadN X10 hx (D d25_41) rfl ?_
          refine s_aloadN X10 hx (D d25_42) rfl rfl ?_
          refine st14 _ ?_
          refine X14.arraylength hx (by rw [e14]; exact Ar15.1) (State.isArrayOf_alike hZ.alike Ar15.2.1) (g := (mkF m 46 #[.val (.ref kq), .val (.int (1 : Int32)), .val (.int (2 : Int32)), .val (.long y11), .second] [(.ref aW), (.int (2 : Int32))])) rfl rfl (D d25_46) _ ?_
          rw [len_of S15 Nn15]
          refine s_icmpYes X14 hx 52 (D d25_47) (feq (by decide : ¬ ((2 : Int32) = (16 : Int32)))).2 (of_decide_eq_true rfl) rfl ?_
          refine s_aloadN X14 hx (D d25_52) rfl rfl ?_
          refine st16 _ ?_
          refine s_iloadN X16 hx (D d25_56) rfl ?_
          refine X16.laload hx (j := (2 : Int32)) (v := (.long y17)) (by rw [e16]; exact (Ar17).1) (State.isArrayOf_alike hZ.alike (Ar17).2.1) (Ar17).2.2 hin17 hat17 (g := (mkF m 57 #[.val (.ref kq), .val (.int (1 : Int32)), .val (.int (2 : Int32)), .val (.long y11), .second] [(.int (2 : Int32)), (.ref aW)])) rfl rfl (D d25_57) _ ?_
          refine s_lstoreN X16 hx (D d25_58) (l' := #[.val (.ref kq), .val (.int (1 : Int32)), .val (.int (2 : Int32)), .val (.long y17), .second]) rfl ?_
          refine s_goto X16 hx 32 (D d25_59) (of_decide_eq_true rfl) rfl ?_
          refine s_lloadN X16 hx (D d25_32) rfl ?_
          refine s_lconst X16 hx (0 : Int64) (D d25_33) rfl ?_
          refine s_lcmp X16 hx (D d25_34) rfl ?_
          exact Steps.refl _)
        by_cases hc19 : (lcmpW y17 (0 : Int64)) = (0 : Int32)
        · obtain ⟨T20, X20, e20, st20⟩ := getF X16 hx hZ hown (host := "") (Or.inl (wd 16 rfl)) Via.refl e16 F_kq_occupiedWords (g := (mkF m 43 #[.val (.ref kq), .val (.int (1 : Int32)), .val (.int (3 : Int32)), .val (.long y17), .second] [(.ref kq), (.int (3 : Int32))])) rfl rfl (D d25_43)
          obtain ⟨cl21, Ar21, -, S21, Nn21, -, -⟩ := id V_aW
          obtain ⟨T22, X22, e22, st22⟩ := getF X20 hx hZ hown (host := "") (Or.inl (wd 16 rfl)) Via.refl e20 F_kq_occupiedWords (g := (mkF m 53 #[.val (.ref kq), .val (.int (1 : Int32)), .val (.int (3 : Int32)), .val (.long y17), .second] [(.ref kq)])) rfl rfl (D d25_53)
          obtain ⟨cl23, Ar23, q23, S23, Nn23, H23, G23⟩ := id V_aW
          have hin23 : ¬ ((3 : Int32) < 0 ∨ cl23.slots.size ≤ ((3 : Int32)).toNatClampNeg) := inb_of S23 ⟨by decide, by decide⟩
          obtain ⟨y23, hy23⟩ : ∃ y, y = fW ((3 : Int32)).toNatClampNeg := ⟨_, rfl⟩
          have hat23 := ArfJ.get H23 hin23 hy23
          have cs24 : Steps p.tables e below (s₁.setTop (mkF m 0 #[.val (.ref kq), .val (.int (1 : Int32)), .unset, .unset, .unset] [])) (T22.setTop (mkF m 35 #[.val (.ref kq), .val (.int (1 : Int32)), .val (.int (3 : Int32)), .val (.long y23), .second] [(.int (lcmpW y23 (0 : Int64)))])) := cs18.trans (by
            refine s_ifNo X16 hx (D d25_35) ((if0 _ _).trans (teq hc19).2) ?_
            refine s_iinc X16 hx (D d25_38) rfl (r := (3 : Int32)) (by decide) (l' := #[.val (.ref kq), .val (.int (1 : Int32)), .val (.int (3 : Int32)), .val (.long y17), .second]) rfl ?_
            refine s_iloadN X16 hx (D d25_41) rfl ?_
            refine s_aloadN X16 hx (D d25_42) rfl rfl ?_
            refine st20 _ ?_
            refine X20.arraylength hx (by rw [e20]; exact Ar21.1) (State.isArrayOf_alike hZ.alike Ar21.2.1) (g := (mkF m 46 #[.val (.ref kq), .val (.int (1 : Int32)), .val (.int (3 : Int32)), .val (.long y17), .second] [(.ref aW), (.int (3 : Int32))])) rfl rfl (D d25_46) _ ?_
            rw [len_of S21 Nn21]
            refine s_icmpYes X20 hx 52 (D d25_47) (feq (by decide : ¬ ((3 : Int32) = (16 : Int32)))).2 (of_decide_eq_true rfl) rfl ?_
            refine s_aloadN X20 hx (D d25_52) rfl rfl ?_
            refine st22 _ ?_
            refine s_iloadN X22 hx (D d25_56) rfl ?_
            refine X22.laload hx (j := (3 : Int32)) (v := (.long y23)) (by rw [e22]; exact (Ar23).1) (State.isArrayOf_alike hZ.alike (Ar23).2.1) (Ar23).2.2 hin23 hat23 (g := (mkF m 57 #[.val (.ref kq), .val (.int (1 : Int32)), .val (.int (3 : Int32)), .val (.long y17), .second] [(.int (3 : Int32)), (.ref aW)])) rfl rfl (D d25_57) _ ?_
            refine s_lstoreN X22 hx (D d25_58) (l' := #[.val (.ref kq), .val (.int (1 : Int32)), .val (.int (3 : Int32)), .val (.long y23), .second]) rfl ?_
            refine s_goto X22 hx 32 (D d25_59) (of_decide_eq_true rfl) rfl ?_
            refine s_lloadN X22 hx (D d25_32) rfl ?_
            refine s_lconst X22 hx (0 : Int64) (D d25_33) rfl ?_
            refine s_lcmp X22 hx (D d25_34) rfl ?_
            exact Steps.refl _)
          by_cases hc25 : (lcmpW y23 (0 : Int64)) = (0 : Int32)
          · obtain ⟨T26, X26, e26, st26⟩ := getF X22 hx hZ hown (host := "") (Or.inl (wd 16 rfl)) Via.refl e22 F_kq_occupiedWords (g := (mkF m 43 #[.val (.ref kq), .val (.int (1 : Int32)), .val (.int (4 : Int32)), .val (.long y23), .second] [(.ref kq), (.int (4 : Int32))])) rfl rfl (D d25_43)
            obtain ⟨cl27, Ar27, -, S27, Nn27, -, -⟩ := id V_aW
            obtain ⟨T28, X28, e28, st28⟩ := getF X26 hx hZ hown (host := "") (Or.inl (wd 16 rfl)) Via.refl e26 F_kq_occupiedWords (g := (mkF m 53 #[.val (.ref kq), .val (.int (1 : Int32)), .val (.int (4 : Int32)), .val (.long y23), .second] [(.ref kq)])) rfl rfl (D d25_53)
            obtain ⟨cl29, Ar29, q29, S29, Nn29, H29, G29⟩ := id V_aW
            have hin29 : ¬ ((4 : Int32) < 0 ∨ cl29.slots.size ≤ ((4 : Int32)).toNatClampNeg) := inb_of S29 ⟨by decide, by decide⟩
            obtain ⟨y29, hy29⟩ : ∃ y, y = fW ((4 : Int32)).toNatClampNeg := ⟨_, rfl⟩
            have hat29 := ArfJ.get H29 hin29 hy29
            have cs30 : Steps p.tables e below (s₁.setTop (mkF m 0 #[.val (.ref kq), .val (.int (1 : Int32)), .unset, .unset, .unset] [])) (T28.setTop (mkF m 35 #[.val (.ref kq), .val (.int (1 : Int32)), .val (.int (4 : Int32)), .val (.long y29), .second] [(.int (lcmpW y29 (0 : Int64)))])) := cs24.trans (by
              refine s_ifNo X22 hx (D d25_35) ((if0 _ _).trans (teq hc25).2) ?_
              refine s_iinc X22 hx (D d25_38) rfl (r := (4 : Int32)) (by decide) (l' := #[.val (.ref kq), .val (.int (1 : Int32)), .val (.int (4 : Int32)), .val (.long y23), .second]) rfl ?_
              refine s_iloadN X22 hx (D d25_41) rfl ?_
              refine s_aloadN X22 hx (D d25_42) rfl rfl ?_
              refine st26 _ ?_
              refine X26.arraylength hx (by rw [e26]; exact Ar27.1) (State.isArrayOf_alike hZ.alike Ar27.2.1) (g := (mkF m 46 #[.val (.ref kq), .val (.int (1 : Int32)), .val (.int (4 : Int32)), .val (.long y23), .second] [(.ref aW), (.int (4 : Int32))])) rfl rfl (D d25_46) _ ?_
              rw [len_of S27 Nn27]
              refine s_icmpYes X26 hx 52 (D d25_47) (feq (by decide : ¬ ((4 : Int32) = (16 : Int32)))).2 (of_decide_eq_true rfl) rfl ?_
              refine s_aloadN X26 hx (D d25_52) rfl rfl ?_
              refine st28 _ ?_
              refine s_iloadN X28 hx (D d25_56) rfl ?_
              refine X28.laload hx (j := (4 : Int32)) (v := (.long y29)) (by rw [e28]; exact (Ar29).1) (State.isArrayOf_alike hZ.alike (Ar29).2.1) (Ar29).2.2 hin29 hat29 (g := (mkF m 57 #[.val (.ref kq), .val (.int (1 : Int32)), .val (.int (4 : Int32)), .val (.long y23), .second] [(.int (4 : Int32)), (.ref aW)])) rfl rfl (D d25_57) _ ?_
              refine s_lstoreN X28 hx (D d25_58) (l' := #[.val (.ref kq), .val (.int (1 : Int32)), .val (.int (4 : Int32)), .val (.long y29), .second]) rfl ?_
              refine s_goto X28 hx 32 (D d25_59) (of_decide_eq_true rfl) rfl ?_
              refine s_lloadN X28 hx (D d25_32) rfl ?_
              refine s_lconst X28 hx (0 : Int64) (D d25_33) rfl ?_
              refine s_lcmp X28 hx (D d25_34) rfl ?_
              exact Steps.refl _)
            by_cases hc31 : (lcmpW y29 (0 : Int64)) = (0 : Int32)
            · obtain ⟨T32, X32, e32, st32⟩ := getF X28 hx hZ hown (host := "") (Or.inl (wd 16 rfl)) Via.refl e28 F_kq_occupiedWords (g := (mkF m 43 #[.val (.ref kq), .val (.int (1 : Int32)), .val (.int (5 : Int32)), .val (.long y29), .second] [(.ref kq), (.int (5 : Int32))])) rfl rfl (D d25_43)
              obtain ⟨cl33, Ar33, -, S33, Nn33, -, -⟩ := id V_aW
              obtain ⟨T34, X34, e34, st34⟩ := getF X32 hx hZ hown (host := "") (Or.inl (wd 16 rfl)) Via.refl e32 F_kq_occupiedWords (g := (mkF m 53 #[.val (.ref kq), .val (.int (1 : Int32)), .val (.int (5 : Int32)), .val (.long y29), .second] [(.ref kq)])) rfl rfl (D d25_53)
              obtain ⟨cl35, Ar35, q35, S35, Nn35, H35, G35⟩ := id V_aW
              have hin35 : ¬ ((5 : Int32) < 0 ∨ cl35.slots.size ≤ ((5 : Int32)).toNatClampNeg) := inb_of S35 ⟨by decide, by decide⟩
              obtain ⟨y35, hy35⟩ : ∃ y, y = fW ((5 : Int32)).toNatClampNeg := ⟨_, rfl⟩
              have hat35 := ArfJ.get H35 hin35 hy35
              have cs36 : Steps p.tables e below (s₁.setTop (mkF m 0 #[.val (.ref kq), .val (.int (1 : Int32)), .unset, .unset, .unset] [])) (T34.setTop (mkF m 35 #[.val (.ref kq), .val (.int (1 : Int32)), .val (.int (5 : Int32)), .val (.long y35), .second] [(.int (lcmpW y35 (0 : Int64)))])) := cs30.trans (by
                refine s_ifNo X28 hx (D d25_35) ((if0 _ _).trans (teq hc31).2) ?_
                refine s_iinc X28 hx (D d25_38) rfl (r := (5 : Int32)) (by decide) (l' := #[.val (.ref kq), .val (.int (1 : Int32)), .val (.int (5 : Int32)), .val (.long y29), .second]) rfl ?_
                refine s_iloadN X28 hx (D d25_41) rfl ?_
                refine s_aloadN X28 hx (D d25_42) rfl rfl ?_
                refine st32 _ ?_
                refine X32.arraylength hx (by rw [e32]; exact Ar33.1) (State.isArrayOf_alike hZ.alike Ar33.2.1) (g := (mkF m 46 #[.val (.ref kq), .val (.int (1 : Int32)), .val (.int (5 : Int32)), .val (.long y29), .second] [(.ref aW), (.int (5 : Int32))])) rfl rfl (D d25_46) _ ?_
                rw [len_of S33 Nn33]
                refine s_icmpYes X32 hx 52 (D d25_47) (feq (by decide : ¬ ((5 : Int32) = (16 : Int32)))).2 (of_decide_eq_true rfl) rfl ?_
                refine s_aloadN X32 hx (D d25_52) rfl rfl ?_
                refine st34 _ ?_
                refine s_iloadN X34 hx (D d25_56) rfl ?_
                refine X34.laload hx (j := (5 : Int32)) (v := (.long y35)) (by rw [e34]; exact (Ar35).1) (State.isArrayOf_alike hZ.alike (Ar35).2.1) (Ar35).2.2 hin35 hat35 (g := (mkF m 57 #[.val (.ref kq), .val (.int (1 : Int32)), .val (.int (5 : Int32)), .val (.long y29), .second] [(.int (5 : Int32)), (.ref aW)])) rfl rfl (D d25_57) _ ?_
                refine s_lstoreN X34 hx (D d25_58) (l' := #[.val (.ref kq), .val (.int (1 : Int32)), .val (.int (5 : Int32)), .val (.long y35), .second]) rfl ?_
                refine s_goto X34 hx 32 (D d25_59) (of_decide_eq_true rfl) rfl ?_
                refine s_lloadN X34 hx (D d25_32) rfl ?_
                refine s_lconst X34 hx (0 : Int64) (D d25_33) rfl ?_
                refine s_lcmp X34 hx (D d25_34) rfl ?_
                exact Steps.refl _)
              by_cases hc37 : (lcmpW y35 (0 : Int64)) = (0 : Int32)
              · obtain ⟨T38, X38, e38, st38⟩ := getF X34 hx hZ hown (host := "") (Or.inl (wd 16 rfl)) Via.refl e34 F_kq_occupiedWords (g := (mkF m 43 #[.val (.ref kq), .val (.int (1 : Int32)), .val (.int (6 : Int32)), .val (.long y35), .second] [(.ref kq), (.int (6 : Int32))])) rfl rfl (D d25_43)
                obtain ⟨cl39, Ar39, -, S39, Nn39, -, -⟩ := id V_aW
                obtain ⟨T40, X40, e40, st40⟩ := getF X38 hx hZ hown (host := "") (Or.inl (wd 16 rfl)) Via.refl e38 F_kq_occupiedWords (g := (mkF m 53 #[.val (.ref kq), .val (.int (1 : Int32)), .val (.int (6 : Int32)), .val (.long y35), .second] [(.ref kq)])) rfl rfl (D d25_53)
                obtain ⟨cl41, Ar41, q41, S41, Nn41, H41, G41⟩ := id V_aW
                have hin41 : ¬ ((6 : Int32) < 0 ∨ cl41.slots.size ≤ ((6 : Int32)).toNatClampNeg) := inb_of S41 ⟨by decide, by decide⟩
                obtain ⟨y41, hy41⟩ : ∃ y, y = fW ((6 : Int32)).toNatClampNeg := ⟨_, rfl⟩
                have hat41 := ArfJ.get H41 hin41 hy41
                have cs42 : Steps p.tables e below (s₁.setTop (mkF m 0 #[.val (.ref kq), .val (.int (1 : Int32)), .unset, .unset, .unset] [])) (T40.setTop (mkF m 35 #[.val (.ref kq), .val (.int (1 : Int32)), .val (.int (6 : Int32)), .val (.long y41), .second] [(.int (lcmpW y41 (0 : Int64)))])) := cs36.trans (by
                  refine s_ifNo X34 hx (D d25_35) ((if0 _ _).trans (teq hc37).2) ?_
                  refine s_iinc X34 hx (D d25_38) rfl (r := (6 : Int32)) (by decide) (l' := #[.val (.ref kq), .val (.int (1 : Int32)), .val (.int (6 : Int32)), .val (.long y35), .second]) rfl ?_
                  refine s_iloadN X34 hx (D d25_41) rfl ?_
                  refine s_aloadN X34 hx (D d25_42) rfl rfl ?_
                  refine st38 _ ?_
                  refine X38.arraylength hx (by rw [e38]; exact Ar39.1) (State.isArrayOf_alike hZ.alike Ar39.2.1) (g := (mkF m 46 #[.val (.ref kq), .val (.int (1 : Int32)), .val (.int (6 : Int32)), .val (.long y35), .second] [(.ref aW), (.int (6 : Int32))])) rfl rfl (D d25_46) _ ?_
                  rw [len_of S39 Nn39]
                  refine s_icmpYes X38 hx 52 (D d25_47) (feq (by decide : ¬ ((6 : Int32) = (16 : Int32)))).2 (of_decide_eq_true rfl) rfl ?_
                  refine s_aloadN X38 hx (D d25_52) rfl rfl ?_
                  refine st40 _ ?_
                  refine s_iloadN X40 hx (D d25_56) rfl ?_
                  refine X40.laload hx (j := (6 : Int32)) (v := (.long y41)) (by rw [e40]; exact (Ar41).1) (State.isArrayOf_alike hZ.alike (Ar41).2.1) (Ar41).2.2 hin41 hat41 (g := (mkF m 57 #[.val (.ref kq), .val (.int (1 : Int32)), .val (.int (6 : Int32)), .val (.long y35), .second] [(.int (6 : Int32)), (.ref aW)])) rfl rfl (D d25_57) _ ?_
                  refine s_lstoreN X40 hx (D d25_58) (l' := #[.val (.ref kq), .val (.int (1 : Int32)), .val (.int (6 : Int32)), .val (.long y41), .second]) rfl ?_
                  refine s_goto X40 hx 32 (D d25_59) (of_decide_eq_true rfl) rfl ?_
                  refine s_lloadN X40 hx (D d25_32) rfl ?_
                  refine s_lconst X40 hx (0 : Int64) (D d25_33) rfl ?_
                  refine s_lcmp X40 hx (D d25_34) rfl ?_
                  exact Steps.refl _)
                by_cases hc43 : (lcmpW y41 (0 : Int64)) = (0 : Int32)
                · obtain ⟨T44, X44, e44, st44⟩ := getF X40 hx hZ hown (host := "") (Or.inl (wd 16 rfl)) Via.refl e40 F_kq_occupiedWords (g := (mkF m 43 #[.val (.ref kq), .val (.int (1 : Int32)), .val (.int (7 : Int32)), .val (.long y41), .second] [(.ref kq), (.int (7 : Int32))])) rfl rfl (D d25_43)
                  obtain ⟨cl45, Ar45, -, S45, Nn45, -, -⟩ := id V_aW
                  obtain ⟨T46, X46, e46, st46⟩ := getF X44 hx hZ hown (host := "") (Or.inl (wd 16 rfl)) Via.refl e44 F_kq_occupiedWords (g := (mkF m 53 #[.val (.ref kq), .val (.int (1 : Int32)), .val (.int (7 : Int32)), .val (.long y41), .second] [(.ref kq)])) rfl rfl (D d25_53)
                  obtain ⟨cl47, Ar47, q47, S47, Nn47, H47, G47⟩ := id V_aW
                  have hin47 : ¬ ((7 : Int32) < 0 ∨ cl47.slots.size ≤ ((7 : Int32)).toNatClampNeg) := inb_of S47 ⟨by decide, by decide⟩
                  obtain ⟨y47, hy47⟩ : ∃ y, y = fW ((7 : Int32)).toNatClampNeg := ⟨_, rfl⟩
                  have hat47 := ArfJ.get H47 hin47 hy47
                  have cs48 : Steps p.tables e below (s₁.setTop (mkF m 0 #[.val (.ref kq), .val (.int (1 : Int32)), .unset, .unset, .unset] [])) (T46.setTop (mkF m 35 #[.val (.ref kq), .val (.int (1 : Int32)), .val (.int (7 : Int32)), .val (.long y47), .second] [(.int (lcmpW y47 (0 : Int64)))])) := cs42.trans (by
                    refine s_ifNo X40 hx (D d25_35) ((if0 _ _).trans (teq hc43).2) ?_
                    refine s_iinc X40 hx (D d25_38) rfl (r := (7 : Int32)) (by decide) (l' := #[.val (.ref kq), .val (.int (1 : Int32)), .val (.int (7 : Int32)), .val (.long y41), .second]) rfl ?_
                    refine s_iloadN X40 hx (D d25_41) rfl ?_
                    refine s_aloadN X40 hx (D d25_42) rfl rfl ?_
                    refine st44 _ ?_
                    refine X44.arraylength hx (by rw [e44]; exact Ar45.1) (State.isArrayOf_alike hZ.alike Ar45.2.1) (g := (mkF m 46 #[.val (.ref kq), .val (.int (1 : Int32)), .val (.int (7 : Int32)), .val (.long y41), .second] [(.ref aW), (.int (7 : Int32))])) rfl rfl (D d25_46) _ ?_
                    rw [len_of S45 Nn45]
                    refine s_icmpYes X44 hx 52 (D d25_47) (feq (by decide : ¬ ((7 : Int32) = (16 : Int32)))).2 (of_decide_eq_true rfl) rfl ?_
                    refine s_aloadN X44 hx (D d25_52) rfl rfl ?_
                    refine st46 _ ?_
                    refine s_iloadN X46 hx (D d25_56) rfl ?_
                    refine X46.laload hx (j := (7 : Int32)) (v := (.long y47)) (by rw [e46]; exact (Ar47).1) (State.isArrayOf_alike hZ.alike (Ar47).2.1) (Ar47).2.2 hin47 hat47 (g := (mkF m 57 #[.val (.ref kq), .val (.int (1 : Int32)), .val (.int (7 : Int32)), .val (.long y41), .second] [(.int (7 : Int32)), (.ref aW)])) rfl rfl (D d25_57) _ ?_
                    refine s_lstoreN X46 hx (D d25_58) (l' := #[.val (.ref kq), .val (.int (1 : Int32)), .val (.int (7 : Int32)), .val (.long y47), .second]) rfl ?_
                    refine s_goto X46 hx 32 (D d25_59) (of_decide_eq_true rfl) rfl ?_
                    refine s_lloadN X46 hx (D d25_32) rfl ?_
                    refine s_lconst X46 hx (0 : Int64) (D d25_33) rfl ?_
                    refine s_lcmp X46 hx (D d25_34) rfl ?_
                    exact Steps.refl _)
                  by_cases hc49 : (lcmpW y47 (0 : Int64)) = (0 : Int32)
                  · obtain ⟨T50, X50, e50, st50⟩ := getF X46 hx hZ hown (host := "") (Or.inl (wd 16 rfl)) Via.refl e46 F_kq_occupiedWords (g := (mkF m 43 #[.val (.ref kq), .val (.int (1 : Int32)), .val (.int (8 : Int32)), .val (.long y47), .second] [(.ref kq), (.int (8 : Int32))])) rfl rfl (D d25_43)
                    obtain ⟨cl51, Ar51, -, S51, Nn51, -, -⟩ := id V_aW
                    obtain ⟨T52, X52, e52, st52⟩ := getF X50 hx hZ hown (host := "") (Or.inl (wd 16 rfl)) Via.refl e50 F_kq_occupiedWords (g := (mkF m 53 #[.val (.ref kq), .val (.int (1 : Int32)), .val (.int (8 : Int32)), .val (.long y47), .second] [(.ref kq)])) rfl rfl (D d25_53)
                    obtain ⟨cl53, Ar53, q53, S53, Nn53, H53, G53⟩ := id V_aW
                    have hin53 : ¬ ((8 : Int32) < 0 ∨ cl53.slots.size ≤ ((8 : Int32)).toNatClampNeg) := inb_of S53 ⟨by decide, by decide⟩
                    obtain ⟨y53, hy53⟩ : ∃ y, y = fW ((8 : Int32)).toNatClampNeg := ⟨_, rfl⟩
                    have hat53 := ArfJ.get H53 hin53 hy53
                    have cs54 : Steps p.tables e below (s₁.setTop (mkF m 0 #[.val (.ref kq), .val (.int (1 : Int32)), .unset, .unset, .unset] [])) (T52.setTop (mkF m 35 #[.val (.ref kq), .val (.int (1 : Int32)), .val (.int (8 : Int32)), .val (.long y53), .second] [(.int (lcmpW y53 (0 : Int64)))])) := cs48.trans (by
                      refine s_ifNo X46 hx (D d25_35) ((if0 _ _).trans (teq hc49).2) ?_
                      refine s_iinc X46 hx (D d25_38) rfl (r := (8 : Int32)) (by decide) (l' := #[.val (.ref kq), .val (.int (1 : Int32)), .val (.int (8 : Int32)), .val (.long y47), .second]) rfl ?_
                      refine s_iloadN X46 hx (D d25_41) rfl ?_
                      refine s_aloadN X46 hx (D d25_42) rfl rfl ?_
                      refine st50 _ ?_
                      refine X50.arraylength hx (by rw [e50]; exact Ar51.1) (State.isArrayOf_alike hZ.alike Ar51.2.1) (g := (mkF m 46 #[.val (.ref kq), .val (.int (1 : Int32)), .val (.int (8 : Int32)), .val (.long y47), .second] [(.ref aW), (.int (8 : Int32))])) rfl rfl (D d25_46) _ ?_
                      rw [len_of S51 Nn51]
                      refine s_icmpYes X50 hx 52 (D d25_47) (feq (by decide : ¬ ((8 : Int32) = (16 : Int32)))).2 (of_decide_eq_true rfl) rfl ?_
                      refine s_aloadN X50 hx (D d25_52) rfl rfl ?_
                      refine st52 _ ?_
                      refine s_iloadN X52 hx (D d25_56) rfl ?_
                      refine X52.laload hx (j := (8 : Int32)) (v := (.long y53)) (by rw [e52]; exact (Ar53).1) (State.isArrayOf_alike hZ.alike (Ar53).2.1) (Ar53).2.2 hin53 hat53 (g := (mkF m 57 #[.val (.ref kq), .val (.int (1 : Int32)), .val (.int (8 : Int32)), .val (.long y47), .second] [(.int (8 : Int32)), (.ref aW)])) rfl rfl (D d25_57) _ ?_
                      refine s_lstoreN X52 hx (D d25_58) (l' := #[.val (.ref kq), .val (.int (1 : Int32)), .val (.int (8 : Int32)), .val (.long y53), .second]) rfl ?_
                      refine s_goto X52 hx 32 (D d25_59) (of_decide_eq_true rfl) rfl ?_
                      refine s_lloadN X52 hx (D d25_32) rfl ?_
                      refine s_lconst X52 hx (0 : Int64) (D d25_33) rfl ?_
                      refine s_lcmp X52 hx (D d25_34) rfl ?_
                      exact Steps.refl _)
                    by_cases hc55 : (lcmpW y53 (0 : Int64)) = (0 : Int32)
                    · obtain ⟨T56, X56, e56, st56⟩ := getF X52 hx hZ hown (host := "") (Or.inl (wd 16 rfl)) Via.refl e52 F_kq_occupiedWords (g := (mkF m 43 #[.val (.ref kq), .val (.int (1 : Int32)), .val (.int (9 : Int32)), .val (.long y53), .second] [(.ref kq), (.int (9 : Int32))])) rfl rfl (D d25_43)
                      obtain ⟨cl57, Ar57, -, S57, Nn57, -, -⟩ := id V_aW
                      obtain ⟨T58, X58, e58, st58⟩ := getF X56 hx hZ hown (host := "") (Or.inl (wd 16 rfl)) Via.refl e56 F_kq_occupiedWords (g := (mkF m 53 #[.val (.ref kq), .val (.int (1 : Int32)), .val (.int (9 : Int32)), .val (.long y53), .second] [(.ref kq)])) rfl rfl (D d25_53)
                      obtain ⟨cl59, Ar59, q59, S59, Nn59, H59, G59⟩ := id V_aW
                      have hin59 : ¬ ((9 : Int32) < 0 ∨ cl59.slots.size ≤ ((9 : Int32)).toNatClampNeg) := inb_of S59 ⟨by decide, by decide⟩
                      obtain ⟨y59, hy59⟩ : ∃ y, y = fW ((9 : Int32)).toNatClampNeg := ⟨_, rfl⟩
                      have hat59 := ArfJ.get H59 hin59 hy59
                      have cs60 : Steps p.tables e below (s₁.setTop (mkF m 0 #[.val (.ref kq), .val (.int (1 : Int32)), .unset, .unset, .unset] [])) (T58.setTop (mkF m 35 #[.val (.ref kq), .val (.int (1 : Int32)), .val (.int (9 : Int32)), .val (.long y59), .second] [(.int (lcmpW y59 (0 : Int64)))])) := cs54.trans (by
                        refine s_ifNo X52 hx (D d25_35) ((if0 _ _).trans (teq hc55).2) ?_
                        refine s_iinc X52 hx (D d25_38) rfl (r := (9 : Int32)) (by decide) (l' := #[.val (.ref kq), .val (.int (1 : Int32)), .val (.int (9 : Int32)), .val (.long y53), .second]) rfl ?_
                        refine s_iloadN X52 hx (D d25_41) rfl ?_
                        refine s_aloadN X52 hx (D d25_42) rfl rfl ?_
                        refine st56 _ ?_
                        refine X56.arraylength hx (by rw [e56]; exact Ar57.1) (State.isArrayOf_alike hZ.alike Ar57.2.1) (g := (mkF m 46 #[.val (.ref kq), .val (.int (1 : Int32)), .val (.int (9 : Int32)), .val (.long y53), .second] [(.ref aW), (.int (9 : Int32))])) rfl rfl (D d25_46) _ ?_
                        rw [len_of S57 Nn57]
                        refine s_icmpYes X56 hx 52 (D d25_47) (feq (by decide : ¬ ((9 : Int32) = (16 : Int32)))).2 (of_decide_eq_true rfl) rfl ?_
                        refine s_aloadN X56 hx (D d25_52) rfl rfl ?_
                        refine st58 _ ?_
                        refine s_iloadN X58 hx (D d25_56) rfl ?_
                        refine X58.laload hx (j := (9 : Int32)) (v := (.long y59)) (by rw [e58]; exact (Ar59).1) (State.isArrayOf_alike hZ.alike (Ar59).2.1) (Ar59).2.2 hin59 hat59 (g := (mkF m 57 #[.val (.ref kq), .val (.int (1 : Int32)), .val (.int (9 : Int32)), .val (.long y53), .second] [(.int (9 : Int32)), (.ref aW)])) rfl rfl (D d25_57) _ ?_
                        refine s_lstoreN X58 hx (D d25_58) (l' := #[.val (.ref kq), .val (.int (1 : Int32)), .val (.int (9 : Int32)), .val (.long y59), .second]) rfl ?_
                        refine s_goto X58 hx 32 (D d25_59) (of_decide_eq_true rfl) rfl ?_
                        refine s_lloadN X58 hx (D d25_32) rfl ?_
                        refine s_lconst X58 hx (0 : Int64) (D d25_33) rfl ?_
                        refine s_lcmp X58 hx (D d25_34) rfl ?_
                        exact Steps.refl _)
                      by_cases hc61 : (lcmpW y59 (0 : Int64)) = (0 : Int32)
                      · obtain ⟨T62, X62, e62, st62⟩ := getF X58 hx hZ hown (host := "") (Or.inl (wd 16 rfl)) Via.refl e58 F_kq_occupiedWords (g := (mkF m 43 #[.val (.ref kq), .val (.int (1 : Int32)), .val (.int (10 : Int32)), .val (.long y59), .second] [(.ref kq), (.int (10 : Int32))])) rfl rfl (D d25_43)
                        obtain ⟨cl63, Ar63, -, S63, Nn63, -, -⟩ := id V_aW
                        obtain ⟨T64, X64, e64, st64⟩ := getF X62 hx hZ hown (host := "") (Or.inl (wd 16 rfl)) Via.refl e62 F_kq_occupiedWords (g := (mkF m 53 #[.val (.ref kq), .val (.int (1 : Int32)), .val (.int (10 : Int32)), .val (.long y59), .second] [(.ref kq)])) rfl rfl (D d25_53)
                        obtain ⟨cl65, Ar65, q65, S65, Nn65, H65, G65⟩ := id V_aW
                        have hin65 : ¬ ((10 : Int32) < 0 ∨ cl65.slots.size ≤ ((10 : Int32)).toNatClampNeg) := inb_of S65 ⟨by decide, by decide⟩
                        obtain ⟨y65, hy65⟩ : ∃ y, y = fW ((10 : Int32)).toNatClampNeg := ⟨_, rfl⟩
                        have hat65 := ArfJ.get H65 hin65 hy65
                        have cs66 : Steps p.tables e below (s₁.setTop (mkF m 0 #[.val (.ref kq), .val (.int (1 : Int32)), .unset, .unset, .unset] [])) (T64.setTop (mkF m 35 #[.val (.ref kq), .val (.int (1 : Int32)), .val (.int (10 : Int32)), .val (.long y65), .second] [(.int (lcmpW y65 (0 : Int64)))])) := cs60.trans (by
                          refine s_ifNo X58 hx (D d25_35) ((if0 _ _).trans (teq hc61).2) ?_
                          refine s_iinc X58 hx (D d25_38) rfl (r := (10 : Int32)) (by decide) (l' := #[.val (.ref kq), .val (.int (1 : Int32)), .val (.int (10 : Int32)), .val (.long y59), .second]) rfl ?_
                          refine s_iloadN X58 hx (D d25_41) rfl ?_
                          refine s_aloadN X58 hx (D d25_42) rfl rfl ?_
                          refine st62 _ ?_
                          refine X62.arraylength hx (by rw [e62]; exact Ar63.1) (State.isArrayOf_alike hZ.alike Ar63.2.1) (g := (mkF m 46 #[.val (.ref kq), .val (.int (1 : Int32)), .val (.int (10 : Int32)), .val (.long y59), .second] [(.ref aW), (.int (10 : Int32))])) rfl rfl (D d25_46) _ ?_
                          rw [len_of S63 Nn63]
                          refine s_icmpYes X62 hx 52 (D d25_47) (feq (by decide : ¬ ((10 : Int32) = (16 : Int32)))).2 (of_decide_eq_true rfl) rfl ?_
                          refine s_aloadN X62 hx (D d25_52) rfl rfl ?_
                          refine st64 _ ?_
                          refine s_iloadN X64 hx (D d25_56) rfl ?_
                          refine X64.laload hx (j := (10 : Int32)) (v := (.long y65)) (by rw [e64]; exact (Ar65).1) (State.isArrayOf_alike hZ.alike (Ar65).2.1) (Ar65).2.2 hin65 hat65 (g := (mkF m 57 #[.val (.ref kq), .val (.int (1 : Int32)), .val (.int (10 : Int32)), .val (.long y59), .second] [(.int (10 : Int32)), (.ref aW)])) rfl rfl (D d25_57) _ ?_
                          refine s_lstoreN X64 hx (D d25_58) (l' := #[.val (.ref kq), .val (.int (1 : Int32)), .val (.int (10 : Int32)), .val (.long y65), .second]) rfl ?_
                          refine s_goto X64 hx 32 (D d25_59) (of_decide_eq_true rfl) rfl ?_
                          refine s_lloadN X64 hx (D d25_32) rfl ?_
                          refine s_lconst X64 hx (0 : Int64) (D d25_33) rfl ?_
                          refine s_lcmp X64 hx (D d25_34) rfl ?_
                          exact Steps.refl _)
                        by_cases hc67 : (lcmpW y65 (0 : Int64)) = (0 : Int32)
                        · obtain ⟨T68, X68, e68, st68⟩ := getF X64 hx hZ hown (host := "") (Or.inl (wd 16 rfl)) Via.refl e64 F_kq_occupiedWords (g := (mkF m 43 #[.val (.ref kq), .val (.int (1 : Int32)), .val (.int (11 : Int32)), .val (.long y65), .second] [(.ref kq), (.int (11 : Int32))])) rfl rfl (D d25_43)
                          obtain ⟨cl69, Ar69, -, S69, Nn69, -, -⟩ := id V_aW
                          obtain ⟨T70, X70, e70, st70⟩ := getF X68 hx hZ hown (host := "") (Or.inl (wd 16 rfl)) Via.refl e68 F_kq_occupiedWords (g := (mkF m 53 #[.val (.ref kq), .val (.int (1 : Int32)), .val (.int (11 : Int32)), .val (.long y65), .second] [(.ref kq)])) rfl rfl (D d25_53)
                          obtain ⟨cl71, Ar71, q71, S71, Nn71, H71, G71⟩ := id V_aW
                          have hin71 : ¬ ((11 : Int32) < 0 ∨ cl71.slots.size ≤ ((11 : Int32)).toNatClampNeg) := inb_of S71 ⟨by decide, by decide⟩
                          obtain ⟨y71, hy71⟩ : ∃ y, y = fW ((11 : Int32)).toNatClampNeg := ⟨_, rfl⟩
                          have hat71 := ArfJ.get H71 hin71 hy71
                          have cs72 : Steps p.tables e below (s₁.setTop (mkF m 0 #[.val (.ref kq), .val (.int (1 : Int32)), .unset, .unset, .unset] [])) (T70.setTop (mkF m 35 #[.val (.ref kq), .val (.int (1 : Int32)), .val (.int (11 : Int32)), .val (.long y71), .second] [(.int (lcmpW y71 (0 : Int64)))])) := cs66.trans (by
                            refine s_ifNo X64 hx (D d25_35) ((if0 _ _).trans (teq hc67).2) ?_
                            refine s_iinc X64 hx (D d25_38) rfl (r := (11 : Int32)) (by decide) (l' := #[.val (.ref kq), .val (.int (1 : Int32)), .val (.int (11 : Int32)), .val (.long y65), .second]) rfl ?_
                            refine s_iloadN X64 hx (D d25_41) rfl ?_
                            refine s_aloadN X64 hx (D d25_42) rfl rfl ?_
                            refine st68 _ ?_
                            refine X68.arraylength hx (by rw [e68]; exact Ar69.1) (State.isArrayOf_alike hZ.alike Ar69.2.1) (g := (mkF m 46 #[.val (.ref kq), .val (.int (1 : Int32)), .val (.int (11 : Int32)), .val (.long y65), .second] [(.ref aW), (.int (11 : Int32))])) rfl rfl (D d25_46) _ ?_
                            rw [len_of S69 Nn69]
                            refine s_icmpYes X68 hx 52 (D d25_47) (feq (by decide : ¬ ((11 : Int32) = (16 : Int32)))).2 (of_decide_eq_true rfl) rfl ?_
                            refine s_aloadN X68 hx (D d25_52) rfl rfl ?_
                            refine st70 _ ?_
                            refine s_iloadN X70 hx (D d25_56) rfl ?_
                            refine X70.laload hx (j := (11 : Int32)) (v := (.long y71)) (by rw [e70]; exact (Ar71).1) (State.isArrayOf_alike hZ.alike (Ar71).2.1) (Ar71).2.2 hin71 hat71 (g := (mkF m 57 #[.val (.ref kq), .val (.int (1 : Int32)), .val (.int (11 : Int32)), .val (.long y65), .second] [(.int (11 : Int32)), (.ref aW)])) rfl rfl (D d25_57) _ ?_
                            refine s_lstoreN X70 hx (D d25_58) (l' := #[.val (.ref kq), .val (.int (1 : Int32)), .val (.int (11 : Int32)), .val (.long y71), .second]) rfl ?_
                            refine s_goto X70 hx 32 (D d25_59) (of_decide_eq_true rfl) rfl ?_
                            refine s_lloadN X70 hx (D d25_32) rfl ?_
                            refine s_lconst X70 hx (0 : Int64) (D d25_33) rfl ?_
                            refine s_lcmp X70 hx (D d25_34) rfl ?_
                            exact Steps.refl _)
                          by_cases hc73 : (lcmpW y71 (0 : Int64)) = (0 : Int32)
                          · obtain ⟨T74, X74, e74, st74⟩ := getF X70 hx hZ hown (host := "") (Or.inl (wd 16 rfl)) Via.refl e70 F_kq_occupiedWords (g := (mkF m 43 #[.val (.ref kq), .val (.int (1 : Int32)), .val (.int (12 : Int32)), .val (.long y71), .second] [(.ref kq), (.int (12 : Int32))])) rfl rfl (D d25_43)
                            obtain ⟨cl75, Ar75, -, S75, Nn75, -, -⟩ := id V_aW
                            obtain ⟨T76, X76, e76, st76⟩ := getF X74 hx hZ hown (host := "") (Or.inl (wd 16 rfl)) Via.refl e74 F_kq_occupiedWords (g := (mkF m 53 #[.val (.ref kq), .val (.int (1 : Int32)), .val (.int (12 : Int32)), .val (.long y71), .second] [(.ref kq)])) rfl rfl (D d25_53)
                            obtain ⟨cl77, Ar77, q77, S77, Nn77, H77, G77⟩ := id V_aW
                            have hin77 : ¬ ((12 : Int32) < 0 ∨ cl77.slots.size ≤ ((12 : Int32)).toNatClampNeg) := inb_of S77 ⟨by decide, by decide⟩
                            obtain ⟨y77, hy77⟩ : ∃ y, y = fW ((12 : Int32)).toNatClampNeg := ⟨_, rfl⟩
                            have hat77 := ArfJ.get H77 hin77 hy77
                            have cs78 : Steps p.tables e below (s₁.setTop (mkF m 0 #[.val (.ref kq), .val (.int (1 : Int32)), .unset, .unset, .unset] [])) (T76.setTop (mkF m 35 #[.val (.ref kq), .val (.int (1 : Int32)), .val (.int (12 : Int32)), .val (.long y77), .second] [(.int (lcmpW y77 (0 : Int64)))])) := cs72.trans (by
                              refine s_ifNo X70 hx (D d25_35) ((if0 _ _).trans (teq hc73).2) ?_
                              refine s_iinc X70 hx (D d25_38) rfl (r := (12 : Int32)) (by decide) (l' := #[.val (.ref kq), .val (.int (1 : Int32)), .val (.int (12 : Int32)), .val (.long y71), .second]) rfl ?_
                              refine s_iloadN X70 hx (D d25_41) rfl ?_
                              refine s_aloadN X70 hx (D d25_42) rfl rfl ?_
                              refine st74 _ ?_
                              refine X74.arraylength hx (by rw [e74]; exact Ar75.1) (State.isArrayOf_alike hZ.alike Ar75.2.1) (g := (mkF m 46 #[.val (.ref kq), .val (.int (1 : Int32)), .val (.int (12 : Int32)), .val (.long y71), .second] [(.ref aW), (.int (12 : Int32))])) rfl rfl (D d25_46) _ ?_
                              rw [len_of S75 Nn75]
                              refine s_icmpYes X74 hx 52 (D d25_47) (feq (by decide : ¬ ((12 : Int32) = (16 : Int32)))).2 (of_decide_eq_true rfl) rfl ?_
                              refine s_aloadN X74 hx (D d25_52) rfl rfl ?_
                              refine st76 _ ?_
                              refine s_iloadN X76 hx (D d25_56) rfl ?_
                              refine X76.laload hx (j := (12 : Int32)) (v := (.long y77)) (by rw [e76]; exact (Ar77).1) (State.isArrayOf_alike hZ.alike (Ar77).2.1) (Ar77).2.2 hin77 hat77 (g := (mkF m 57 #[.val (.ref kq), .val (.int (1 : Int32)), .val (.int (12 : Int32)), .val (.long y71), .second] [(.int (12 : Int32)), (.ref aW)])) rfl rfl (D d25_57) _ ?_
                              refine s_lstoreN X76 hx (D d25_58) (l' := #[.val (.ref kq), .val (.int (1 : Int32)), .val (.int (12 : Int32)), .val (.long y77), .second]) rfl ?_
                              refine s_goto X76 hx 32 (D d25_59) (of_decide_eq_true rfl) rfl ?_
                              refine s_lloadN X76 hx (D d25_32) rfl ?_
                              refine s_lconst X76 hx (0 : Int64) (D d25_33) rfl ?_
                              refine s_lcmp X76 hx (D d25_34) rfl ?_
                              exact Steps.refl _)
                            by_cases hc79 : (lcmpW y77 (0 : Int64)) = (0 : Int32)
                            · obtain ⟨T80, X80, e80, st80⟩ := getF X76 hx hZ hown (host := "") (Or.inl (wd 16 rfl)) Via.refl e76 F_kq_occupiedWords (g := (mkF m 43 #[.val (.ref kq), .val (.int (1 : Int32)), .val (.int (13 : Int32)), .val (.long y77), .second] [(.ref kq), (.int (13 : Int32))])) rfl rfl (D d25_43)
                              obtain ⟨cl81, Ar81, -, S81, Nn81, -, -⟩ := id V_aW
                              obtain ⟨T82, X82, e82, st82⟩ := getF X80 hx hZ hown (host := "") (Or.inl (wd 16 rfl)) Via.refl e80 F_kq_occupiedWords (g := (mkF m 53 #[.val (.ref kq), .val (.int (1 : Int32)), .val (.int (13 : Int32)), .val (.long y77), .second] [(.ref kq)])) rfl rfl (D d25_53)
                              obtain ⟨cl83, Ar83, q83, S83, Nn83, H83, G83⟩ := id V_aW
                              have hin83 : ¬ ((13 : Int32) < 0 ∨ cl83.slots.size ≤ ((13 : Int32)).toNatClampNeg) := inb_of S83 ⟨by decide, by decide⟩
                              obtain ⟨y83, hy83⟩ : ∃ y, y = fW ((13 : Int32)).toNatClampNeg := ⟨_, rfl⟩
                              have hat83 := ArfJ.get H83 hin83 hy83
                              have cs84 : Steps p.tables e below (s₁.setTop (mkF m 0 #[.val (.ref kq), .val (.int (1 : Int32)), .unset, .unset, .unset] [])) (T82.setTop (mkF m 35 #[.val (.ref kq), .val (.int (1 : Int32)), .val (.int (13 : Int32)), .val (.long y83), .second] [(.int (lcmpW y83 (0 : Int64)))])) := cs78.trans (by
                                refine s_ifNo X76 hx (D d25_35) ((if0 _ _).trans (teq hc79).2) ?_
                                refine s_iinc X76 hx (D d25_38) rfl (r := (13 : Int32)) (by decide) (l' := #[.val (.ref kq), .val (.int (1 : Int32)), .val (.int (13 : Int32)), .val (.long y77), .second]) rfl ?_
                                refine s_iloadN X76 hx (D d25_41) rfl ?_
                                refine s_aloadN X76 hx (D d25_42) rfl rfl ?_
                                refine st80 _ ?_
                                refine X80.arraylength hx (by rw [e80]; exact Ar81.1) (State.isArrayOf_alike hZ.alike Ar81.2.1) (g := (mkF m 46 #[.val (.ref kq), .val (.int (1 : Int32)), .val (.int (13 : Int32)), .val (.long y77), .second] [(.ref aW), (.int (13 : Int32))])) rfl rfl (D d25_46) _ ?_
                                rw [len_of S81 Nn81]
                                refine s_icmpYes X80 hx 52 (D d25_47) (feq (by decide : ¬ ((13 : Int32) = (16 : Int32)))).2 (of_decide_eq_true rfl) rfl ?_
                                refine s_aloadN X80 hx (D d25_52) rfl rfl ?_
                                refine st82 _ ?_
                                refine s_iloadN X82 hx (D d25_56) rfl ?_
                                refine X82.laload hx (j := (13 : Int32)) (v := (.long y83)) (by rw [e82]; exact (Ar83).1) (State.isArrayOf_alike hZ.alike (Ar83).2.1) (Ar83).2.2 hin83 hat83 (g := (mkF m 57 #[.val (.ref kq), .val (.int (1 : Int32)), .val (.int (13 : Int32)), .val (.long y77), .second] [(.int (13 : Int32)), (.ref aW)])) rfl rfl (D d25_57) _ ?_
                                refine s_lstoreN X82 hx (D d25_58) (l' := #[.val (.ref kq), .val (.int (1 : Int32)), .val (.int (13 : Int32)), .val (.long y83), .second]) rfl ?_
                                refine s_goto X82 hx 32 (D d25_59) (of_decide_eq_true rfl) rfl ?_
                                refine s_lloadN X82 hx (D d25_32) rfl ?_
                                refine s_lconst X82 hx (0 : Int64) (D d25_33) rfl ?_
                                refine s_lcmp X82 hx (D d25_34) rfl ?_
                                exact Steps.refl _)
                              by_cases hc85 : (lcmpW y83 (0 : Int64)) = (0 : Int32)
                              · obtain ⟨T86, X86, e86, st86⟩ := getF X82 hx hZ hown (host := "") (Or.inl (wd 16 rfl)) Via.refl e82 F_kq_occupiedWords (g := (mkF m 43 #[.val (.ref kq), .val (.int (1 : Int32)), .val (.int (14 : Int32)), .val (.long y83), .second] [(.ref kq), (.int (14 : Int32))])) rfl rfl (D d25_43)
                                obtain ⟨cl87, Ar87, -, S87, Nn87, -, -⟩ := id V_aW
                                obtain ⟨T88, X88, e88, st88⟩ := getF X86 hx hZ hown (host := "") (Or.inl (wd 16 rfl)) Via.refl e86 F_kq_occupiedWords (g := (mkF m 53 #[.val (.ref kq), .val (.int (1 : Int32)), .val (.int (14 : Int32)), .val (.long y83), .second] [(.ref kq)])) rfl rfl (D d25_53)
                                obtain ⟨cl89, Ar89, q89, S89, Nn89, H89, G89⟩ := id V_aW
                                have hin89 : ¬ ((14 : Int32) < 0 ∨ cl89.slots.size ≤ ((14 : Int32)).toNatClampNeg) := inb_of S89 ⟨by decide, by decide⟩
                                obtain ⟨y89, hy89⟩ : ∃ y, y = fW ((14 : Int32)).toNatClampNeg := ⟨_, rfl⟩
                                have hat89 := ArfJ.get H89 hin89 hy89
                                have cs90 : Steps p.tables e below (s₁.setTop (mkF m 0 #[.val (.ref kq), .val (.int (1 : Int32)), .unset, .unset, .unset] [])) (T88.setTop (mkF m 35 #[.val (.ref kq), .val (.int (1 : Int32)), .val (.int (14 : Int32)), .val (.long y89), .second] [(.int (lcmpW y89 (0 : Int64)))])) := cs84.trans (by
                                  refine s_ifNo X82 hx (D d25_35) ((if0 _ _).trans (teq hc85).2) ?_
                                  refine s_iinc X82 hx (D d25_38) rfl (r := (14 : Int32)) (by decide) (l' := #[.val (.ref kq), .val (.int (1 : Int32)), .val (.int (14 : Int32)), .val (.long y83), .second]) rfl ?_
                                  refine s_iloadN X82 hx (D d25_41) rfl ?_
                                  refine s_aloadN X82 hx (D d25_42) rfl rfl ?_
                                  refine st86 _ ?_
                                  refine X86.arraylength hx (by rw [e86]; exact Ar87.1) (State.isArrayOf_alike hZ.alike Ar87.2.1) (g := (mkF m 46 #[.val (.ref kq), .val (.int (1 : Int32)), .val (.int (14 : Int32)), .val (.long y83), .second] [(.ref aW), (.int (14 : Int32))])) rfl rfl (D d25_46) _ ?_
                                  rw [len_of S87 Nn87]
                                  refine s_icmpYes X86 hx 52 (D d25_47) (feq (by decide : ¬ ((14 : Int32) = (16 : Int32)))).2 (of_decide_eq_true rfl) rfl ?_
                                  refine s_aloadN X86 hx (D d25_52) rfl rfl ?_
                                  refine st88 _ ?_
                                  refine s_iloadN X88 hx (D d25_56) rfl ?_
                                  refine X88.laload hx (j := (14 : Int32)) (v := (.long y89)) (by rw [e88]; exact (Ar89).1) (State.isArrayOf_alike hZ.alike (Ar89).2.1) (Ar89).2.2 hin89 hat89 (g := (mkF m 57 #[.val (.ref kq), .val (.int (1 : Int32)), .val (.int (14 : Int32)), .val (.long y83), .second] [(.int (14 : Int32)), (.ref aW)])) rfl rfl (D d25_57) _ ?_
                                  refine s_lstoreN X88 hx (D d25_58) (l' := #[.val (.ref kq), .val (.int (1 : Int32)), .val (.int (14 : Int32)), .val (.long y89), .second]) rfl ?_
                                  refine s_goto X88 hx 32 (D d25_59) (of_decide_eq_true rfl) rfl ?_
                                  refine s_lloadN X88 hx (D d25_32) rfl ?_
                                  refine s_lconst X88 hx (0 : Int64) (D d25_33) rfl ?_
                                  refine s_lcmp X88 hx (D d25_34) rfl ?_
                                  exact Steps.refl _)
                                by_cases hc91 : (lcmpW y89 (0 : Int64)) = (0 : Int32)
                                · obtain ⟨T92, X92, e92, st92⟩ := getF X88 hx hZ hown (host := "") (Or.inl (wd 16 rfl)) Via.refl e88 F_kq_occupiedWords (g := (mkF m 43 #[.val (.ref kq), .val (.int (1 : Int32)), .val (.int (15 : Int32)), .val (.long y89), .second] [(.ref kq), (.int (15 : Int32))])) rfl rfl (D d25_43)
                                  obtain ⟨cl93, Ar93, -, S93, Nn93, -, -⟩ := id V_aW
                                  obtain ⟨T94, X94, e94, st94⟩ := getF X92 hx hZ hown (host := "") (Or.inl (wd 16 rfl)) Via.refl e92 F_kq_occupiedWords (g := (mkF m 53 #[.val (.ref kq), .val (.int (1 : Int32)), .val (.int (15 : Int32)), .val (.long y89), .second] [(.ref kq)])) rfl rfl (D d25_53)
                                  obtain ⟨cl95, Ar95, q95, S95, Nn95, H95, G95⟩ := id V_aW
                                  have hin95 : ¬ ((15 : Int32) < 0 ∨ cl95.slots.size ≤ ((15 : Int32)).toNatClampNeg) := inb_of S95 ⟨by decide, by decide⟩
                                  obtain ⟨y95, hy95⟩ : ∃ y, y = fW ((15 : Int32)).toNatClampNeg := ⟨_, rfl⟩
                                  have hat95 := ArfJ.get H95 hin95 hy95
                                  have cs96 : Steps p.tables e below (s₁.setTop (mkF m 0 #[.val (.ref kq), .val (.int (1 : Int32)), .unset, .unset, .unset] [])) (T94.setTop (mkF m 35 #[.val (.ref kq), .val (.int (1 : Int32)), .val (.int (15 : Int32)), .val (.long y95), .second] [(.int (lcmpW y95 (0 : Int64)))])) := cs90.trans (by
                                    refine s_ifNo X88 hx (D d25_35) ((if0 _ _).trans (teq hc91).2) ?_
                                    refine s_iinc X88 hx (D d25_38) rfl (r := (15 : Int32)) (by decide) (l' := #[.val (.ref kq), .val (.int (1 : Int32)), .val (.int (15 : Int32)), .val (.long y89), .second]) rfl ?_
                                    refine s_iloadN X88 hx (D d25_41) rfl ?_
                                    refine s_aloadN X88 hx (D d25_42) rfl rfl ?_
                                    refine st92 _ ?_
                                    refine X92.arraylength hx (by rw [e92]; exact Ar93.1) (State.isArrayOf_alike hZ.alike Ar93.2.1) (g := (mkF m 46 #[.val (.ref kq), .val (.int (1 : Int32)), .val (.int (15 : Int32)), .val (.long y89), .second] [(.ref aW), (.int (15 : Int32))])) rfl rfl (D d25_46) _ ?_
                                    rw [len_of S93 Nn93]
                                    refine s_icmpYes X92 hx 52 (D d25_47) (feq (by decide : ¬ ((15 : Int32) = (16 : Int32)))).2 (of_decide_eq_true rfl) rfl ?_
                                    refine s_aloadN X92 hx (D d25_52) rfl rfl ?_
                                    refine st94 _ ?_
                                    refine s_iloadN X94 hx (D d25_56) rfl ?_
                                    refine X94.laload hx (j := (15 : Int32)) (v := (.long y95)) (by rw [e94]; exact (Ar95).1) (State.isArrayOf_alike hZ.alike (Ar95).2.1) (Ar95).2.2 hin95 hat95 (g := (mkF m 57 #[.val (.ref kq), .val (.int (1 : Int32)), .val (.int (15 : Int32)), .val (.long y89), .second] [(.int (15 : Int32)), (.ref aW)])) rfl rfl (D d25_57) _ ?_
                                    refine s_lstoreN X94 hx (D d25_58) (l' := #[.val (.ref kq), .val (.int (1 : Int32)), .val (.int (15 : Int32)), .val (.long y95), .second]) rfl ?_
                                    refine s_goto X94 hx 32 (D d25_59) (of_decide_eq_true rfl) rfl ?_
                                    refine s_lloadN X94 hx (D d25_32) rfl ?_
                                    refine s_lconst X94 hx (0 : Int64) (D d25_33) rfl ?_
                                    refine s_lcmp X94 hx (D d25_34) rfl ?_
                                    exact Steps.refl _)
                                  by_cases hc97 : (lcmpW y95 (0 : Int64)) = (0 : Int32)
                                  · obtain ⟨T98, X98, e98, st98⟩ := getF X94 hx hZ hown (host := "") (Or.inl (wd 16 rfl)) Via.refl e94 F_kq_occupiedWords (g := (mkF m 43 #[.val (.ref kq), .val (.int (1 : Int32)), .val (.int (16 : Int32)), .val (.long y95), .second] [(.ref kq), (.int (16 : Int32))])) rfl rfl (D d25_43)
                                    obtain ⟨cl99, Ar99, -, S99, Nn99, -, -⟩ := id V_aW
                                    exact (own_nwn OK0 (by rw [show fW 0 = y4 from hy4.symm]; exact (lw_eq _ _).mp hc7) (hy11.symm.trans ((lw_eq _ _).mp hc13)) (hy17.symm.trans ((lw_eq _ _).mp hc19)) (hy23.symm.trans ((lw_eq _ _).mp hc25)) (hy29.symm.trans ((lw_eq _ _).mp hc31)) (hy35.symm.trans ((lw_eq _ _).mp hc37)) (hy41.symm.trans ((lw_eq _ _).mp hc43)) (hy47.symm.trans ((lw_eq _ _).mp hc49)) (hy53.symm.trans ((lw_eq _ _).mp hc55)) (hy59.symm.trans ((lw_eq _ _).mp hc61)) (hy65.symm.trans ((lw_eq _ _).mp hc67)) (hy71.symm.trans ((lw_eq _ _).mp hc73)) (hy77.symm.trans ((lw_eq _ _).mp hc79)) (hy83.symm.trans ((lw_eq _ _).mp hc85)) (hy89.symm.trans ((lw_eq _ _).mp hc91)) (hy95.symm.trans ((lw_eq _ _).mp hc97)) hwx).elim
                                  · have cs100 : Steps p.tables e below (s₁.setTop (mkF m 0 #[.val (.ref kq), .val (.int (1 : Int32)), .unset, .unset, .unset] [])) (T94.setTop (mkF m 62 #[.val (.ref kq), .val (.int (1 : Int32)), .val (.int (15 : Int32)), .val (.long y95), .second] [])) := cs96.trans (by
                                      refine s_ifYes X94 hx 62 (D d25_35) ((if0 _ _).trans (feq hc97).2) (of_decide_eq_true rfl) rfl ?_
                                      exact Steps.refl _)
                                    exact ⟨(15 : Int32), y95, T94, _, _, X94, e94, N0, (Keep.refl h0 []), O0, E_kq, F_kq_occupied, F_kq_occupiedWords, V_aO, V_aW, (own_nw OK0 15 (by decide) (by decide) hy95 (Or.inl rfl) (fun q => hc97 ((lw_eq _ _).mpr q))), cs100⟩
                                · have cs101 : Steps p.tables e below (s₁.setTop (mkF m 0 #[.val (.ref kq), .val (.int (1 : Int32)), .unset, .unset, .unset] [])) (T88.setTop (mkF m 62 #[.val (.ref kq), .val (.int (1 : Int32)), .val (.int (14 : Int32)), .val (.long y89), .second] [])) := cs90.trans (by
                                    refine s_ifYes X88 hx 62 (D d25_35) ((if0 _ _).trans (feq hc91).2) (of_decide_eq_true rfl) rfl ?_
                                    exact Steps.refl _)
                                  exact ⟨(14 : Int32), y89, T88, _, _, X88, e88, N0, (Keep.refl h0 []), O0, E_kq, F_kq_occupied, F_kq_occupiedWords, V_aO, V_aW, (own_nw OK0 14 (by decide) (by decide) hy89 (Or.inl rfl) (fun q => hc91 ((lw_eq _ _).mpr q))), cs101⟩
                              · have cs102 : Steps p.tables e below (s₁.setTop (mkF m 0 #[.val (.ref kq), .val (.int (1 : Int32)), .unset, .unset, .unset] [])) (T82.setTop (mkF m 62 #[.val (.ref kq), .val (.int (1 : Int32)), .val (.int (13 : Int32)), .val (.long y83), .second] [])) := cs84.trans (by
                                  refine s_ifYes X82 hx 62 (D d25_35) ((if0 _ _).trans (feq hc85).2) (of_decide_eq_true rfl) rfl ?_
                                  exact Steps.refl _)
                                exact ⟨(13 : Int32), y83, T82, _, _, X82, e82, N0, (Keep.refl h0 []), O0, E_kq, F_kq_occupied, F_kq_occupiedWords, V_aO, V_aW, (own_nw OK0 13 (by decide) (by decide) hy83 (Or.inl rfl) (fun q => hc85 ((lw_eq _ _).mpr q))), cs102⟩
                            · have cs103 : Steps p.tables e below (s₁.setTop (mkF m 0 #[.val (.ref kq), .val (.int (1 : Int32)), .unset, .unset, .unset] [])) (T76.setTop (mkF m 62 #[.val (.ref kq), .val (.int (1 : Int32)), .val (.int (12 : Int32)), .val (.long y77), .second] [])) := cs78.trans (by
                                refine s_ifYes X76 hx 62 (D d25_35) ((if0 _ _).trans (feq hc79).2) (of_decide_eq_true rfl) rfl ?_
                                exact Steps.refl _)
                              exact ⟨(12 : Int32), y77, T76, _, _, X76, e76, N0, (Keep.refl h0 []), O0, E_kq, F_kq_occupied, F_kq_occupiedWords, V_aO, V_aW, (own_nw OK0 12 (by decide) (by decide) hy77 (Or.inl rfl) (fun q => hc79 ((lw_eq _ _).mpr q))), cs103⟩
                          · have cs104 : Steps p.tables e below (s₁.setTop (mkF m 0 #[.val (.ref kq), .val (.int (1 : Int32)), .unset, .unset, .unset] [])) (T70.setTop (mkF m 62 #[.val (.ref kq), .val (.int (1 : Int32)), .val (.int (11 : Int32)), .val (.long y71), .second] [])) := cs72.trans (by
                              refine s_ifYes X70 hx 62 (D d25_35) ((if0 _ _).trans (feq hc73).2) (of_decide_eq_true rfl) rfl ?_
                              exact Steps.refl _)
                            exact ⟨(11 : Int32), y71, T70, _, _, X70, e70, N0, (Keep.refl h0 []), O0, E_kq, F_kq_occupied, F_kq_occupiedWords, V_aO, V_aW, (own_nw OK0 11 (by decide) (by decide) hy71 (Or.inl rfl) (fun q => hc73 ((lw_eq _ _).mpr q))), cs104⟩
                        · have cs105 : Steps p.tables e below (s₁.setTop (mkF m 0 #[.val (.ref kq), .val (.int (1 : Int32)), .unset, .unset, .unset] [])) (T64.setTop (mkF m 62 #[.val (.ref kq), .val (.int (1 : Int32)), .val (.int (10 : Int32)), .val (.long y65), .second] [])) := cs66.trans (by
                            refine s_ifYes X64 hx 62 (D d25_35) ((if0 _ _).trans (feq hc67).2) (of_decide_eq_true rfl) rfl ?_
                            exact Steps.refl _)
                          exact ⟨(10 : Int32), y65, T64, _, _, X64, e64, N0, (Keep.refl h0 []), O0, E_kq, F_kq_occupied, F_kq_occupiedWords, V_aO, V_aW, (own_nw OK0 10 (by decide) (by decide) hy65 (Or.inl rfl) (fun q => hc67 ((lw_eq _ _).mpr q))), cs105⟩
                      · have cs106 : Steps p.tables e below (s₁.setTop (mkF m 0 #[.val (.ref kq), .val (.int (1 : Int32)), .unset, .unset, .unset] [])) (T58.setTop (mkF m 62 #[.val (.ref kq), .val (.int (1 : Int32)), .val (.int (9 : Int32)), .val (.long y59), .second] [])) := cs60.trans (by
                          refine s_ifYes X58 hx 62 (D d25_35) ((if0 _ _).trans (feq hc61).2) (of_decide_eq_true rfl) rfl ?_
                          exact Steps.refl _)
                        exact ⟨(9 : Int32), y59, T58, _, _, X58, e58, N0, (Keep.refl h0 []), O0, E_kq, F_kq_occupied, F_kq_occupiedWords, V_aO, V_aW, (own_nw OK0 9 (by decide) (by decide) hy59 (Or.inl rfl) (fun q => hc61 ((lw_eq _ _).mpr q))), cs106⟩
                    · have cs107 : Steps p.tables e below (s₁.setTop (mkF m 0 #[.val (.ref kq), .val (.int (1 : Int32)), .unset, .unset, .unset] [])) (T52.setTop (mkF m 62 #[.val (.ref kq), .val (.int (1 : Int32)), .val (.int (8 : Int32)), .val (.long y53), .second] [])) := cs54.trans (by
                        refine s_ifYes X52 hx 62 (D d25_35) ((if0 _ _).trans (feq hc55).2) (of_decide_eq_true rfl) rfl ?_
                        exact Steps.refl _)
                      exact ⟨(8 : Int32), y53, T52, _, _, X52, e52, N0, (Keep.refl h0 []), O0, E_kq, F_kq_occupied, F_kq_occupiedWords, V_aO, V_aW, (own_nw OK0 8 (by decide) (by decide) hy53 (Or.inl rfl) (fun q => hc55 ((lw_eq _ _).mpr q))), cs107⟩
                  · have cs108 : Steps p.tables e below (s₁.setTop (mkF m 0 #[.val (.ref kq), .val (.int (1 : Int32)), .unset, .unset, .unset] [])) (T46.setTop (mkF m 62 #[.val (.ref kq), .val (.int (1 : Int32)), .val (.int (7 : Int32)), .val (.long y47), .second] [])) := cs48.trans (by
                      refine s_ifYes X46 hx 62 (D d25_35) ((if0 _ _).trans (feq hc49).2) (of_decide_eq_true rfl) rfl ?_
                      exact Steps.refl _)
                    exact ⟨(7 : Int32), y47, T46, _, _, X46, e46, N0, (Keep.refl h0 []), O0, E_kq, F_kq_occupied, F_kq_occupiedWords, V_aO, V_aW, (own_nw OK0 7 (by decide) (by decide) hy47 (Or.inl rfl) (fun q => hc49 ((lw_eq _ _).mpr q))), cs108⟩
                · have cs109 : Steps p.tables e below (s₁.setTop (mkF m 0 #[.val (.ref kq), .val (.int (1 : Int32)), .unset, .unset, .unset] [])) (T40.setTop (mkF m 62 #[.val (.ref kq), .val (.int (1 : Int32)), .val (.int (6 : Int32)), .val (.long y41), .second] [])) := cs42.trans (by
                    refine s_ifYes X40 hx 62 (D d25_35) ((if0 _ _).trans (feq hc43).2) (of_decide_eq_true rfl) rfl ?_
                    exact Steps.refl _)
                  exact ⟨(6 : Int32), y41, T40, _, _, X40, e40, N0, (Keep.refl h0 []), O0, E_kq, F_kq_occupied, F_kq_occupiedWords, V_aO, V_aW, (own_nw OK0 6 (by decide) (by decide) hy41 (Or.inl rfl) (fun q => hc43 ((lw_eq _ _).mpr q))), cs109⟩
              · have cs110 : Steps p.tables e below (s₁.setTop (mkF m 0 #[.val (.ref kq), .val (.int (1 : Int32)), .unset, .unset, .unset] [])) (T34.setTop (mkF m 62 #[.val (.ref kq), .val (.int (1 : Int32)), .val (.int (5 : Int32)), .val (.long y35), .second] [])) := cs36.trans (by
                  refine s_ifYes X34 hx 62 (D d25_35) ((if0 _ _).trans (feq hc37).2) (of_decide_eq_true rfl) rfl ?_
                  exact Steps.refl _)
                exact ⟨(5 : Int32), y35, T34, _, _, X34, e34, N0, (Keep.refl h0 []), O0, E_kq, F_kq_occupied, F_kq_occupiedWords, V_aO, V_aW, (own_nw OK0 5 (by decide) (by decide) hy35 (Or.inl rfl) (fun q => hc37 ((lw_eq _ _).mpr q))), cs110⟩
            · have cs111 : Steps p.tables e below (s₁.setTop (mkF m 0 #[.val (.ref kq), .val (.int (1 : Int32)), .unset, .unset, .unset] [])) (T28.setTop (mkF m 62 #[.val (.ref kq), .val (.int (1 : Int32)), .val (.int (4 : Int32)), .val (.long y29), .second] [])) := cs30.trans (by
                refine s_ifYes X28 hx 62 (D d25_35) ((if0 _ _).trans (feq hc31).2) (of_decide_eq_true rfl) rfl ?_
                exact Steps.refl _)
              exact ⟨(4 : Int32), y29, T28, _, _, X28, e28, N0, (Keep.refl h0 []), O0, E_kq, F_kq_occupied, F_kq_occupiedWords, V_aO, V_aW, (own_nw OK0 4 (by decide) (by decide) hy29 (Or.inl rfl) (fun q => hc31 ((lw_eq _ _).mpr q))), cs111⟩
          · have cs112 : Steps p.tables e below (s₁.setTop (mkF m 0 #[.val (.ref kq), .val (.int (1 : Int32)), .unset, .unset, .unset] [])) (T22.setTop (mkF m 62 #[.val (.ref kq), .val (.int (1 : Int32)), .val (.int (3 : Int32)), .val (.long y23), .second] [])) := cs24.trans (by
              refine s_ifYes X22 hx 62 (D d25_35) ((if0 _ _).trans (feq hc25).2) (of_decide_eq_true rfl) rfl ?_
              exact Steps.refl _)
            exact ⟨(3 : Int32), y23, T22, _, _, X22, e22, N0, (Keep.refl h0 []), O0, E_kq, F_kq_occupied, F_kq_occupiedWords, V_aO, V_aW, (own_nw OK0 3 (by decide) (by decide) hy23 (Or.inl rfl) (fun q => hc25 ((lw_eq _ _).mpr q))), cs112⟩
        · have cs113 : Steps p.tables e below (s₁.setTop (mkF m 0 #[.val (.ref kq), .val (.int (1 : Int32)), .unset, .unset, .unset] [])) (T16.setTop (mkF m 62 #[.val (.ref kq), .val (.int (1 : Int32)), .val (.int (2 : Int32)), .val (.long y17), .second] [])) := cs18.trans (by
            refine s_ifYes X16 hx 62 (D d25_35) ((if0 _ _).trans (feq hc19).2) (of_decide_eq_true rfl) rfl ?_
            exact Steps.refl _)
          exact ⟨(2 : Int32), y17, T16, _, _, X16, e16, N0, (Keep.refl h0 []), O0, E_kq, F_kq_occupied, F_kq_occupiedWords, V_aO, V_aW, (own_nw OK0 2 (by decide) (by decide) hy17 (Or.inl rfl) (fun q => hc19 ((lw_eq _ _).mpr q))), cs113⟩
      · have cs114 : Steps p.tables e below (s₁.setTop (mkF m 0 #[.val (.ref kq), .val (.int (1 : Int32)), .unset, .unset, .unset] [])) (T10.setTop (mkF m 62 #[.val (.ref kq), .val (.int (1 : Int32)), .val (.int (1 : Int32)), .val (.long y11), .second] [])) := cs12.trans (by
          refine s_ifYes X10 hx 62 (D d25_35) ((if0 _ _).trans (feq hc13).2) (of_decide_eq_true rfl) rfl ?_
          exact Steps.refl _)
        exact ⟨(1 : Int32), y11, T10, _, _, X10, e10, N0, (Keep.refl h0 []), O0, E_kq, F_kq_occupied, F_kq_occupiedWords, V_aO, V_aW, (own_nw OK0 1 (by decide) (by decide) hy11 (Or.inl rfl) (fun q => hc13 ((lw_eq _ _).mpr q))), cs114⟩
    · have cs115 : Steps p.tables e below (s₁.setTop (mkF m 0 #[.val (.ref kq), .val (.int (1 : Int32)), .unset, .unset, .unset] [])) (T3.setTop (mkF m 62 #[.val (.ref kq), .val (.int (1 : Int32)), .val (.int (0 : Int32)), .val (.long (y4 &&& (-2 : Int64))), .second] [])) := cs6.trans (by
        refine s_ifYes X3 hx 62 (D d25_35) ((if0 _ _).trans (feq hc7).2) (of_decide_eq_true rfl) rfl ?_
        exact Steps.refl _)
      exact ⟨(0 : Int32), (y4 &&& (-2 : Int64)), T3, _, _, X3, e3, N0, (Keep.refl h0 []), O0, E_kq, F_kq_occupied, F_kq_occupiedWords, V_aO, V_aW, (own_nw OK0 0 (by decide) (by decide) hy4 (Or.inr rfl) (fun q => hc7 ((lw_eq _ _).mpr q))), cs115⟩
  obtain ⟨jg_5, jw_5, Tj5, Lj5, hj5, Xj5, ej5, Nj5, Kj5, Oj5, J5_0, J5_1, J5_2, J5_3, J5_4, Jp5_0, cj5⟩ := jn5
  obtain ⟨_, _, ⟨T116, L116, k116, n116⟩, -, X116, ⟨Lc116, hQ116, l116, y116, z116⟩, st116⟩ := Jvm.LawKit.callS Xj5 hx (y := (⟨"java/lang/Long", "numberOfTrailingZeros", "(J)I"⟩ : MethodName)) hown (mvT hZ (wd 109 rfl)) (mvT hZ (wd 110 rfl)) (mvT hZ (wd 111 rfl)) (mvT hZ (wd 112 rfl)) (by decide) (own_nback (W := 1) (n0 := n0) (Z := Z) jw_5 (own_ntab hw hZ) (by decide) (by decide)) (g := (mkF m 67 #[.val (.ref kq), .val (.int (1 : Int32)), .val (.int jg_5), .val (.long jw_5), .second] [(.long jw_5), (.int (jg_5 * (64 : Int32)))])) rfl (by rw [hml]; rfl) (argsL := [(.long jw_5)]) (rest := [(.int (jg_5 * (64 : Int32)))]) (lenOf pd_7 rfl) rfl (by show 2 * 0 + _ ≤ _; exact Nat.le_of_eq rfl) (D d25_67) (fun _ _ => ⟨rfl, ej5, (by decide : 0 + 0 ≤ _), (by decide : 0 + 0 ≤ _)⟩)
  dsimp only [Pt.U, Pt.locs, Pt.cells, Pt.slots] at X116 l116 y116 z116 st116 hQ116
  subst l116 y116 z116
  obtain ⟨rfl, N116q, e116⟩ := hQ116
  have N116 := Fr.app Nj5 N116q
  obtain ⟨fs, hr, hrun, hended, hW, hsame⟩ := X116.leave (v := some (.int ((jg_5 * (64 : Int32)) + (Jvm.Free.JP.Long_numberOfTrailingZeros_J.val jw_5)))) (fun h => by rw [Bd.returns] at h; cases h)
  refine ⟨_, _, pre0 _ ?_, hrun, hended, _, _, rfl, ?_, ⟨_, rfl⟩, hW, hsame.mono (by decide) (by decide)⟩
  · refine cj5.trans ?_
    refine s_iloadN Xj5 hx (D d25_62) rfl ?_
    refine s_bipush Xj5 hx (64 : Int32) (D d25_63) rfl ?_
    refine s_imul Xj5 hx (D d25_65) rfl ?_
    refine s_lloadN Xj5 hx (D d25_66) rfl ?_
    refine st116 _ ?_
    refine s_iadd X116 hx (D d25_70) rfl ?_
    exact retI X116 hx Bd.returns (D d25_71) hr
  · show Q_rm_knextOccupiedWord Z kq aO aW kO kW fF fO fW h0 n0 _ T116.heap _
    rw [e116]
    exact ⟨((jg_5 * (64 : Int32)) + (Jvm.Free.JP.Long_numberOfTrailingZeros_J.val jw_5)), rfl, N116, Kj5, Jp5_0⟩
theorem d14_0 : decode prog_39_method_11_code 0 = .ok (.iload_n 1, 1) := by decide +kernel
theorem d14_1 : decode prog_39_method_11_code 1 = .ok (.bipush 64, 2) := by decide +kernel
theorem d14_3 : decode prog_39_method_11_code 3 = .ok (.idiv, 1) := by decide +kernel
theorem d14_4 : decode prog_39_method_11_code 4 = .ok (.istore_n 2, 1) := by decide +kernel
theorem d14_5 : decode prog_39_method_11_code 5 = .ok (.aload_n 0, 1) := by decide +kernel
theorem d14_6 : decode prog_39_method_11_code 6 = .ok (.getfield 16, 3) := by decide +kernel
theorem d14_9 : decode prog_39_method_11_code 9 = .ok (.iload_n 2, 1) := by decide +kernel
theorem d14_10 : decode prog_39_method_11_code 10 = .ok (.laload, 1) := by decide +kernel
theorem d14_11 : decode prog_39_method_11_code 11 = .ok (.ldc2_w 123, 3) := by decide +kernel
theorem d14_14 : decode prog_39_method_11_code 14 = .ok (.iload_n 1, 1) := by decide +kernel
theorem d14_15 : decode prog_39_method_11_code 15 = .ok (.bipush 64, 2) := by decide +kernel
theorem d14_17 : decode prog_39_method_11_code 17 = .ok (.irem, 1) := by decide +kernel
theorem d14_18 : decode prog_39_method_11_code 18 = .ok (.lshl, 1) := by decide +kernel
theorem d14_19 : decode prog_39_method_11_code 19 = .ok (.land, 1) := by decide +kernel
theorem d14_20 : decode prog_39_method_11_code 20 = .ok (.lstore_n 3, 1) := by decide +kernel
theorem d14_21 : decode prog_39_method_11_code 21 = .ok (.lload_n 3, 1) := by decide +kernel
theorem d14_22 : decode prog_39_method_11_code 22 = .ok (.lconst 0, 1) := by decide +kernel
theorem d14_23 : decode prog_39_method_11_code 23 = .ok (.lcmp, 1) := by decide +kernel
theorem d14_24 : decode prog_39_method_11_code 24 = .ok (.ifCond .eq 13, 3) := by decide +kernel
theorem d14_27 : decode prog_39_method_11_code 27 = .ok (.iload_n 2, 1) := by decide +kernel
theorem d14_28 : decode prog_39_method_11_code 28 = .ok (.bipush 64, 2) := by decide +kernel
theorem d14_30 : decode prog_39_method_11_code 30 = .ok (.imul, 1) := by decide +kernel
theorem d14_31 : decode prog_39_method_11_code 31 = .ok (.lload_n 3, 1) := by decide +kernel
theorem d14_32 : decode prog_39_method_11_code 32 = .ok (.invokestatic 125, 3) := by decide +kernel
theorem d14_35 : decode prog_39_method_11_code 35 = .ok (.iadd, 1) := by decide +kernel
theorem d14_36 : decode prog_39_method_11_code 36 = .ok (.ireturn, 1) := by decide +kernel
theorem d14_37 : decode prog_39_method_11_code 37 = .ok (.aload_n 0, 1) := by decide +kernel
theorem d14_38 : decode prog_39_method_11_code 38 = .ok (.iload_n 2, 1) := by decide +kernel
theorem d14_39 : decode prog_39_method_11_code 39 = .ok (.iconst 1, 1) := by decide +kernel
theorem d14_40 : decode prog_39_method_11_code 40 = .ok (.iadd, 1) := by decide +kernel
theorem d14_41 : decode prog_39_method_11_code 41 = .ok (.invokevirtual 129, 3) := by decide +kernel
theorem d14_44 : decode prog_39_method_11_code 44 = .ok (.istore 5, 2) := by decide +kernel
theorem d14_46 : decode prog_39_method_11_code 46 = .ok (.iload 5, 2) := by decide +kernel
theorem d14_48 : decode prog_39_method_11_code 48 = .ok (.ifCond .ge 7, 3) := by decide +kernel
theorem d14_55 : decode prog_39_method_11_code 55 = .ok (.iload 5, 2) := by decide +kernel
theorem d14_57 : decode prog_39_method_11_code 57 = .ok (.bipush 64, 2) := by decide +kernel
theorem d14_59 : decode prog_39_method_11_code 59 = .ok (.imul, 1) := by decide +kernel
theorem d14_60 : decode prog_39_method_11_code 60 = .ok (.aload_n 0, 1) := by decide +kernel
theorem d14_61 : decode prog_39_method_11_code 61 = .ok (.getfield 16, 3) := by decide +kernel
theorem d14_64 : decode prog_39_method_11_code 64 = .ok (.iload 5, 2) := by decide +kernel
theorem d14_66 : decode prog_39_method_11_code 66 = .ok (.laload, 1) := by decide +kernel
theorem d14_67 : decode prog_39_method_11_code 67 = .ok (.invokestatic 125, 3) := by decide +kernel
theorem d14_70 : decode prog_39_method_11_code 70 = .ok (.iadd, 1) := by decide +kernel
theorem d14_71 : decode prog_39_method_11_code 71 = .ok (.ireturn, 1) := by decide +kernel
theorem ef_rm_knextOccupied (m : MethodId) (x0 : Addr) (x1 : Int32) : entryFrame m #[(.ref x0), (.int x1)] 6 = mkF m 0 #[.val (.ref x0), .val (.int x1), .unset, .unset, .unset, .unset] [] := by first | (simp [entryFrame, mkF, argsToLocals, Value.category]; done) | rfl
def Q_rm_knextOccupied (Z : State) (kq : Addr) (aO aW : Addr) (kO kW : ClassId) (fF : Nat → Int32) (fO fW : Nat → Int64) (h0 : Heap) (n0 : Nat) (v : Option Value) (h : Heap) (L : List Loc) : Prop := ∃ (r_ : Int32), v = some (.int r_) ∧ Fr n0 L ∧ Keep h0 h [] ∧ (NOp fF r_)
set_option maxRecDepth 65536 in
set_option maxHeartbeats 40000000 in
theorem rm_knextOccupied (l : Launch) (Z : State) (a0 : Array Value) (hw : ∀ d ∈ tables_1, d.before a0 Z = true) (ws : List Jvm.Cond) (kq : Addr) (aO aW : Addr) (kO kW : ClassId) (fF : Nat → Int32) (fO fW : Nat → Int64) (h0 : Heap) (n0 : Nat) (O0 : Old Z n0 h0) (E_kq : Exa Z h0 kq cQ) (F_kq_occupied : Fld Z h0 kq cQ "occupied" "[J" (.ref aO)) (F_kq_occupiedWords : Fld Z h0 kq cQ "occupiedWords" "[J" (.ref aW)) (OK0 : OKB fF fO fW) (hex : ∃ b, b < 65536 ∧ ¬ fF b = -1) (V_aO : ArfJ Z h0 aO kO (1024 : Int32) fO) (V_aW : ArfJ Z h0 aW kW (16 : Int32) fW) :
    MetFree l (⟨cQ, "nextOccupied", "(I)I"⟩ : MethodName) (head1 (Jvm.Cond.code (⟨cQ, "nextOccupied", "(I)I"⟩ : MethodName) prog_39_method_11_code 6 (some .int) :: ws) ({ frames := 3, cells := 0, slots := 0, locals := 45 } : Room)) (fun a U => a = #[(.ref kq), (.int (0 : Int32))] ∧ Z.WarmedH U.vm ∧ U.heap = h0) (fun _ _ _ _ _ => True) (fun _ U o U' => ∃ v L, o = .returned v ∧ Q_rm_knextOccupied Z kq aO aW kO kW fF fO fW h0 n0 v U'.heap L ∧ FrameEnd U o U' L ({ frames := 3, cells := 0, slots := 0, locals := 45 } : Room).cells ({ frames := 3, cells := 0, slots := 0, locals := 45 } : Room).slots) := by
  refine MetFree.of_bodySF (plainFor_of_name pn_2) hisR ?_
  intro p e s m args below meth c s₁ Bd hml0 hP hK
  obtain ⟨rfl, hZH, hh⟩ := hP
  have hZ := hZH.wide
  have hx := Bd.exec
  have hby := Bd.bytes
  have D := fun {pc : Nat} {r : Except ClassFile.DecodeError (ClassFile.Instr × Nat)} (q : decode prog_39_method_11_code pc = r) => hb (pc := pc) hby q
  have hml : c.maxLocals = 6 := hml0
  have hown : s.vm.findClass cQ = some m.cls := findClass_of_methodNamed Bd.named
  have hnm := (name_of_methodNamed Bd.named Bd.method).1
  have X0 : Stand p l e ({ frames := 3, cells := 0, slots := 0, locals := 45 } : Room) s m #[(.ref kq), (.int (0 : Int32))] below meth c s₁ [] 0 0 := Stand.of_body Bd
  have e0 : s₁.heap = h0 := by rw [← hh, Bd.state]; rfl
  have N0 := Fr.nil n0
  have pre0 : ∀ t, Steps p.tables e below (s₁.setTop (mkF m 0 #[.val (.ref kq), .val (.int (0 : Int32)), .unset, .unset, .unset, .unset] [])) t → Steps p.tables e below (s₁.setTop (entryFrame m #[(.ref kq), (.int (0 : Int32))] 6)) t := fun t k => castTop (ef_rm_knextOccupied m (kq) ((0 : Int32))) k
  have wd := fun {d : Jvm.Cond} (i : Nat) (h : tables_1[i]? = some d) => hw d (List.mem_of_getElem? h)
  obtain ⟨T1, X1, e1, st1⟩ := getF X0 hx hZ hown (host := "") (Or.inl (wd 14 rfl)) Via.refl e0 F_kq_occupied (g := (mkF m 6 #[.val (.ref kq), .val (.int (0 : Int32)), .val (.int (0 : Int32)), .unset, .unset, .unset] [(.ref kq)])) rfl rfl (D d14_6)
  obtain ⟨cl2, Ar2, q2, S2, Nn2, H2, G2⟩ := id V_aO
  have hin2 : ¬ ((0 : Int32) < 0 ∨ cl2.slots.size ≤ ((0 : Int32)).toNatClampNeg) := inb_of S2 ⟨by decide, by decide⟩
  obtain ⟨y2, hy2⟩ : ∃ y, y = fO ((0 : Int32)).toNatClampNeg := ⟨_, rfl⟩
  have hat2 := ArfJ.get H2 hin2 hy2
  have cs3 : Steps p.tables e below (s₁.setTop (mkF m 0 #[.val (.ref kq), .val (.int (0 : Int32)), .unset, .unset, .unset, .unset] [])) (T1.setTop (mkF m 24 #[.val (.ref kq), .val (.int (0 : Int32)), .val (.int (0 : Int32)), .val (.long (y2 &&& (-1 : Int64))), .second, .unset] [(.int (lcmpW (y2 &&& (-1 : Int64)) (0 : Int64)))])) := (by
    refine s_iloadN X0 hx (D d14_0) rfl ?_
    refine s_bipush X0 hx (64 : Int32) (D d14_1) rfl ?_
    refine s_idiv X0 hx (D d14_3) (by decide) (r := (0 : Int32)) (by decide) ?_
    refine s_istoreN X0 hx (D d14_4) (l' := #[.val (.ref kq), .val (.int (0 : Int32)), .val (.int (0 : Int32)), .unset, .unset, .unset]) rfl ?_
    refine s_aloadN X0 hx (D d14_5) rfl rfl ?_
    refine st1 _ ?_
    refine s_iloadN X1 hx (D d14_9) rfl ?_
    refine X1.laload hx (j := (0 : Int32)) (v := (.long y2)) (by rw [e1]; exact (Ar2).1) (State.isArrayOf_alike hZ.alike (Ar2).2.1) (Ar2).2.2 hin2 hat2 (g := (mkF m 10 #[.val (.ref kq), .val (.int (0 : Int32)), .val (.int (0 : Int32)), .unset, .unset, .unset] [(.int (0 : Int32)), (.ref aO)])) rfl rfl (D d14_10) _ ?_
    refine X1.ldc2Long hx hown (mvT hZ (wd 108 rfl)) (g := (mkF m 11 #[.val (.ref kq), .val (.int (0 : Int32)), .val (.int (0 : Int32)), .unset, .unset, .unset] [(.long y2)])) rfl (D d14_11) _ ?_
    refine s_iloadN X1 hx (D d14_14) rfl ?_
    refine s_bipush X1 hx (64 : Int32) (D d14_15) rfl ?_
    refine s_irem X1 hx (D d14_17) (by decide) (r := (0 : Int32)) (by decide) ?_
    refine s_lshl X1 hx (D d14_18) (r := (-1 : Int64)) (by decide) ?_
    refine s_land X1 hx (D d14_19) rfl ?_
    refine s_lstoreN X1 hx (D d14_20) (l' := #[.val (.ref kq), .val (.int (0 : Int32)), .val (.int (0 : Int32)), .val (.long (y2 &&& (-1 : Int64))), .second, .unset]) rfl ?_
    refine s_lloadN X1 hx (D d14_21) rfl ?_
    refine s_lconst X1 hx (0 : Int64) (D d14_22) rfl ?_
    refine s_lcmp X1 hx (D d14_23) rfl ?_
    exact Steps.refl _)
  by_cases hc4 : (lcmpW (y2 &&& (-1 : Int64)) (0 : Int64)) = (0 : Int32)
  · obtain ⟨cq5, q5, q5'⟩ := E_kq.cell
    obtain ⟨_, _, ⟨T5, L5, k5, n5⟩, -, X5, ⟨Lc5, hQ5, l5, y5, z5⟩, st5⟩ := X1.privateBack hx (y := (⟨cQ, "nextOccupiedWord", "(I)I"⟩ : MethodName)) hown (mvT hZ (wd 157 rfl)) (mvT hZ (wd 158 rfl)) (own_selpriv (y := (⟨cQ, "nextOccupiedWord", "(I)I"⟩ : MethodName)) (mvT hZ (wd 54 rfl)) rfl (Cond.privateMethod_at (mvP hZ (wd 159 rfl) (args := #[]))) (mvT hZ (wd 158 rfl)) (by decide)) (Cond.privateMethod_at (mvP hZ (wd 159 rfl) (args := #[]))) (mvT hZ (wd 160 rfl)) (by decide) (own_backH (W := 0) (rm_knextOccupiedWord l Z a0 hw [] kq aO aW kO kW fF fO fW h0 n0 O0 E_kq F_kq_occupied F_kq_occupiedWords OK0 (own_wx OK0 hy2 ((lw_eq _ _).mp hc4) hex) V_aO V_aW) hZH (wd 160 rfl) (wd 2 rfl) (by decide) (by decide)) (g := (mkF m 41 #[.val (.ref kq), .val (.int (0 : Int32)), .val (.int (0 : Int32)), .val (.long (y2 &&& (-1 : Int64))), .second, .unset] [(.int (1 : Int32)), (.ref kq)])) rfl (by rw [hml]; rfl) (Steps.refl _) (a := kq) (by rw [e1]; exact q5) q5' (argsL := [(.int (1 : Int32))]) (rest := []) (lenOf pd_3 rfl) rfl (by show 2 * 0 + _ ≤ _; exact Nat.le_of_eq rfl) (D d14_41) (fun _ _ => ⟨rfl, e1, (by decide : 0 + 0 ≤ _), (by decide : 0 + 0 ≤ _)⟩)
    dsimp only [Pt.U, Pt.locs, Pt.cells, Pt.slots] at X5 l5 y5 z5 st5 hQ5
    subst l5 y5 z5
    obtain ⟨r__5, rfl, N5q, K5, Q5_0⟩ := hQ5
    have O5 := O0.keep K5 all0
    have KK5 : Keep h0 T5.heap [] := (Keep.refl h0 []).trans K5 all0
    have N5 := Fr.app N0 N5q
    have f6 := (F_kq_occupied.keep K5 nin0)
    obtain ⟨T7, X7, e7, st7⟩ := getF X5 hx hZ hown (host := "") (Or.inl (wd 14 rfl)) Via.refl rfl f6 (g := (mkF m 61 #[.val (.ref kq), .val (.int (0 : Int32)), .val (.int (0 : Int32)), .val (.long (y2 &&& (-1 : Int64))), .second, .val (.int r__5)] [(.ref kq), (.int (r__5 * (64 : Int32)))])) rfl rfl (D d14_61)
    have f9 := (V_aO.keep K5 nin0)
    obtain ⟨cl8, Ar8, q8, S8, Nn8, H8, G8⟩ := id f9
    have hin8 : ¬ (r__5 < 0 ∨ cl8.slots.size ≤ (r__5).toNatClampNeg) := inb_of S8 (own_bkl (own_nwb Q5_0) (by decide))
    obtain ⟨y8, hy8⟩ : ∃ y, y = fO (r__5).toNatClampNeg := ⟨_, rfl⟩
    have hat8 := ArfJ.get H8 hin8 hy8
    obtain ⟨_, _, ⟨T10, L10, k10, n10⟩, -, X10, ⟨Lc10, hQ10, l10, y10, z10⟩, st10⟩ := Jvm.LawKit.callS X7 hx (y := (⟨"java/lang/Long", "numberOfTrailingZeros", "(J)I"⟩ : MethodName)) hown (mvT hZ (wd 109 rfl)) (mvT hZ (wd 110 rfl)) (mvT hZ (wd 111 rfl)) (mvT hZ (wd 112 rfl)) (by decide) (own_nback (W := 1) (n0 := n0) (Z := Z) y8 (own_ntab hw hZ) (by decide) (by decide)) (g := (mkF m 67 #[.val (.ref kq), .val (.int (0 : Int32)), .val (.int (0 : Int32)), .val (.long (y2 &&& (-1 : Int64))), .second, .val (.int r__5)] [(.long y8), (.int (r__5 * (64 : Int32)))])) rfl (by rw [hml]; rfl) (argsL := [(.long y8)]) (rest := [(.int (r__5 * (64 : Int32)))]) (lenOf pd_7 rfl) rfl (by show 2 * 0 + _ ≤ _; exact Nat.le_of_eq rfl) (D d14_67) (fun _ _ => ⟨rfl, e7, (by decide : 0 + 0 ≤ _), (by decide : 0 + 0 ≤ _)⟩)
    dsimp only [Pt.U, Pt.locs, Pt.cells, Pt.slots] at X10 l10 y10 z10 st10 hQ10
    subst l10 y10 z10
    obtain ⟨rfl, N10q, e10⟩ := hQ10
    have N10 := Fr.app N5 N10q
    obtain ⟨fs, hr, hrun, hended, hW, hsame⟩ := X10.leave (v := some (.int ((r__5 * (64 : Int32)) + (Jvm.Free.JP.Long_numberOfTrailingZeros_J.val y8)))) (fun h => by rw [Bd.returns] at h; cases h)
    refine ⟨_, _, pre0 _ ?_, hrun, hended, _, _, rfl, ?_, ⟨_, rfl⟩, hW, hsame.mono (by decide) (by decide)⟩
    · refine cs3.trans ?_
      refine s_ifYes X1 hx 37 (D d14_24) ((if0 _ _).trans (teq hc4).1) (of_decide_eq_true rfl) rfl ?_
      refine s_aloadN X1 hx (D d14_37) rfl rfl ?_
      refine s_iloadN X1 hx (D d14_38) rfl ?_
      refine s_iconst X1 hx (1 : Int32) (D d14_39) rfl ?_
      refine s_iadd X1 hx (D d14_40) (r := (1 : Int32)) (by decide) ?_
      refine st5.trans ?_
      refine s_istore X5 hx (D d14_44) (l' := #[.val (.ref kq), .val (.int (0 : Int32)), .val (.int (0 : Int32)), .val (.long (y2 &&& (-1 : Int64))), .second, .val (.int r__5)]) rfl ?_
      refine s_iload X5 hx (D d14_46) rfl ?_
      refine s_ifYes X5 hx 55 (D d14_48) ((if0 _ _).trans (flt (own_nn0 (own_nwb Q5_0) : ¬ (r__5 < (0 : Int32)))).2.1) (of_decide_eq_true rfl) rfl ?_
      refine s_iload X5 hx (D d14_55) rfl ?_
      refine s_bipush X5 hx (64 : Int32) (D d14_57) rfl ?_
      refine s_imul X5 hx (D d14_59) rfl ?_
      refine s_aloadN X5 hx (D d14_60) rfl rfl ?_
      refine st7 _ ?_
      refine s_iload X7 hx (D d14_64) rfl ?_
      refine X7.laload hx (j := r__5) (v := (.long y8)) (by rw [e7]; exact (Ar8).1) (State.isArrayOf_alike hZ.alike (Ar8).2.1) (Ar8).2.2 hin8 hat8 (g := (mkF m 66 #[.val (.ref kq), .val (.int (0 : Int32)), .val (.int (0 : Int32)), .val (.long (y2 &&& (-1 : Int64))), .second, .val (.int r__5)] [(.int r__5), (.ref aO), (.int (r__5 * (64 : Int32)))])) rfl rfl (D d14_66) _ ?_
      refine st10 _ ?_
      refine s_iadd X10 hx (D d14_70) rfl ?_
      exact retI X10 hx Bd.returns (D d14_71) hr
    · show Q_rm_knextOccupied Z kq aO aW kO kW fF fO fW h0 n0 _ T10.heap _
      rw [e10]
      exact ⟨((r__5 * (64 : Int32)) + (Jvm.Free.JP.Long_numberOfTrailingZeros_J.val y8)), rfl, N10, KK5, (own_no2 OK0 Q5_0 hy8)⟩
  · obtain ⟨_, _, ⟨T11, L11, k11, n11⟩, -, X11, ⟨Lc11, hQ11, l11, y11, z11⟩, st11⟩ := Jvm.LawKit.callS X1 hx (y := (⟨"java/lang/Long", "numberOfTrailingZeros", "(J)I"⟩ : MethodName)) hown (mvT hZ (wd 109 rfl)) (mvT hZ (wd 110 rfl)) (mvT hZ (wd 111 rfl)) (mvT hZ (wd 112 rfl)) (by decide) (own_nback (W := 1) (n0 := n0) (Z := Z) (y2 &&& (-1 : Int64)) (own_ntab hw hZ) (by decide) (by decide)) (g := (mkF m 32 #[.val (.ref kq), .val (.int (0 : Int32)), .val (.int (0 : Int32)), .val (.long (y2 &&& (-1 : Int64))), .second, .unset] [(.long (y2 &&& (-1 : Int64))), (.int (0 : Int32))])) rfl (by rw [hml]; rfl) (argsL := [(.long (y2 &&& (-1 : Int64)))]) (rest := [(.int (0 : Int32))]) (lenOf pd_7 rfl) rfl (by show 2 * 0 + _ ≤ _; exact Nat.le_of_eq rfl) (D d14_32) (fun _ _ => ⟨rfl, e1, (by decide : 0 + 0 ≤ _), (by decide : 0 + 0 ≤ _)⟩)
    dsimp only [Pt.U, Pt.locs, Pt.cells, Pt.slots] at X11 l11 y11 z11 st11 hQ11
    subst l11 y11 z11
    obtain ⟨rfl, N11q, e11⟩ := hQ11
    have N11 := Fr.app N0 N11q
    obtain ⟨fs, hr, hrun, hended, hW, hsame⟩ := X11.leave (v := some (.int ((0 : Int32) + (Jvm.Free.JP.Long_numberOfTrailingZeros_J.val (y2 &&& (-1 : Int64)))))) (fun h => by rw [Bd.returns] at h; cases h)
    refine ⟨_, _, pre0 _ ?_, hrun, hended, _, _, rfl, ?_, ⟨_, rfl⟩, hW, hsame.mono (by decide) (by decide)⟩
    · refine cs3.trans ?_
      refine s_ifNo X1 hx (D d14_24) ((if0 _ _).trans (feq hc4).1) ?_
      refine s_iloadN X1 hx (D d14_27) rfl ?_
      refine s_bipush X1 hx (64 : Int32) (D d14_28) rfl ?_
      refine s_imul X1 hx (D d14_30) (r := (0 : Int32)) (by decide) ?_
      refine s_lloadN X1 hx (D d14_31) rfl ?_
      refine st11 _ ?_
      refine s_iadd X11 hx (D d14_35) rfl ?_
      exact retI X11 hx Bd.returns (D d14_36) hr
    · show Q_rm_knextOccupied Z kq aO aW kO kW fF fO fW h0 n0 _ T11.heap _
      rw [e11]
      exact ⟨((0 : Int32) + (Jvm.Free.JP.Long_numberOfTrailingZeros_J.val (y2 &&& (-1 : Int64)))), rfl, N11, (Keep.refl h0 []), (own_no1 OK0 hy2 (fun q => hc4 ((lw_eq _ _).mpr q)))⟩
theorem d13_0 : decode prog_39_method_10_code 0 = .ok (.aload_n 0, 1) := by decide +kernel
theorem d13_1 : decode prog_39_method_10_code 1 = .ok (.getfield 66, 3) := by decide +kernel
theorem d13_4 : decode prog_39_method_10_code 4 = .ok (.ldc2_w 117, 3) := by decide +kernel
theorem d13_7 : decode prog_39_method_10_code 7 = .ok (.land, 1) := by decide +kernel
theorem d13_8 : decode prog_39_method_10_code 8 = .ok (.l2i, 1) := by decide +kernel
theorem d13_9 : decode prog_39_method_10_code 9 = .ok (.istore_n 1, 1) := by decide +kernel
theorem d13_10 : decode prog_39_method_10_code 10 = .ok (.aload_n 0, 1) := by decide +kernel
theorem d13_11 : decode prog_39_method_10_code 11 = .ok (.iload_n 1, 1) := by decide +kernel
theorem d13_12 : decode prog_39_method_10_code 12 = .ok (.invokevirtual 119, 3) := by decide +kernel
theorem d13_15 : decode prog_39_method_10_code 15 = .ok (.istore_n 2, 1) := by decide +kernel
theorem d13_16 : decode prog_39_method_10_code 16 = .ok (.iload_n 2, 1) := by decide +kernel
theorem d13_17 : decode prog_39_method_10_code 17 = .ok (.ifCond .lt 7, 3) := by decide +kernel
theorem d13_20 : decode prog_39_method_10_code 20 = .ok (.iload_n 2, 1) := by decide +kernel
theorem d13_21 : decode prog_39_method_10_code 21 = .ok (.goto 8, 3) := by decide +kernel
theorem d13_29 : decode prog_39_method_10_code 29 = .ok (.ireturn, 1) := by decide +kernel
theorem ef_rm_kfirstBucket (m : MethodId) (x0 : Addr) : entryFrame m #[(.ref x0)] 3 = mkF m 0 #[.val (.ref x0), .unset, .unset] [] := by first | (simp [entryFrame, mkF, argsToLocals, Value.category]; done) | rfl
def Q_rm_kfirstBucket (Z : State) (kq : Addr) (aO aW : Addr) (kO kW : ClassId) (fF : Nat → Int32) (fO fW : Nat → Int64) (h0 : Heap) (n0 : Nat) (v : Option Value) (h : Heap) (L : List Loc) : Prop := ∃ (r_ : Int32), v = some (.int r_) ∧ Fr n0 L ∧ Keep h0 h [] ∧ (NOp fF r_)
set_option maxRecDepth 65536 in
set_option maxHeartbeats 40000000 in
theorem rm_kfirstBucket (l : Launch) (Z : State) (a0 : Array Value) (hw : ∀ d ∈ tables_1, d.before a0 Z = true) (ws : List Jvm.Cond) (kq : Addr) (aO aW : Addr) (kO kW : ClassId) (fF : Nat → Int32) (fO fW : Nat → Int64) (h0 : Heap) (n0 : Nat) (O0 : Old Z n0 h0) (E_kq : Exa Z h0 kq cQ) (F_kq_occupied : Fld Z h0 kq cQ "occupied" "[J" (.ref aO)) (F_kq_occupiedWords : Fld Z h0 kq cQ "occupiedWords" "[J" (.ref aW)) (F_kq_floor : Fld Z h0 kq cQ "floor" "J" (.long (0 : Int64))) (OK0 : OKB fF fO fW) (hex : ∃ b, b < 65536 ∧ ¬ fF b = -1) (V_aO : ArfJ Z h0 aO kO (1024 : Int32) fO) (V_aW : ArfJ Z h0 aW kW (16 : Int32) fW) :
    MetFree l (⟨cQ, "firstBucket", "()I"⟩ : MethodName) (head1 (Jvm.Cond.code (⟨cQ, "firstBucket", "()I"⟩ : MethodName) prog_39_method_10_code 3 (some .int) :: ws) ({ frames := 4, cells := 0, slots := 0, locals := 62 } : Room)) (fun a U => a = #[(.ref kq)] ∧ Z.WarmedH U.vm ∧ U.heap = h0) (fun _ _ _ _ _ => True) (fun _ U o U' => ∃ v L, o = .returned v ∧ Q_rm_kfirstBucket Z kq aO aW kO kW fF fO fW h0 n0 v U'.heap L ∧ FrameEnd U o U' L ({ frames := 4, cells := 0, slots := 0, locals := 62 } : Room).cells ({ frames := 4, cells := 0, slots := 0, locals := 62 } : Room).slots) := by
  refine MetFree.of_bodySF (plainFor_of_name pn_2) hisR ?_
  intro p e s m args below meth c s₁ Bd hml0 hP hK
  obtain ⟨rfl, hZH, hh⟩ := hP
  have hZ := hZH.wide
  have hx := Bd.exec
  have hby := Bd.bytes
  have D := fun {pc : Nat} {r : Except ClassFile.DecodeError (ClassFile.Instr × Nat)} (q : decode prog_39_method_10_code pc = r) => hb (pc := pc) hby q
  have hml : c.maxLocals = 3 := hml0
  have hown : s.vm.findClass cQ = some m.cls := findClass_of_methodNamed Bd.named
  have hnm := (name_of_methodNamed Bd.named Bd.method).1
  have X0 : Stand p l e ({ frames := 4, cells := 0, slots := 0, locals := 62 } : Room) s m #[(.ref kq)] below meth c s₁ [] 0 0 := Stand.of_body Bd
  have e0 : s₁.heap = h0 := by rw [← hh, Bd.state]; rfl
  have N0 := Fr.nil n0
  have pre0 : ∀ t, Steps p.tables e below (s₁.setTop (mkF m 0 #[.val (.ref kq), .unset, .unset] [])) t → Steps p.tables e below (s₁.setTop (entryFrame m #[(.ref kq)] 3)) t := fun t k => castTop (ef_rm_kfirstBucket m (kq)) k
  have wd := fun {d : Jvm.Cond} (i : Nat) (h : tables_1[i]? = some d) => hw d (List.mem_of_getElem? h)
  obtain ⟨T1, X1, e1, st1⟩ := getF X0 hx hZ hown (host := "") (Or.inl (wd 71 rfl)) Via.refl e0 F_kq_floor (g := (mkF m 1 #[.val (.ref kq), .unset, .unset] [(.ref kq)])) rfl rfl (D d13_1)
  obtain ⟨cq2, q2, q2'⟩ := E_kq.cell
  obtain ⟨_, _, ⟨T2, L2, k2, n2⟩, -, X2, ⟨Lc2, hQ2, l2, y2, z2⟩, st2⟩ := X1.privateBack hx (y := (⟨cQ, "nextOccupied", "(I)I"⟩ : MethodName)) hown (mvT hZ (wd 104 rfl)) (mvT hZ (wd 105 rfl)) (own_selpriv (y := (⟨cQ, "nextOccupied", "(I)I"⟩ : MethodName)) (mvT hZ (wd 54 rfl)) rfl (Cond.privateMethod_at (mvP hZ (wd 106 rfl) (args := #[]))) (mvT hZ (wd 105 rfl)) (by decide)) (Cond.privateMethod_at (mvP hZ (wd 106 rfl) (args := #[]))) (mvT hZ (wd 107 rfl)) (by decide) (own_backH (W := 0) (rm_knextOccupied l Z a0 hw [] kq aO aW kO kW fF fO fW h0 n0 O0 E_kq F_kq_occupied F_kq_occupiedWords OK0 hex V_aO V_aW) hZH (wd 107 rfl) (wd 2 rfl) (by decide) (by decide)) (g := (mkF m 12 #[.val (.ref kq), .val (.int (0 : Int32)), .unset] [(.int (0 : Int32)), (.ref kq)])) rfl (by rw [hml]; rfl) (Steps.refl _) (a := kq) (by rw [e1]; exact q2) q2' (argsL := [(.int (0 : Int32))]) (rest := []) (lenOf pd_3 rfl) rfl (by show 2 * 0 + _ ≤ _; exact Nat.le_of_eq rfl) (D d13_12) (fun _ _ => ⟨rfl, e1, (by decide : 0 + 0 ≤ _), (by decide : 0 + 0 ≤ _)⟩)
  dsimp only [Pt.U, Pt.locs, Pt.cells, Pt.slots] at X2 l2 y2 z2 st2 hQ2
  subst l2 y2 z2
  obtain ⟨r__2, rfl, N2q, K2, Q2_0⟩ := hQ2
  have O2 := O0.keep K2 all0
  have KK2 : Keep h0 T2.heap [] := (Keep.refl h0 []).trans K2 all0
  have N2 := Fr.app N0 N2q
  obtain ⟨fs, hr, hrun, hended, hW, hsame⟩ := X2.leave (v := some (.int r__2)) (fun h => by rw [Bd.returns] at h; cases h)
  refine ⟨_, _, pre0 _ ?_, hrun, hended, _, _, rfl, ?_, ⟨_, rfl⟩, hW, hsame.mono (by decide) (by decide)⟩
  · refine s_aloadN X0 hx (D d13_0) rfl rfl ?_
    refine st1 _ ?_
    refine X1.ldc2Long hx hown (mvT hZ (wd 88 rfl)) (g := (mkF m 4 #[.val (.ref kq), .unset, .unset] [(.long (0 : Int64))])) rfl (D d13_4) _ ?_
    refine s_land X1 hx (D d13_7) (r := (0 : Int64)) (by decide) ?_
    refine s_l2i X1 hx (D d13_8) (r := (0 : Int32)) (by decide) ?_
    refine s_istoreN X1 hx (D d13_9) (l' := #[.val (.ref kq), .val (.int (0 : Int32)), .unset]) rfl ?_
    refine s_aloadN X1 hx (D d13_10) rfl rfl ?_
    refine s_iloadN X1 hx (D d13_11) rfl ?_
    refine st2.trans ?_
    refine s_istoreN X2 hx (D d13_15) (l' := #[.val (.ref kq), .val (.int (0 : Int32)), .val (.int r__2)]) rfl ?_
    refine s_iloadN X2 hx (D d13_16) rfl ?_
    refine s_ifNo X2 hx (D d13_17) ((if0 _ _).trans (flt (own_non Q2_0 : ¬ (r__2 < (0 : Int32)))).1) ?_
    refine s_iloadN X2 hx (D d13_20) rfl ?_
    refine s_goto X2 hx 29 (D d13_21) (of_decide_eq_true rfl) rfl ?_
    exact retI X2 hx Bd.returns (D d13_29) hr
  · show Q_rm_kfirstBucket Z kq aO aW kO kW fF fO fW h0 n0 _ T2.heap _
    exact ⟨r__2, rfl, N2, KK2, Q2_0⟩
theorem d12_0 : decode prog_39_method_7_code 0 = .ok (.aload_n 0, 1) := by decide +kernel
theorem d12_1 : decode prog_39_method_7_code 1 = .ok (.getfield 54, 3) := by decide +kernel
theorem d12_4 : decode prog_39_method_7_code 4 = .ok (.ifCond .le 18, 3) := by decide +kernel
theorem d12_7 : decode prog_39_method_7_code 7 = .ok (.aload_n 0, 1) := by decide +kernel
theorem d12_8 : decode prog_39_method_7_code 8 = .ok (.getfield 23, 3) := by decide +kernel
theorem d12_11 : decode prog_39_method_7_code 11 = .ok (.aload_n 0, 1) := by decide +kernel
theorem d12_12 : decode prog_39_method_7_code 12 = .ok (.getfield 10, 3) := by decide +kernel
theorem d12_15 : decode prog_39_method_7_code 15 = .ok (.aload_n 0, 1) := by decide +kernel
theorem d12_16 : decode prog_39_method_7_code 16 = .ok (.invokevirtual 95, 3) := by decide +kernel
theorem d12_19 : decode prog_39_method_7_code 19 = .ok (.iaload, 1) := by decide +kernel
theorem d12_20 : decode prog_39_method_7_code 20 = .ok (.laload, 1) := by decide +kernel
theorem d12_21 : decode prog_39_method_7_code 21 = .ok (.lreturn, 1) := by decide +kernel
theorem d12_22 : decode prog_39_method_7_code 22 = .ok (.aload_n 0, 1) := by decide +kernel
theorem d12_23 : decode prog_39_method_7_code 23 = .ok (.getfield 23, 3) := by decide +kernel
theorem d12_26 : decode prog_39_method_7_code 26 = .ok (.aload_n 0, 1) := by decide +kernel
theorem d12_27 : decode prog_39_method_7_code 27 = .ok (.getfield 50, 3) := by decide +kernel
theorem d12_30 : decode prog_39_method_7_code 30 = .ok (.invokevirtual 99, 3) := by decide +kernel
theorem d12_33 : decode prog_39_method_7_code 33 = .ok (.laload, 1) := by decide +kernel
theorem d12_34 : decode prog_39_method_7_code 34 = .ok (.lreturn, 1) := by decide +kernel
theorem ef_rm_kfirstKey (m : MethodId) (x0 : Addr) : entryFrame m #[(.ref x0)] 1 = mkF m 0 #[.val (.ref x0)] [] := by first | (simp [entryFrame, mkF, argsToLocals, Value.category]; done) | rfl
def Q_rm_kfirstKey (Z : State) (kq : Addr) (aF aO aW aK aB aA aI hp lo aE aP : Addr) (cK kK kB kA kI kF kO kW kE kP : ClassId) (bk ib0 ib1 bf0 bf1 af0 af1 sz en0 en1 po0 po1 mm0 mm1 : Int32) (kk0 kk1 : Int64) (fF : Nat → Int32) (fO fW : Nat → Int64) (h0 : Heap) (n0 : Nat) (v : Option Value) (h : Heap) (L : List Loc) : Prop := ∃ (r_ : Int64), v = some (.long r_) ∧ Fr n0 L ∧ Keep h0 h [] ∧ (FKp r_ kk0 kk1 mm0 mm1)
set_option maxRecDepth 65536 in
set_option maxHeartbeats 40000000 in
theorem rm_kfirstKey (l : Launch) (Z : State) (a0 : Array Value) (hw : ∀ d ∈ tables_1, d.before a0 Z = true) (ws : List Jvm.Cond) (kq : Addr) (aF aO aW aK aB aA aI hp lo aE aP : Addr) (cK kK kB kA kI kF kO kW kE kP : ClassId) (bk ib0 ib1 bf0 bf1 af0 af1 sz en0 en1 po0 po1 mm0 mm1 : Int32) (kk0 kk1 : Int64) (fF : Nat → Int32) (fO fW : Nat → Int64) (h0 : Heap) (n0 : Nat) (O0 : Old Z n0 h0) (E_kq : Exa Z h0 kq cQ) (F_kq_keys : Fld Z h0 kq cQ "keys" "[J" (.ref aK)) (F_kq_before : Fld Z h0 kq cQ "before" "[I" (.ref aB)) (F_kq_after : Fld Z h0 kq cQ "after" "[I" (.ref aA)) (F_kq_inBucket : Fld Z h0 kq cQ "inBucket" "[Z" (.ref aI)) (F_kq_firsts : Fld Z h0 kq cQ "firsts" "[I" (.ref aF)) (F_kq_occupied : Fld Z h0 kq cQ "occupied" "[J" (.ref aO)) (F_kq_occupiedWords : Fld Z h0 kq cQ "occupiedWords" "[J" (.ref aW)) (F_kq_further : Fld Z h0 kq cQ "further" "Lcom/example/leasewise/leasewise/IndexedHeap;" (.ref hp)) (F_kq_bucketed : Fld Z h0 kq cQ "bucketed" "I" (.int bk)) (F_kq_floor : Fld Z h0 kq cQ "floor" "J" (.long (0 : Int64))) (V_aK : Arv Z h0 aK kK .long (2 : Int32) [(.long kk0), (.long kk1)] (.long (0 : Int64))) (V_aB : Arv Z h0 aB kB .int (2 : Int32) [(.int bf0), (.int bf1)] (.int (0 : Int32))) (V_aA : Arv Z h0 aA kA .int (2 : Int32) [(.int af0), (.int af1)] (.int (0 : Int32))) (V_aI : Arv Z h0 aI kI .boolean (2 : Int32) [(.int ib0), (.int ib1)] (.int (0 : Int32))) (E_hp : Exa Z h0 hp cH) (F_hp_order : Fld Z h0 hp cH "order" "Lcom/example/leasewise/leasewise/IndexedHeap$Order;" (.ref lo)) (F_hp_entries : Fld Z h0 hp cH "entries" "[I" (.ref aE)) (F_hp_positions : Fld Z h0 hp cH "positions" "[I" (.ref aP)) (F_hp_size : Fld Z h0 hp cH "size" "I" (.int sz)) (V_aE : Arv Z h0 aE kE .int (2 : Int32) [(.int en0), (.int en1)] (.int (0 : Int32))) (V_aP : Arv Z h0 aP kP .int (2 : Int32) [(.int po0), (.int po1)] (.int (-1 : Int32))) (MDc : Jvm.LamKit.Made Z cQ sgm cK) (NDp : List.Nodup [kq, aF, aO, aW, aK, aB, aA, aI, hp, lo, aE, aP]) (KI0 : KI bk sz en0 en1 po0 po1 ib0 ib1 mm0 mm1) (LI0 : LI fF ib0 ib1 kk0 kk1 bf0 bf1 af0 af1) (OK0 : OKB fF fO fW) (hem : EM mm0 mm1 = 0) (Y_lo : LamO h0 lo cK kq) (V_aF : ArfI Z h0 aF kF (65536 : Int32) fF) (V_aO : ArfJ Z h0 aO kO (1024 : Int32) fO) (V_aW : ArfJ Z h0 aW kW (16 : Int32) fW) :
    MetFree l (⟨cQ, "firstKey", "()J"⟩ : MethodName) (head1 (Jvm.Cond.code (⟨cQ, "firstKey", "()J"⟩ : MethodName) prog_39_method_7_code 1 (some .long) :: ws) ({ frames := 5, cells := 0, slots := 0, locals := 78 } : Room)) (fun a U => a = #[(.ref kq)] ∧ Z.WarmedH U.vm ∧ U.heap = h0) (fun _ _ _ _ _ => True) (fun _ U o U' => ∃ v L, o = .returned v ∧ Q_rm_kfirstKey Z kq aF aO aW aK aB aA aI hp lo aE aP cK kK kB kA kI kF kO kW kE kP bk ib0 ib1 bf0 bf1 af0 af1 sz en0 en1 po0 po1 mm0 mm1 kk0 kk1 fF fO fW h0 n0 v U'.heap L ∧ FrameEnd U o U' L ({ frames := 5, cells := 0, slots := 0, locals := 78 } : Room).cells ({ frames := 5, cells := 0, slots := 0, locals := 78 } : Room).slots) := by
  refine MetFree.of_bodySF (plainFor_of_name pn_2) hisR ?_
  intro p e s m args below meth c s₁ Bd hml0 hP hK
  obtain ⟨rfl, hZH, hh⟩ := hP
  have hZ := hZH.wide
  have hx := Bd.exec
  have hby := Bd.bytes
  have D := fun {pc : Nat} {r : Except ClassFile.DecodeError (ClassFile.Instr × Nat)} (q : decode prog_39_method_7_code pc = r) => hb (pc := pc) hby q
  have hml : c.maxLocals = 1 := hml0
  have hown : s.vm.findClass cQ = some m.cls := findClass_of_methodNamed Bd.named
  have hnm := (name_of_methodNamed Bd.named Bd.method).1
  have X0 : Stand p l e ({ frames := 5, cells := 0, slots := 0, locals := 78 } : Room) s m #[(.ref kq)] below meth c s₁ [] 0 0 := Stand.of_body Bd
  have e0 : s₁.heap = h0 := by rw [← hh, Bd.state]; rfl
  have N0 := Fr.nil n0
  have pre0 : ∀ t, Steps p.tables e below (s₁.setTop (mkF m 0 #[.val (.ref kq)] [])) t → Steps p.tables e below (s₁.setTop (entryFrame m #[(.ref kq)] 1)) t := fun t k => castTop (ef_rm_kfirstKey m (kq)) k
  have wd := fun {d : Jvm.Cond} (i : Nat) (h : tables_1[i]? = some d) => hw d (List.mem_of_getElem? h)
  obtain ⟨T1, X1, e1, st1⟩ := getF X0 hx hZ hown (host := "") (Or.inl (wd 56 rfl)) Via.refl e0 F_kq_bucketed (g := (mkF m 1 #[.val (.ref kq)] [(.ref kq)])) rfl rfl (D d12_1)
  have cs2 : Steps p.tables e below (s₁.setTop (mkF m 0 #[.val (.ref kq)] [])) (T1.setTop (mkF m 4 #[.val (.ref kq)] [(.int bk)])) := (by
    refine s_aloadN X0 hx (D d12_0) rfl rfl ?_
    refine st1 _ ?_
    exact Steps.refl _)
  by_cases hc3 : (0 : Int32) < bk
  · obtain ⟨T4, X4, e4, st4⟩ := getF X1 hx hZ hown (host := "") (Or.inl (wd 18 rfl)) Via.refl e1 F_kq_keys (g := (mkF m 8 #[.val (.ref kq)] [(.ref kq)])) rfl rfl (D d12_8)
    obtain ⟨T5, X5, e5, st5⟩ := getF X4 hx hZ hown (host := "") (Or.inl (wd 11 rfl)) Via.refl e4 F_kq_firsts (g := (mkF m 12 #[.val (.ref kq)] [(.ref kq), (.ref aK)])) rfl rfl (D d12_12)
    obtain ⟨cq6, q6, q6'⟩ := E_kq.cell
    obtain ⟨_, _, ⟨T6, L6, k6, n6⟩, -, X6, ⟨Lc6, hQ6, l6, y6, z6⟩, st6⟩ := X5.privateBack hx (y := (⟨cQ, "firstBucket", "()I"⟩ : MethodName)) hown (mvT hZ (wd 100 rfl)) (mvT hZ (wd 101 rfl)) (own_selpriv (y := (⟨cQ, "firstBucket", "()I"⟩ : MethodName)) (mvT hZ (wd 54 rfl)) rfl (Cond.privateMethod_at (mvP hZ (wd 102 rfl) (args := #[]))) (mvT hZ (wd 101 rfl)) (by decide)) (Cond.privateMethod_at (mvP hZ (wd 102 rfl) (args := #[]))) (mvT hZ (wd 103 rfl)) (by decide) (own_backH (W := 2) (rm_kfirstBucket l Z a0 hw [] kq aO aW kO kW fF fO fW h0 n0 O0 E_kq F_kq_occupied F_kq_occupiedWords F_kq_floor OK0 (own_hex KI0 LI0 hc3) V_aO V_aW) hZH (wd 103 rfl) (wd 2 rfl) (by decide) (by decide)) (g := (mkF m 16 #[.val (.ref kq)] [(.ref kq), (.ref aF), (.ref aK)])) rfl (by rw [hml]; rfl) (Steps.refl _) (a := kq) (by rw [e5]; exact q6) q6' (argsL := []) (rest := [(.ref aF), (.ref aK)]) (lenOf pd_5 rfl) rfl (by show 2 * 0 + _ ≤ _; exact Nat.le_of_eq rfl) (D d12_16) (fun _ _ => ⟨rfl, e5, (by decide : 0 + 0 ≤ _), (by decide : 0 + 0 ≤ _)⟩)
    dsimp only [Pt.U, Pt.locs, Pt.cells, Pt.slots] at X6 l6 y6 z6 st6 hQ6
    subst l6 y6 z6
    obtain ⟨r__6, rfl, N6q, K6, Q6_0⟩ := hQ6
    have O6 := O0.keep K6 all0
    have KK6 : Keep h0 T6.heap [] := (Keep.refl h0 []).trans K6 all0
    have N6 := Fr.app N0 N6q
    have f8 := (V_aF.keep K6 nin0)
    obtain ⟨cl7, Ar7, q7, S7, Nn7, H7, G7⟩ := id f8
    have hin7 : ¬ (r__6 < 0 ∨ cl7.slots.size ≤ (r__6).toNatClampNeg) := inb_of S7 (own_bkl (own_nob Q6_0) (by decide))
    obtain ⟨y7, hy7⟩ : ∃ y, y = fF (r__6).toNatClampNeg := ⟨_, rfl⟩
    have hat7 := ArfI.get H7 hin7 hy7
    have f10 := (V_aK.keep K6 nin0)
    obtain ⟨cl9, Ar9, q9, S9, Nn9, H9, G9⟩ := id f10
    have hin9 : ¬ (y7 < 0 ∨ cl9.slots.size ≤ (y7).toNatClampNeg) := inb_of S9 (own_in2 (own_fki LI0 Q6_0 hy7).1)
    obtain ⟨y9, hy9⟩ : ∃ y, y = g2 y7 kk0 kk1 := ⟨_, rfl⟩
    have hat9 := own_get2J H9 hin9 (own_fki LI0 Q6_0 hy7).1 hy9
    obtain ⟨fs, hr, hrun, hended, hW, hsame⟩ := X6.leave (v := some (.long y9)) (fun h => by rw [Bd.returns] at h; cases h)
    refine ⟨_, _, pre0 _ ?_, hrun, hended, _, _, rfl, ?_, ⟨_, rfl⟩, hW, hsame.mono (by decide) (by decide)⟩
    · refine cs2.trans ?_
      refine s_ifNo X1 hx (D d12_4) ((if0 _ _).trans (tlt hc3).2.2.2) ?_
      refine s_aloadN X1 hx (D d12_7) rfl rfl ?_
      refine st4 _ ?_
      refine s_aloadN X4 hx (D d12_11) rfl rfl ?_
      refine st5 _ ?_
      refine s_aloadN X5 hx (D d12_15) rfl rfl ?_
      refine st6.trans ?_
      refine X6.iaload hx (j := r__6) (v := (.int y7)) (by exact (Ar7).1) (State.isArrayOf_alike hZ.alike (Ar7).2.1) (Ar7).2.2 hin7 hat7 (g := (mkF m 19 #[.val (.ref kq)] [(.int r__6), (.ref aF), (.ref aK)])) rfl rfl (D d12_19) _ ?_
      refine X6.laload hx (j := y7) (v := (.long y9)) (by exact (Ar9).1) (State.isArrayOf_alike hZ.alike (Ar9).2.1) (Ar9).2.2 hin9 hat9 (g := (mkF m 20 #[.val (.ref kq)] [(.int y7), (.ref aK)])) rfl rfl (D d12_20) _ ?_
      jvm_step X6.here [X6.here.top, hx, (D d12_21), X6.method', Bd.returns, narrow]
      first | (intro acts; rw [hr _ acts rfl rfl rfl]) | rw [hr _ _ rfl rfl rfl]
      exact Steps.refl _
    · show Q_rm_kfirstKey Z kq aF aO aW aK aB aA aI hp lo aE aP cK kK kB kA kI kF kO kW kE kP bk ib0 ib1 bf0 bf1 af0 af1 sz en0 en1 po0 po1 mm0 mm1 kk0 kk1 fF fO fW h0 n0 _ T6.heap _
      exact ⟨y9, rfl, N6, KK6, (own_fk1 KI0 LI0 Q6_0 hy7 hy9)⟩
  · obtain ⟨T11, X11, e11, st11⟩ := getF X1 hx hZ hown (host := "") (Or.inl (wd 18 rfl)) Via.refl e1 F_kq_keys (g := (mkF m 23 #[.val (.ref kq)] [(.ref kq)])) rfl rfl (D d12_23)
    obtain ⟨T12, X12, e12, st12⟩ := getF X11 hx hZ hown (host := "") (Or.inl (wd 49 rfl)) Via.refl e11 F_kq_further (g := (mkF m 27 #[.val (.ref kq)] [(.ref kq), (.ref aK)])) rfl rfl (D d12_27)
    obtain ⟨cq13, kq13, q13a, q13b, q13c⟩ := isOf hZ e12 E_hp
    obtain ⟨_, _, ⟨T13, L13, k13, n13⟩, -, X13, ⟨Lc13, hQ13, l13, y13, z13⟩, st13⟩ := X12.virtualBack hx (y := (⟨cH, "first", "()I"⟩ : MethodName)) (z := (⟨cH, "first", "()I"⟩ : MethodName)) hown (mvT hZ (wd 145 rfl)) (mvT hZ (wd 146 rfl)) (notFace_of_selects (args := #[]) (mvT hZ (wd 148 rfl))) (mvT hZ (wd 148 rfl)) (mvT hZ (wd 147 rfl)) (by decide) (own_backH (W := 1) (rm_hfirst l Z a0 hw [] hp aE kE sz en0 en1 h0 n0 O0 E_hp F_hp_entries F_hp_size V_aE (own_fk0 KI0 hem hc3)) hZH (wd 149 rfl) (wd 33 rfl) (by decide) (by decide)) q13a q13c (g := (mkF m 30 #[.val (.ref kq)] [(.ref hp), (.ref aK)])) rfl (by rw [hml]; rfl) (Steps.refl _) (argsL := []) (rest := [(.ref aK)]) (lenOf pd_5 rfl) rfl (by show 2 * 0 + _ ≤ _; exact Nat.le_of_eq rfl) (D d12_30) (fun _ _ => ⟨rfl, e12, (by decide : 0 + 0 ≤ _), (by decide : 0 + 0 ≤ _)⟩)
    dsimp only [Pt.U, Pt.locs, Pt.cells, Pt.slots] at X13 l13 y13 z13 st13 hQ13
    subst l13 y13 z13
    obtain ⟨rfl, N13q, e13⟩ := hQ13
    have N13 := Fr.app N0 N13q
    obtain ⟨cl14, Ar14, q14, S14, Nn14, H14, G14⟩ := id V_aK
    have hin14 : ¬ (en0 < 0 ∨ cl14.slots.size ≤ (en0).toNatClampNeg) := inb_of S14 (own_in2 (own_first KI0.1 (own_fk0 KI0 hem hc3)).1)
    obtain ⟨y14, hy14⟩ : ∃ y, y = g2 en0 kk0 kk1 := ⟨_, rfl⟩
    have hat14 := own_get2J H14 hin14 (own_first KI0.1 (own_fk0 KI0 hem hc3)).1 hy14
    obtain ⟨fs, hr, hrun, hended, hW, hsame⟩ := X13.leave (v := some (.long y14)) (fun h => by rw [Bd.returns] at h; cases h)
    refine ⟨_, _, pre0 _ ?_, hrun, hended, _, _, rfl, ?_, ⟨_, rfl⟩, hW, hsame.mono (by decide) (by decide)⟩
    · refine cs2.trans ?_
      refine s_ifYes X1 hx 22 (D d12_4) ((if0 _ _).trans (flt hc3).2.2.2) (of_decide_eq_true rfl) rfl ?_
      refine s_aloadN X1 hx (D d12_22) rfl rfl ?_
      refine st11 _ ?_
      refine s_aloadN X11 hx (D d12_26) rfl rfl ?_
      refine st12 _ ?_
      refine st13.trans ?_
      refine X13.laload hx (j := en0) (v := (.long y14)) (by rw [e13]; exact (Ar14).1) (State.isArrayOf_alike hZ.alike (Ar14).2.1) (Ar14).2.2 hin14 hat14 (g := (mkF m 33 #[.val (.ref kq)] [(.int en0), (.ref aK)])) rfl rfl (D d12_33) _ ?_
      jvm_step X13.here [X13.here.top, hx, (D d12_34), X13.method', Bd.returns, narrow]
      first | (intro acts; rw [hr _ acts rfl rfl rfl]) | rw [hr _ _ rfl rfl rfl]
      exact Steps.refl _
    · show Q_rm_kfirstKey Z kq aF aO aW aK aB aA aI hp lo aE aP cK kK kB kA kI kF kO kW kE kP bk ib0 ib1 bf0 bf1 af0 af1 sz en0 en1 po0 po1 mm0 mm1 kk0 kk1 fF fO fW h0 n0 _ T13.heap _
      rw [e13]
      exact ⟨y14, rfl, N13, (Keep.refl h0 []), (own_fk2 KI0 (own_fk0 KI0 hem hc3) hy14)⟩
theorem d11_0 : decode prog_39_method_9_code 0 = .ok (.aload_n 0, 1) := by decide +kernel
theorem d11_1 : decode prog_39_method_9_code 1 = .ok (.invokevirtual 105, 3) := by decide +kernel
theorem d11_4 : decode prog_39_method_9_code 4 = .ok (.ifCond .ne 30, 3) := by decide +kernel
theorem d11_7 : decode prog_39_method_9_code 7 = .ok (.aload_n 0, 1) := by decide +kernel
theorem d11_8 : decode prog_39_method_9_code 8 = .ok (.invokevirtual 106, 3) := by decide +kernel
theorem d11_11 : decode prog_39_method_9_code 11 = .ok (.lload_n 1, 1) := by decide +kernel
theorem d11_12 : decode prog_39_method_9_code 12 = .ok (.lcmp, 1) := by decide +kernel
theorem d11_13 : decode prog_39_method_9_code 13 = .ok (.ifCond .ge 21, 3) := by decide +kernel
theorem d11_34 : decode prog_39_method_9_code 34 = .ok (.aload_n 0, 1) := by decide +kernel
theorem d11_35 : decode prog_39_method_9_code 35 = .ok (.aload_n 0, 1) := by decide +kernel
theorem d11_36 : decode prog_39_method_9_code 36 = .ok (.getfield 66, 3) := by decide +kernel
theorem d11_39 : decode prog_39_method_9_code 39 = .ok (.lload_n 1, 1) := by decide +kernel
theorem d11_40 : decode prog_39_method_9_code 40 = .ok (.invokestatic 111, 3) := by decide +kernel
theorem d11_43 : decode prog_39_method_9_code 43 = .ok (.putfield 66, 3) := by decide +kernel
theorem d11_46 : decode prog_39_method_9_code 46 = .ok (.aload_n 0, 1) := by decide +kernel
theorem d11_47 : decode prog_39_method_9_code 47 = .ok (.getfield 50, 3) := by decide +kernel
theorem d11_50 : decode prog_39_method_9_code 50 = .ok (.invokevirtual 58, 3) := by decide +kernel
theorem d11_53 : decode prog_39_method_9_code 53 = .ok (.ifCond .ne 41, 3) := by decide +kernel
theorem d11_56 : decode prog_39_method_9_code 56 = .ok (.aload_n 0, 1) := by decide +kernel
theorem d11_57 : decode prog_39_method_9_code 57 = .ok (.getfield 23, 3) := by decide +kernel
theorem d11_60 : decode prog_39_method_9_code 60 = .ok (.aload_n 0, 1) := by decide +kernel
theorem d11_61 : decode prog_39_method_9_code 61 = .ok (.getfield 50, 3) := by decide +kernel
theorem d11_64 : decode prog_39_method_9_code 64 = .ok (.invokevirtual 99, 3) := by decide +kernel
theorem d11_67 : decode prog_39_method_9_code 67 = .ok (.laload, 1) := by decide +kernel
theorem d11_68 : decode prog_39_method_9_code 68 = .ok (.aload_n 0, 1) := by decide +kernel
theorem d11_69 : decode prog_39_method_9_code 69 = .ok (.getfield 66, 3) := by decide +kernel
theorem d11_72 : decode prog_39_method_9_code 72 = .ok (.lsub, 1) := by decide +kernel
theorem d11_73 : decode prog_39_method_9_code 73 = .ok (.ldc2_w 83, 3) := by decide +kernel
theorem d11_76 : decode prog_39_method_9_code 76 = .ok (.lcmp, 1) := by decide +kernel
theorem d11_77 : decode prog_39_method_9_code 77 = .ok (.ifCond .ge 17, 3) := by decide +kernel
theorem d11_80 : decode prog_39_method_9_code 80 = .ok (.aload_n 0, 1) := by decide +kernel
theorem d11_81 : decode prog_39_method_9_code 81 = .ok (.aload_n 0, 1) := by decide +kernel
theorem d11_82 : decode prog_39_method_9_code 82 = .ok (.getfield 50, 3) := by decide +kernel
theorem d11_85 : decode prog_39_method_9_code 85 = .ok (.invokevirtual 102, 3) := by decide +kernel
theorem d11_88 : decode prog_39_method_9_code 88 = .ok (.invokevirtual 85, 3) := by decide +kernel
theorem d11_91 : decode prog_39_method_9_code 91 = .ok (.goto (-45), 3) := by decide +kernel
theorem d11_94 : decode prog_39_method_9_code 94 = .ok (.return_, 1) := by decide +kernel
theorem pd_8 : parseMethodDescriptor "()J" = some ⟨[], some .long⟩ := by decide +kernel
theorem pd_9 : parseMethodDescriptor "(JJ)J" = some ⟨[.long, .long], some .long⟩ := by decide +kernel
theorem ne8_0 {kq aF aO aW aK aB aA aI hp lo aE aP : Addr} (h : List.Nodup [kq, aF, aO, aW, aK, aB, aA, aI, hp, lo, aE, aP]) : hp ≠ kq := own_nd h 8 0 rfl rfl (by decide)
theorem ne4_0 {kq aF aO aW aK aB aA aI hp lo aE aP : Addr} (h : List.Nodup [kq, aF, aO, aW, aK, aB, aA, aI, hp, lo, aE, aP]) : aK ≠ kq := own_nd h 4 0 rfl rfl (by decide)
theorem ne10_0 {kq aF aO aW aK aB aA aI hp lo aE aP : Addr} (h : List.Nodup [kq, aF, aO, aW, aK, aB, aA, aI, hp, lo, aE, aP]) : aE ≠ kq := own_nd h 10 0 rfl rfl (by decide)
theorem ne11_0 {kq aF aO aW aK aB aA aI hp lo aE aP : Addr} (h : List.Nodup [kq, aF, aO, aW, aK, aB, aA, aI, hp, lo, aE, aP]) : aP ≠ kq := own_nd h 11 0 rfl rfl (by decide)
theorem ne9_0 {kq aF aO aW aK aB aA aI hp lo aE aP : Addr} (h : List.Nodup [kq, aF, aO, aW, aK, aB, aA, aI, hp, lo, aE, aP]) : lo ≠ kq := own_nd h 9 0 rfl rfl (by decide)
theorem nn101 {kq aF aO aW aK aB aA aI hp lo aE aP : Addr} (h : List.Nodup [kq, aF, aO, aW, aK, aB, aA, aI, hp, lo, aE, aP]) : lo ∉ [hp, aE, aP] := own_nin h 9 [8, 10, 11] rfl rfl (by decide)
theorem nn102 {kq aF aO aW aK aB aA aI hp lo aE aP : Addr} (h : List.Nodup [kq, aF, aO, aW, aK, aB, aA, aI, hp, lo, aE, aP]) : lo ∉ [kq, aB, aA, aI, aF, aO, aW] := own_nin h 9 [0, 5, 6, 7, 1, 2, 3] rfl rfl (by decide)
theorem ef_rm_kraiseFloor (m : MethodId) (x0 : Addr) (x1 : Int64) : entryFrame m #[(.ref x0), (.long x1)] 3 = mkF m 0 #[.val (.ref x0), .val (.long x1), .second] [] := by first | (simp [entryFrame, mkF, argsToLocals, Value.category]; done) | rfl
def Q_rm_kraiseFloor (Z : State) (kq : Addr) (y : Int64) (aF aO aW aK aB aA aI hp lo aE aP : Addr) (cK kK kB kA kI kF kO kW kE kP : ClassId) (bk ib0 ib1 bf0 bf1 af0 af1 sz en0 en1 po0 po1 mm0 mm1 : Int32) (kk0 kk1 : Int64) (fF : Nat → Int32) (fO fW : Nat → Int64) (h0 : Heap) (n0 : Nat) (v : Option Value) (h : Heap) (L : List Loc) : Prop := ∃ (ve0 : Int32) (ve1 : Int32) (vp0 : Int32) (vp1 : Int32) (vz_ : Int32) (vb_ : Int32) (vi0 : Int32) (vi1 : Int32) (vl_ : Int64), v = none ∧ Fr n0 L ∧ Keep h0 h [kq, aB, aA, aI, aF, aO, aW, hp, aE, aP] ∧ Fld Z h kq cQ "keys" "[J" (.ref aK) ∧ Fld Z h kq cQ "before" "[I" (.ref aB) ∧ Fld Z h kq cQ "after" "[I" (.ref aA) ∧ Fld Z h kq cQ "inBucket" "[Z" (.ref aI) ∧ Fld Z h kq cQ "firsts" "[I" (.ref aF) ∧ Fld Z h kq cQ "occupied" "[J" (.ref aO) ∧ Fld Z h kq cQ "occupiedWords" "[J" (.ref aW) ∧ Fld Z h kq cQ "further" "Lcom/example/leasewise/leasewise/IndexedHeap;" (.ref hp) ∧ Fld Z h kq cQ "bucketed" "I" (.int vb_) ∧ Fld Z h kq cQ "floor" "J" (.long vl_) ∧ Arp Z h aK kK .long (2 : Int32) PJ ∧ Arp Z h aB kB .int (2 : Int32) PI ∧ Arp Z h aA kA .int (2 : Int32) PI ∧ Arv Z h aI kI .boolean (2 : Int32) [(.int vi0), (.int vi1)] (.int (0 : Int32)) ∧ Arp Z h aF kF .int (65536 : Int32) PI ∧ Arp Z h aO kO .long (1024 : Int32) PJ ∧ Arp Z h aW kW .long (16 : Int32) PJ ∧ Fld Z h hp cH "order" "Lcom/example/leasewise/leasewise/IndexedHeap$Order;" (.ref lo) ∧ Fld Z h hp cH "entries" "[I" (.ref aE) ∧ Fld Z h hp cH "positions" "[I" (.ref aP) ∧ Fld Z h hp cH "size" "I" (.int vz_) ∧ Arv Z h aE kE .int (2 : Int32) [(.int ve0), (.int ve1)] (.int (0 : Int32)) ∧ Arv Z h aP kP .int (2 : Int32) [(.int vp0), (.int vp1)] (.int (-1 : Int32)) ∧ (KI vb_ vz_ ve0 ve1 vp0 vp1 vi0 vi1 mm0 mm1)
set_option maxRecDepth 65536 in
set_option maxHeartbeats 40000000 in
theorem rm_kraiseFloor (l : Launch) (Z : State) (a0 : Array Value) (hw : ∀ d ∈ tables_1, d.before a0 Z = true) (ws : List Jvm.Cond) (kq : Addr) (y : Int64) (aF aO aW aK aB aA aI hp lo aE aP : Addr) (cK kK kB kA kI kF kO kW kE kP : ClassId) (bk ib0 ib1 bf0 bf1 af0 af1 sz en0 en1 po0 po1 mm0 mm1 : Int32) (kk0 kk1 : Int64) (fF : Nat → Int32) (fO fW : Nat → Int64) (h0 : Heap) (n0 : Nat) (O0 : Old Z n0 h0) (E_kq : Exa Z h0 kq cQ) (F_kq_keys : Fld Z h0 kq cQ "keys" "[J" (.ref aK)) (F_kq_before : Fld Z h0 kq cQ "before" "[I" (.ref aB)) (F_kq_after : Fld Z h0 kq cQ "after" "[I" (.ref aA)) (F_kq_inBucket : Fld Z h0 kq cQ "inBucket" "[Z" (.ref aI)) (F_kq_firsts : Fld Z h0 kq cQ "firsts" "[I" (.ref aF)) (F_kq_occupied : Fld Z h0 kq cQ "occupied" "[J" (.ref aO)) (F_kq_occupiedWords : Fld Z h0 kq cQ "occupiedWords" "[J" (.ref aW)) (F_kq_further : Fld Z h0 kq cQ "further" "Lcom/example/leasewise/leasewise/IndexedHeap;" (.ref hp)) (F_kq_bucketed : Fld Z h0 kq cQ "bucketed" "I" (.int bk)) (F_kq_floor : Fld Z h0 kq cQ "floor" "J" (.long (0 : Int64))) (V_aK : Arv Z h0 aK kK .long (2 : Int32) [(.long kk0), (.long kk1)] (.long (0 : Int64))) (V_aB : Arv Z h0 aB kB .int (2 : Int32) [(.int bf0), (.int bf1)] (.int (0 : Int32))) (V_aA : Arv Z h0 aA kA .int (2 : Int32) [(.int af0), (.int af1)] (.int (0 : Int32))) (V_aI : Arv Z h0 aI kI .boolean (2 : Int32) [(.int ib0), (.int ib1)] (.int (0 : Int32))) (E_hp : Exa Z h0 hp cH) (F_hp_order : Fld Z h0 hp cH "order" "Lcom/example/leasewise/leasewise/IndexedHeap$Order;" (.ref lo)) (F_hp_entries : Fld Z h0 hp cH "entries" "[I" (.ref aE)) (F_hp_positions : Fld Z h0 hp cH "positions" "[I" (.ref aP)) (F_hp_size : Fld Z h0 hp cH "size" "I" (.int sz)) (V_aE : Arv Z h0 aE kE .int (2 : Int32) [(.int en0), (.int en1)] (.int (0 : Int32))) (V_aP : Arv Z h0 aP kP .int (2 : Int32) [(.int po0), (.int po1)] (.int (-1 : Int32))) (MDc : Jvm.LamKit.Made Z cQ sgm cK) (NDp : List.Nodup [kq, aF, aO, aW, aK, aB, aA, aI, hp, lo, aE, aP]) (g_kq : n0 ≤ kq) (g_aB : n0 ≤ aB) (g_aA : n0 ≤ aA) (g_aI : n0 ≤ aI) (g_aF : n0 ≤ aF) (g_aO : n0 ≤ aO) (g_aW : n0 ≤ aW) (g_hp : n0 ≤ hp) (g_aE : n0 ≤ aE) (g_aP : n0 ≤ aP) (KI0 : KI bk sz en0 en1 po0 po1 ib0 ib1 mm0 mm1) (LI0 : LI fF ib0 ib1 kk0 kk1 bf0 bf1 af0 af1) (OK0 : OKB fF fO fW) (PV0 : PV4 bf0 bf1 af0 af1) (hlo : (mm0 = 1 → ¬ kk0 < y) ∧ (mm1 = 1 → ¬ kk1 < y)) (Y_lo : LamO h0 lo cK kq) (V_aF : ArfI Z h0 aF kF (65536 : Int32) fF) (V_aO : ArfJ Z h0 aO kO (1024 : Int32) fO) (V_aW : ArfJ Z h0 aW kW (16 : Int32) fW) :
    MetFree l (⟨cQ, "raiseFloor", "(J)V"⟩ : MethodName) (head1 (Jvm.Cond.code (⟨cQ, "raiseFloor", "(J)V"⟩ : MethodName) prog_39_method_9_code 3 none :: ws) ({ frames := 6, cells := 0, slots := 0, locals := 90 } : Room)) (fun a U => a = #[(.ref kq), (.long y)] ∧ Z.WarmedH U.vm ∧ U.heap = h0) (fun _ _ _ _ _ => True) (fun _ U o U' => ∃ v L, o = .returned v ∧ Q_rm_kraiseFloor Z kq y aF aO aW aK aB aA aI hp lo aE aP cK kK kB kA kI kF kO kW kE kP bk ib0 ib1 bf0 bf1 af0 af1 sz en0 en1 po0 po1 mm0 mm1 kk0 kk1 fF fO fW h0 n0 v U'.heap L ∧ FrameEnd U o U' L ({ frames := 6, cells := 0, slots := 0, locals := 90 } : Room).cells ({ frames := 6, cells := 0, slots := 0, locals := 90 } : Room).slots) := by
  refine MetFree.of_bodySF (plainFor_of_name pn_2) hisR ?_
  intro p e s m args below meth c s₁ Bd hml0 hP hK
  obtain ⟨rfl, hZH, hh⟩ := hP
  have hZ := hZH.wide
  have hx := Bd.exec
  have hby := Bd.bytes
  have D := fun {pc : Nat} {r : Except ClassFile.DecodeError (ClassFile.Instr × Nat)} (q : decode prog_39_method_9_code pc = r) => hb (pc := pc) hby q
  have hml : c.maxLocals = 3 := hml0
  have hown : s.vm.findClass cQ = some m.cls := findClass_of_methodNamed Bd.named
  have hnm := (name_of_methodNamed Bd.named Bd.method).1
  have X0 : Stand p l e ({ frames := 6, cells := 0, slots := 0, locals := 90 } : Room) s m #[(.ref kq), (.long y)] below meth c s₁ [] 0 0 := Stand.of_body Bd
  have e0 : s₁.heap = h0 := by rw [← hh, Bd.state]; rfl
  have N0 := Fr.nil n0
  have pre0 : ∀ t, Steps p.tables e below (s₁.setTop (mkF m 0 #[.val (.ref kq), .val (.long y), .second] [])) t → Steps p.tables e below (s₁.setTop (entryFrame m #[(.ref kq), (.long y)] 3)) t := fun t k => castTop (ef_rm_kraiseFloor m (kq) (y)) k
  have wd := fun {d : Jvm.Cond} (i : Nat) (h : tables_1[i]? = some d) => hw d (List.mem_of_getElem? h)
  obtain ⟨cq1, kq1, q1a, q1b, q1c⟩ := isOf hZ e0 E_kq
  obtain ⟨_, _, ⟨T1, L1, k1, n1⟩, -, X1, ⟨Lc1, hQ1, l1, y1, z1⟩, st1⟩ := X0.virtualBack hx (y := (⟨cQ, "isEmpty", "()Z"⟩ : MethodName)) (z := (⟨cQ, "isEmpty", "()Z"⟩ : MethodName)) hown (mvT hZ (wd 94 rfl)) (mvT hZ (wd 52 rfl)) (notFace_of_selects (args := #[]) (mvT hZ (wd 54 rfl))) (mvT hZ (wd 54 rfl)) (mvT hZ (wd 53 rfl)) (by decide) (own_backH (W := 0) (rm_kisEmpty l Z a0 hw [] kq hp bk ib0 ib1 sz en0 en1 po0 po1 mm0 mm1 h0 n0 O0 E_kq F_kq_further F_kq_bucketed E_hp F_hp_size KI0) hZH (wd 55 rfl) (wd 2 rfl) (by decide) (by decide)) q1a q1c (g := (mkF m 1 #[.val (.ref kq), .val (.long y), .second] [(.ref kq)])) rfl (by rw [hml]; rfl) (Steps.refl _) (argsL := []) (rest := []) (lenOf pd_6 rfl) rfl (by show 2 * 0 + _ ≤ _; exact Nat.le_of_eq rfl) (D d11_1) (fun _ _ => ⟨rfl, e0, (by decide : 0 + 0 ≤ _), (by decide : 0 + 0 ≤ _)⟩)
  dsimp only [Pt.U, Pt.locs, Pt.cells, Pt.slots] at X1 l1 y1 z1 st1 hQ1
  subst l1 y1 z1
  obtain ⟨rfl, N1q, e1⟩ := hQ1
  have N1 := Fr.app N0 N1q
  have cs3 : Steps p.tables e below (s₁.setTop (mkF m 0 #[.val (.ref kq), .val (.long y), .second] [])) (T1.setTop (mkF m 4 #[.val (.ref kq), .val (.long y), .second] [(.int (EM mm0 mm1))])) := (by
    refine s_aloadN X0 hx (D d11_0) rfl rfl ?_
    refine st1.trans ?_
    exact Steps.refl _)
  have jn2 : ∃ (T : State) (L : List Loc) (h : Heap), Stand p l e ({ frames := 6, cells := 0, slots := 0, locals := 90 } : Room) s m #[(.ref kq), (.long y)] below meth c T L 0 0 ∧ T.heap = h ∧ Fr n0 L ∧ Keep h0 h [kq, aB, aA, aI, aF, aO, aW, hp, aE, aP] ∧ Old Z n0 h ∧ Exa Z h kq cQ ∧ Fld Z h kq cQ "keys" "[J" (.ref aK) ∧ Fld Z h kq cQ "before" "[I" (.ref aB) ∧ Fld Z h kq cQ "after" "[I" (.ref aA) ∧ Fld Z h kq cQ "inBucket" "[Z" (.ref aI) ∧ Fld Z h kq cQ "firsts" "[I" (.ref aF) ∧ Fld Z h kq cQ "occupied" "[J" (.ref aO) ∧ Fld Z h kq cQ "occupiedWords" "[J" (.ref aW) ∧ Fld Z h kq cQ "further" "Lcom/example/leasewise/leasewise/IndexedHeap;" (.ref hp) ∧ Fld Z h kq cQ "bucketed" "I" (.int bk) ∧ Fld Z h kq cQ "floor" "J" (.long (0 : Int64)) ∧ Arv Z h aK kK .long (2 : Int32) [(.long kk0), (.long kk1)] (.long (0 : Int64)) ∧ Arv Z h aB kB .int (2 : Int32) [(.int bf0), (.int bf1)] (.int (0 : Int32)) ∧ Arv Z h aA kA .int (2 : Int32) [(.int af0), (.int af1)] (.int (0 : Int32)) ∧ Arv Z h aI kI .boolean (2 : Int32) [(.int ib0), (.int ib1)] (.int (0 : Int32)) ∧ Exa Z h hp cH ∧ Fld Z h hp cH "order" "Lcom/example/leasewise/leasewise/IndexedHeap$Order;" (.ref lo) ∧ Fld Z h hp cH "entries" "[I" (.ref aE) ∧ Fld Z h hp cH "positions" "[I" (.ref aP) ∧ Fld Z h hp cH "size" "I" (.int sz) ∧ Arv Z h aE kE .int (2 : Int32) [(.int en0), (.int en1)] (.int (0 : Int32)) ∧ Arv Z h aP kP .int (2 : Int32) [(.int po0), (.int po1)] (.int (-1 : Int32)) ∧ LamO h lo cK kq ∧ ArfI Z h aF kF (65536 : Int32) fF ∧ ArfJ Z h aO kO (1024 : Int32) fO ∧ ArfJ Z h aW kW (16 : Int32) fW ∧ Steps p.tables e below (s₁.setTop (mkF m 0 #[.val (.ref kq), .val (.long y), .second] [])) (T.setTop (mkF m 34 #[.val (.ref kq), .val (.long y), .second] [])) := by
    by_cases hc4 : (EM mm0 mm1) = (0 : Int32)
    · obtain ⟨cq5, kq5, q5a, q5b, q5c⟩ := isOf hZ e1 E_kq
      obtain ⟨_, _, ⟨T5, L5, k5, n5⟩, -, X5, ⟨Lc5, hQ5, l5, y5, z5⟩, st5⟩ := X1.virtualBack hx (y := (⟨cQ, "firstKey", "()J"⟩ : MethodName)) (z := (⟨cQ, "firstKey", "()J"⟩ : MethodName)) hown (mvT hZ (wd 95 rfl)) (mvT hZ (wd 96 rfl)) (notFace_of_selects (args := #[]) (mvT hZ (wd 98 rfl))) (mvT hZ (wd 98 rfl)) (mvT hZ (wd 97 rfl)) (by decide) (own_backH (W := 0) (rm_kfirstKey l Z a0 hw [] kq aF aO aW aK aB aA aI hp lo aE aP cK kK kB kA kI kF kO kW kE kP bk ib0 ib1 bf0 bf1 af0 af1 sz en0 en1 po0 po1 mm0 mm1 kk0 kk1 fF fO fW h0 n0 O0 E_kq F_kq_keys F_kq_before F_kq_after F_kq_inBucket F_kq_firsts F_kq_occupied F_kq_occupiedWords F_kq_further F_kq_bucketed F_kq_floor V_aK V_aB V_aA V_aI E_hp F_hp_order F_hp_entries F_hp_positions F_hp_size V_aE V_aP MDc NDp KI0 LI0 OK0 hc4 Y_lo V_aF V_aO V_aW) hZH (wd 99 rfl) (wd 2 rfl) (by decide) (by decide)) q5a q5c (g := (mkF m 8 #[.val (.ref kq), .val (.long y), .second] [(.ref kq)])) rfl (by rw [hml]; rfl) (Steps.refl _) (argsL := []) (rest := []) (lenOf pd_8 rfl) rfl (by show 2 * 0 + _ ≤ _; exact Nat.le_of_eq rfl) (D d11_8) (fun _ _ => ⟨rfl, e1, (by decide : 0 + 0 ≤ _), (by decide : 0 + 0 ≤ _)⟩)
      dsimp only [Pt.U, Pt.locs, Pt.cells, Pt.slots] at X5 l5 y5 z5 st5 hQ5
      subst l5 y5 z5
      obtain ⟨r__5, rfl, N5q, K5, Q5_0⟩ := hQ5
      have O5 := O0.keep K5 all0
      have KK5 : Keep h0 T5.heap [kq, aB, aA, aI, aF, aO, aW, hp, aE, aP] := (Keep.refl h0 [kq, aB, aA, aI, aF, aO, aW, hp, aE, aP]).trans K5 all0
      have N5 := Fr.app N1 N5q
      have cs6 : Steps p.tables e below (s₁.setTop (mkF m 0 #[.val (.ref kq), .val (.long y), .second] [])) (T5.setTop (mkF m 34 #[.val (.ref kq), .val (.long y), .second] [])) := cs3.trans (by
        refine s_ifNo X1 hx (D d11_4) ((if0 _ _).trans (teq hc4).2) ?_
        refine s_aloadN X1 hx (D d11_7) rfl rfl ?_
        refine st5.trans ?_
        refine s_lloadN X5 hx (D d11_11) rfl ?_
        refine s_lcmp X5 hx (D d11_12) rfl ?_
        refine s_ifYes X5 hx 34 (D d11_13) ((if0 _ _).trans (flt (fun hh => own_nlt Q5_0 hlo ((lw_lt _ _).mp hh) : ¬ ((lcmpW r__5 y) < (0 : Int32)))).2.1) (of_decide_eq_true rfl) rfl ?_
        exact Steps.refl _)
      have f7 := (E_kq.keep K5)
      have f8 := (F_kq_keys.keep K5 nin0)
      have f9 := (F_kq_before.keep K5 nin0)
      have f10 := (F_kq_after.keep K5 nin0)
      have f11 := (F_kq_inBucket.keep K5 nin0)
      have f12 := (F_kq_firsts.keep K5 nin0)
      have f13 := (F_kq_occupied.keep K5 nin0)
      have f14 := (F_kq_occupiedWords.keep K5 nin0)
      have f15 := (F_kq_further.keep K5 nin0)
      have f16 := (F_kq_bucketed.keep K5 nin0)
      have f17 := (F_kq_floor.keep K5 nin0)
      have f18 := (V_aK.keep K5 nin0)
      have f19 := (V_aB.keep K5 nin0)
      have f20 := (V_aA.keep K5 nin0)
      have f21 := (V_aI.keep K5 nin0)
      have f22 := (E_hp.keep K5)
      have f23 := (F_hp_order.keep K5 nin0)
      have f24 := (F_hp_entries.keep K5 nin0)
      have f25 := (F_hp_positions.keep K5 nin0)
      have f26 := (F_hp_size.keep K5 nin0)
      have f27 := (V_aE.keep K5 nin0)
      have f28 := (V_aP.keep K5 nin0)
      have f29 := (Y_lo.keep K5 nin0)
      have f30 := (V_aF.keep K5 nin0)
      have f31 := (V_aO.keep K5 nin0)
      have f32 := (V_aW.keep K5 nin0)
      exact ⟨T5, _, _, X5, rfl, N5, KK5, O5, f7, f8, f9, f10, f11, f12, f13, f14, f15, f16, f17, f18, f19, f20, f21, f22, f23, f24, f25, f26, f27, f28, f29, f30, f31, f32, cs6⟩
    · have cs33 : Steps p.tables e below (s₁.setTop (mkF m 0 #[.val (.ref kq), .val (.long y), .second] [])) (T1.setTop (mkF m 34 #[.val (.ref kq), .val (.long y), .second] [])) := cs3.trans (by
        refine s_ifYes X1 hx 34 (D d11_4) ((if0 _ _).trans (feq hc4).2) (of_decide_eq_true rfl) rfl ?_
        exact Steps.refl _)
      exact ⟨T1, _, _, X1, e1, N1, (Keep.refl h0 [kq, aB, aA, aI, aF, aO, aW, hp, aE, aP]), O0, E_kq, F_kq_keys, F_kq_before, F_kq_after, F_kq_inBucket, F_kq_firsts, F_kq_occupied, F_kq_occupiedWords, F_kq_further, F_kq_bucketed, F_kq_floor, V_aK, V_aB, V_aA, V_aI, E_hp, F_hp_order, F_hp_entries, F_hp_positions, F_hp_size, V_aE, V_aP, Y_lo, V_aF, V_aO, V_aW, cs33⟩
  obtain ⟨Tj2, Lj2, hj2, Xj2, ej2, Nj2, Kj2, Oj2, J2_0, J2_1, J2_2, J2_3, J2_4, J2_5, J2_6, J2_7, J2_8, J2_9, J2_10, J2_11, J2_12, J2_13, J2_14, J2_15, J2_16, J2_17, J2_18, J2_19, J2_20, J2_21, J2_22, J2_23, J2_24, J2_25, cj2⟩ := jn2
  have Vp34 : Arp Z hj2 aK kK .long (2 : Int32) PJ := Arp.of J2_11 (own_pj2J (own_PJ _) (own_PJ _) (own_PJ _))
  have Vp35 : Arp Z hj2 aB kB .int (2 : Int32) PI := Arp.of J2_12 (own_pj2I (own_PI PV0.1) (own_PI PV0.2.1) (own_PI (by decide)))
  have Vp36 : Arp Z hj2 aA kA .int (2 : Int32) PI := Arp.of J2_13 (own_pj2I (own_PI PV0.2.2.1) (own_PI PV0.2.2.2) (own_PI (by decide)))
  have Vp37 : Arp Z hj2 aF kF .int (65536 : Int32) PI := J2_23.prop (fun i => own_PI (own_liv LI0 i))
  have Vp38 : Arp Z hj2 aO kO .long (1024 : Int32) PJ := J2_24.prop (fun i => own_PJ _)
  have Vp39 : Arp Z hj2 aW kW .long (16 : Int32) PJ := J2_25.prop (fun i => own_PJ _)
  obtain ⟨T40, X40, e40, st40⟩ := getF Xj2 hx hZ hown (host := "") (Or.inl (wd 71 rfl)) Via.refl ej2 J2_10 (g := (mkF m 36 #[.val (.ref kq), .val (.long y), .second] [(.ref kq), (.ref kq)])) rfl rfl (D d11_36)
  obtain ⟨_, _, ⟨T41, L41, k41, n41⟩, -, X41, ⟨Lc41, hQ41, l41, y41, z41⟩, st41⟩ := Jvm.LawKit.callS X40 hx (y := (⟨"java/lang/Math", "max", "(JJ)J"⟩ : MethodName)) hown (mvT hZ (wd 118 rfl)) (mvT hZ (wd 119 rfl)) (mvT hZ (wd 120 rfl)) (mvT hZ (wd 121 rfl)) (by decide) (own_backH (W := 1) (rm_max l Z a0 hw [] (0 : Int64) y hj2 n0 Oj2) hZH (wd 121 rfl) (wd 120 rfl) (by decide) (by decide)) (g := (mkF m 40 #[.val (.ref kq), .val (.long y), .second] [(.long y), (.long (0 : Int64)), (.ref kq)])) rfl (by rw [hml]; rfl) (argsL := [(.long (0 : Int64)), (.long y)]) (rest := [(.ref kq)]) (lenOf pd_9 rfl) rfl (by show 2 * 0 + _ ≤ _; exact Nat.le_of_eq rfl) (D d11_40) (fun _ _ => ⟨rfl, e40, (by decide : 0 + 0 ≤ _), (by decide : 0 + 0 ≤ _)⟩)
  dsimp only [Pt.U, Pt.locs, Pt.cells, Pt.slots] at X41 l41 y41 z41 st41 hQ41
  subst l41 y41 z41
  obtain ⟨rfl, N41q, e41⟩ := hQ41
  have N41 := Fr.app Nj2 N41q
  obtain ⟨T42, h42, X42, e42, W42, st42⟩ := putF X41 hx hZ hown (host := "") (Or.inl (wd 71 rfl)) Via.refl e41 J2_10 J2_0 (Or.inl (wd 72 rfl)) (wd 1 rfl) (ty := .long) (by decide) rfl rfl (g := (mkF m 43 #[.val (.ref kq), .val (.long y), .second] [(.long (if lcmpW (0 : Int64) y < 0 then y else (0 : Int64))), (.ref kq)])) rfl rfl (D d11_43)
  have Fw42 : Fld Z h42 kq cQ "floor" "J" (.long (if lcmpW (0 : Int64) y < 0 then y else (0 : Int64))) := Fld.same W42 J2_10
  have N42 := Fr.snoc X42 N41 g_kq
  have Zn42 : n0 ≤ h42.size := Nat.le_trans (own_oldsz Oj2) (Keep.of_wr W42).1
  have K42 : Keep h0 h42 [kq, aB, aA, aI, aF, aO, aW, hp, aE, aP] := Kj2.wr W42 (Or.inl (List.mem_of_getElem? (i := 0) rfl))
  have O42 := Oj2.wr W42 g_kq
  have cs43 : Steps p.tables e below (s₁.setTop (mkF m 0 #[.val (.ref kq), .val (.long y), .second] [])) (T42.setTop (mkF m 46 #[.val (.ref kq), .val (.long y), .second] [])) := cj2.trans (by
    refine s_aloadN Xj2 hx (D d11_34) rfl rfl ?_
    refine s_aloadN Xj2 hx (D d11_35) rfl rfl ?_
    refine st40 _ ?_
    refine s_lloadN X40 hx (D d11_39) rfl ?_
    refine st41 _ ?_
    refine st42 _ ?_
    exact Steps.refl _)
  rcases own_hnn KI0.1 with rfl | rfl | rfl
  · have f44 := (J2_8.other W42 (Or.inr (slot_ne (Or.inr (wd 50 rfl)) (Or.inl (wd 72 rfl)) (by decide) (t := (.object cH)) (t' := .long) (by decide) (by decide))))
    obtain ⟨T45, X45, e45, st45⟩ := getF X42 hx hZ hown (host := "") (Or.inl (wd 49 rfl)) Via.refl e42 f44 (g := (mkF m 47 #[.val (.ref kq), .val (.long y), .second] [(.ref kq)])) rfl rfl (D d11_47)
    have f46 := (J2_15.wr W42)
    have f47 := (J2_19.other W42 (Or.inl (ne8_0 NDp)))
    obtain ⟨cq48, kq48, q48a, q48b, q48c⟩ := isOf hZ e45 f46
    obtain ⟨_, _, ⟨T48, L48, k48, n48⟩, -, X48, ⟨Lc48, hQ48, l48, y48, z48⟩, st48⟩ := X45.virtualBack hx (y := (⟨cH, "isEmpty", "()Z"⟩ : MethodName)) (z := (⟨cH, "isEmpty", "()Z"⟩ : MethodName)) hown (mvT hZ (wd 58 rfl)) (mvT hZ (wd 59 rfl)) (notFace_of_selects (args := #[]) (mvT hZ (wd 61 rfl))) (mvT hZ (wd 61 rfl)) (mvT hZ (wd 60 rfl)) (by decide) (own_backH (W := 0) (rm_hisEmpty l Z a0 hw [] hp (0 : Int32) h42 n0 O42 f46 f47) hZH (wd 62 rfl) (wd 33 rfl) (by decide) (by decide)) q48a q48c (g := (mkF m 50 #[.val (.ref kq), .val (.long y), .second] [(.ref hp)])) rfl (by rw [hml]; rfl) (Steps.refl _) (argsL := []) (rest := []) (lenOf pd_6 rfl) rfl (by show 2 * 0 + _ ≤ _; exact Nat.le_of_eq rfl) (D d11_50) (fun _ _ => ⟨rfl, e45, (by decide : 0 + 0 ≤ _), (by decide : 0 + 0 ≤ _)⟩)
    dsimp only [Pt.U, Pt.locs, Pt.cells, Pt.slots] at X48 l48 y48 z48 st48 hQ48
    subst l48 y48 z48
    obtain ⟨rfl, N48q, e48⟩ := hQ48
    have N48 := Fr.app N42 N48q
    have f49 := (J2_1.other W42 (Or.inr (slot_ne (Or.inr (wd 19 rfl)) (Or.inl (wd 72 rfl)) (by decide) (t := (.array .long)) (t' := .long) (by decide) (by decide))))
    have f50 := (J2_2.other W42 (Or.inr (slot_ne (Or.inr (wd 21 rfl)) (Or.inl (wd 72 rfl)) (by decide) (t := (.array .int)) (t' := .long) (by decide) (by decide))))
    have f51 := (J2_3.other W42 (Or.inr (slot_ne (Or.inr (wd 23 rfl)) (Or.inl (wd 72 rfl)) (by decide) (t := (.array .int)) (t' := .long) (by decide) (by decide))))
    have f52 := (J2_4.other W42 (Or.inr (slot_ne (Or.inr (wd 26 rfl)) (Or.inl (wd 72 rfl)) (by decide) (t := (.array .boolean)) (t' := .long) (by decide) (by decide))))
    have f53 := (J2_5.other W42 (Or.inr (slot_ne (Or.inr (wd 12 rfl)) (Or.inl (wd 72 rfl)) (by decide) (t := (.array .int)) (t' := .long) (by decide) (by decide))))
    have f54 := (J2_6.other W42 (Or.inr (slot_ne (Or.inr (wd 15 rfl)) (Or.inl (wd 72 rfl)) (by decide) (t := (.array .long)) (t' := .long) (by decide) (by decide))))
    have f55 := (J2_7.other W42 (Or.inr (slot_ne (Or.inr (wd 17 rfl)) (Or.inl (wd 72 rfl)) (by decide) (t := (.array .long)) (t' := .long) (by decide) (by decide))))
    have f56 := (J2_9.other W42 (Or.inr (slot_ne (Or.inl (wd 57 rfl)) (Or.inl (wd 72 rfl)) (by decide) (t := .int) (t' := .long) (by decide) (by decide))))
    have f57 := (Vp34.other W42 (ne4_0 NDp))
    have f58 := (Vp35.other W42 (ne5_0 NDp))
    have f59 := (Vp36.other W42 (ne6_0 NDp))
    have f60 := (J2_14.other W42 (ne7_0 NDp))
    have f61 := (Vp37.other W42 (ne1_0 NDp))
    have f62 := (Vp38.other W42 (ne2_0 NDp))
    have f63 := (Vp39.other W42 (ne3_0 NDp))
    have f64 := (J2_16.other W42 (Or.inl (ne8_0 NDp)))
    have f65 := (J2_17.other W42 (Or.inl (ne8_0 NDp)))
    have f66 := (J2_18.other W42 (Or.inl (ne8_0 NDp)))
    have f67 := (J2_20.other W42 (ne10_0 NDp))
    have f68 := (J2_21.other W42 (ne11_0 NDp))
    obtain ⟨fs, hr, hrun, hended, hW, hsame⟩ := X48.leave (v := none) (fun _ => rfl)
    refine ⟨_, _, pre0 _ ?_, hrun, hended, _, _, rfl, ?_, ⟨_, rfl⟩, hW, hsame.mono (by decide) (by decide)⟩
    · refine cs43.trans ?_
      refine s_aloadN X42 hx (D d11_46) rfl rfl ?_
      refine st45 _ ?_
      refine st48.trans ?_
      refine s_ifYes X48 hx 94 (D d11_53) ((if0 _ _).trans (feq (by decide : ¬ ((if (0 : Int32) = (0 : Int32) then (1 : Int32) else (0 : Int32)) = (0 : Int32)))).2) (of_decide_eq_true rfl) rfl ?_
      exact X48.returnOut hx Bd.returns (D d11_94) hr
    · show Q_rm_kraiseFloor Z kq y aF aO aW aK aB aA aI hp lo aE aP cK kK kB kA kI kF kO kW kE kP bk ib0 ib1 bf0 bf1 af0 af1 (0 : Int32) en0 en1 po0 po1 mm0 mm1 kk0 kk1 fF fO fW h0 n0 _ T48.heap _
      rw [e48]
      exact ⟨en0, en1, po0, po1, (0 : Int32), bk, ib0, ib1, (if lcmpW (0 : Int64) y < 0 then y else (0 : Int64)), rfl, N48, K42, f49, f50, f51, f52, f53, f54, f55, f44, f56, Fw42, f57, f58, f59, f60, f61, f62, f63, f64, f65, f66, f47, f67, f68, KI0⟩
  · have f69 := (J2_8.other W42 (Or.inr (slot_ne (Or.inr (wd 50 rfl)) (Or.inl (wd 72 rfl)) (by decide) (t := (.object cH)) (t' := .long) (by decide) (by decide))))
    obtain ⟨T70, X70, e70, st70⟩ := getF X42 hx hZ hown (host := "") (Or.inl (wd 49 rfl)) Via.refl e42 f69 (g := (mkF m 47 #[.val (.ref kq), .val (.long y), .second] [(.ref kq)])) rfl rfl (D d11_47)
    have f71 := (J2_15.wr W42)
    have f72 := (J2_19.other W42 (Or.inl (ne8_0 NDp)))
    obtain ⟨cq73, kq73, q73a, q73b, q73c⟩ := isOf hZ e70 f71
    obtain ⟨_, _, ⟨T73, L73, k73, n73⟩, -, X73, ⟨Lc73, hQ73, l73, y73, z73⟩, st73⟩ := X70.virtualBack hx (y := (⟨cH, "isEmpty", "()Z"⟩ : MethodName)) (z := (⟨cH, "isEmpty", "()Z"⟩ : MethodName)) hown (mvT hZ (wd 58 rfl)) (mvT hZ (wd 59 rfl)) (notFace_of_selects (args := #[]) (mvT hZ (wd 61 rfl))) (mvT hZ (wd 61 rfl)) (mvT hZ (wd 60 rfl)) (by decide) (own_backH (W := 0) (rm_hisEmpty l Z a0 hw [] hp (1 : Int32) h42 n0 O42 f71 f72) hZH (wd 62 rfl) (wd 33 rfl) (by decide) (by decide)) q73a q73c (g := (mkF m 50 #[.val (.ref kq), .val (.long y), .second] [(.ref hp)])) rfl (by rw [hml]; rfl) (Steps.refl _) (argsL := []) (rest := []) (lenOf pd_6 rfl) rfl (by show 2 * 0 + _ ≤ _; exact Nat.le_of_eq rfl) (D d11_50) (fun _ _ => ⟨rfl, e70, (by decide : 0 + 0 ≤ _), (by decide : 0 + 0 ≤ _)⟩)
    dsimp only [Pt.U, Pt.locs, Pt.cells, Pt.slots] at X73 l73 y73 z73 st73 hQ73
    subst l73 y73 z73
    obtain ⟨rfl, N73q, e73⟩ := hQ73
    have N73 := Fr.app N42 N73q
    have f74 := (J2_1.other W42 (Or.inr (slot_ne (Or.inr (wd 19 rfl)) (Or.inl (wd 72 rfl)) (by decide) (t := (.array .long)) (t' := .long) (by decide) (by decide))))
    obtain ⟨T75, X75, e75, st75⟩ := getF X73 hx hZ hown (host := "") (Or.inl (wd 18 rfl)) Via.refl e73 f74 (g := (mkF m 57 #[.val (.ref kq), .val (.long y), .second] [(.ref kq)])) rfl rfl (D d11_57)
    obtain ⟨T76, X76, e76, st76⟩ := getF X75 hx hZ hown (host := "") (Or.inl (wd 49 rfl)) Via.refl e75 f69 (g := (mkF m 61 #[.val (.ref kq), .val (.long y), .second] [(.ref kq), (.ref aK)])) rfl rfl (D d11_61)
    have f77 := (J2_17.other W42 (Or.inl (ne8_0 NDp)))
    have f78 := (J2_20.other W42 (ne10_0 NDp))
    obtain ⟨cq79, kq79, q79a, q79b, q79c⟩ := isOf hZ e76 f71
    obtain ⟨_, _, ⟨T79, L79, k79, n79⟩, -, X79, ⟨Lc79, hQ79, l79, y79, z79⟩, st79⟩ := X76.virtualBack hx (y := (⟨cH, "first", "()I"⟩ : MethodName)) (z := (⟨cH, "first", "()I"⟩ : MethodName)) hown (mvT hZ (wd 145 rfl)) (mvT hZ (wd 146 rfl)) (notFace_of_selects (args := #[]) (mvT hZ (wd 148 rfl))) (mvT hZ (wd 148 rfl)) (mvT hZ (wd 147 rfl)) (by decide) (own_backH (W := 1) (rm_hfirst l Z a0 hw [] hp aE kE (1 : Int32) en0 en1 h42 n0 O42 f71 f77 f72 f78 (by decide)) hZH (wd 149 rfl) (wd 33 rfl) (by decide) (by decide)) q79a q79c (g := (mkF m 64 #[.val (.ref kq), .val (.long y), .second] [(.ref hp), (.ref aK)])) rfl (by rw [hml]; rfl) (Steps.refl _) (argsL := []) (rest := [(.ref aK)]) (lenOf pd_5 rfl) rfl (by show 2 * 0 + _ ≤ _; exact Nat.le_of_eq rfl) (D d11_64) (fun _ _ => ⟨rfl, e76, (by decide : 0 + 0 ≤ _), (by decide : 0 + 0 ≤ _)⟩)
    dsimp only [Pt.U, Pt.locs, Pt.cells, Pt.slots] at X79 l79 y79 z79 st79 hQ79
    subst l79 y79 z79
    obtain ⟨rfl, N79q, e79⟩ := hQ79
    have N79 := Fr.app N73 N79q
    have f81 := (Vp34.other W42 (ne4_0 NDp))
    obtain ⟨cl80, Ar80, q80, S80, Nn80, H80, -⟩ := id f81
    have hin80 : ¬ (en0 < 0 ∨ cl80.slots.size ≤ (en0).toNatClampNeg) := inb_of S80 (own_in2 (own_first KI0.1 (by decide : ¬ ((1 : Int32) = (0 : Int32)))).1)
    obtain ⟨_, hat80, v80, rfl⟩ := Arp.get H80 hin80
    have C80 : Elt h42 aK (en0).toNatClampNeg (.long v80) := ⟨cl80, Ar80.1, hat80⟩
    obtain ⟨T82, X82, e82, st82⟩ := getF X79 hx hZ hown (host := "") (Or.inl (wd 71 rfl)) Via.refl e79 Fw42 (g := (mkF m 69 #[.val (.ref kq), .val (.long y), .second] [(.ref kq), (.long v80)])) rfl rfl (D d11_69)
    have cs83 : Steps p.tables e below (s₁.setTop (mkF m 0 #[.val (.ref kq), .val (.long y), .second] [])) (T82.setTop (mkF m 77 #[.val (.ref kq), .val (.long y), .second] [(.int (lcmpW (v80 - (if lcmpW (0 : Int64) y < 0 then y else (0 : Int64))) (65536 : Int64)))])) := cs43.trans (by
      refine s_aloadN X42 hx (D d11_46) rfl rfl ?_
      refine st70 _ ?_
      refine st73.trans ?_
      refine s_ifNo X73 hx (D d11_53) ((if0 _ _).trans (teq (by decide : (if (1 : Int32) = (0 : Int32) then (1 : Int32) else (0 : Int32)) = (0 : Int32))).2) ?_
      refine s_aloadN X73 hx (D d11_56) rfl rfl ?_
      refine st75 _ ?_
      refine s_aloadN X75 hx (D d11_60) rfl rfl ?_
      refine st76 _ ?_
      refine st79.trans ?_
      refine X79.laload hx (j := en0) (v := (.long v80)) (by rw [e79]; exact (Ar80).1) (State.isArrayOf_alike hZ.alike (Ar80).2.1) (Ar80).2.2 hin80 hat80 (g := (mkF m 67 #[.val (.ref kq), .val (.long y), .second] [(.int en0), (.ref aK)])) rfl rfl (D d11_67) _ ?_
      refine s_aloadN X79 hx (D d11_68) rfl rfl ?_
      refine st82 _ ?_
      refine s_lsub X82 hx (D d11_72) rfl ?_
      refine X82.ldc2Long hx hown (mvT hZ (wd 83 rfl)) (g := (mkF m 73 #[.val (.ref kq), .val (.long y), .second] [(.long (v80 - (if lcmpW (0 : Int64) y < 0 then y else (0 : Int64))))])) rfl (D d11_73) _ ?_
      refine s_lcmp X82 hx (D d11_76) rfl ?_
      exact Steps.refl _)
    by_cases hc84 : (lcmpW (v80 - (if lcmpW (0 : Int64) y < 0 then y else (0 : Int64))) (65536 : Int64)) < (0 : Int32)
    · obtain ⟨T85, X85, e85, st85⟩ := getF X82 hx hZ hown (host := "") (Or.inl (wd 49 rfl)) Via.refl e82 f69 (g := (mkF m 82 #[.val (.ref kq), .val (.long y), .second] [(.ref kq), (.ref kq)])) rfl rfl (D d11_82)
      have f86 := (J2_22.other W42 (ne9_0 NDp))
      have f87 := (J2_16.other W42 (Or.inl (ne8_0 NDp)))
      have f88 := (J2_18.other W42 (Or.inl (ne8_0 NDp)))
      have f89 := (J2_0.wr W42)
      have f90 := (J2_21.other W42 (ne11_0 NDp))
      obtain ⟨cq91, kq91, q91a, q91b, q91c⟩ := isOf hZ e85 f71
      obtain ⟨_, _, ⟨T91, L91, k91, n91⟩, -, X91, ⟨Lc91, hQ91, l91, y91, z91⟩, st91⟩ := X85.virtualBack hx (y := (⟨cH, "poll", "()I"⟩ : MethodName)) (z := (⟨cH, "poll", "()I"⟩ : MethodName)) hown (mvT hZ (wd 150 rfl)) (mvT hZ (wd 151 rfl)) (notFace_of_selects (args := #[]) (mvT hZ (wd 153 rfl))) (mvT hZ (wd 153 rfl)) (mvT hZ (wd 152 rfl)) (by decide) (own_backH (W := 1) (rm_hpoll l Z a0 hw [] hp kq aF aO aW aK aB aA aI lo aE aP cK kK kE kP (1 : Int32) en0 en1 po0 po1 h42 n0 O42 f71 f87 f77 f88 f72 f89 f74 MDc f78 f90 g_hp g_aE g_aP NDp KI0.1 (by decide) f81 f86) hZH (wd 154 rfl) (wd 33 rfl) (by decide) (by decide)) q91a q91c (g := (mkF m 85 #[.val (.ref kq), .val (.long y), .second] [(.ref hp), (.ref kq)])) rfl (by rw [hml]; rfl) (Steps.refl _) (argsL := []) (rest := [(.ref kq)]) (lenOf pd_5 rfl) rfl (by show 2 * 0 + _ ≤ _; exact Nat.le_of_eq rfl) (D d11_85) (fun _ _ => ⟨rfl, e85, (by decide : 0 + 0 ≤ _), (by decide : 0 + 0 ≤ _)⟩)
      dsimp only [Pt.U, Pt.locs, Pt.cells, Pt.slots] at X91 l91 y91 z91 st91 hQ91
      subst l91 y91 z91
      obtain ⟨ve0_91, ve1_91, vp0_91, vp1_91, rfl, N91q, K91, Q91_0, Q91_1, Q91_2, Q91_3, Q91_4, Q91_5, Q91_6⟩ := hQ91
      have O91 := O42.keep K91 (allS g_hp (allS g_aE (allS g_aP all0)))
      have KK91 : Keep h0 T91.heap [kq, aB, aA, aI, aF, aO, aW, hp, aE, aP] := K42.trans K91 (allS (own_mem 7 rfl) (allS (own_mem 8 rfl) (allS (own_mem 9 rfl) all0)))
      have N91 := Fr.app N79 N91q
      have f92 := (f81.keep K91 (nn93 NDp))
      have f93 := ((Vp35.other W42 (ne5_0 NDp)).keep K91 (nn94 NDp))
      have f94 := ((Vp36.other W42 (ne6_0 NDp)).keep K91 (nn95 NDp))
      have f95 := ((Vp37.other W42 (ne1_0 NDp)).keep K91 (nn68 NDp))
      have f96 := ((Vp38.other W42 (ne2_0 NDp)).keep K91 (nn69 NDp))
      have f97 := ((Vp39.other W42 (ne3_0 NDp)).keep K91 (nn70 NDp))
      have f98 := (f89.keep K91)
      have f99 := (f74.keep K91 (nn66 NDp))
      have f100 := ((J2_2.other W42 (Or.inr (slot_ne (Or.inr (wd 21 rfl)) (Or.inl (wd 72 rfl)) (by decide) (t := (.array .int)) (t' := .long) (by decide) (by decide)))).keep K91 (nn66 NDp))
      have f101 := ((J2_3.other W42 (Or.inr (slot_ne (Or.inr (wd 23 rfl)) (Or.inl (wd 72 rfl)) (by decide) (t := (.array .int)) (t' := .long) (by decide) (by decide)))).keep K91 (nn66 NDp))
      have f102 := ((J2_4.other W42 (Or.inr (slot_ne (Or.inr (wd 26 rfl)) (Or.inl (wd 72 rfl)) (by decide) (t := (.array .boolean)) (t' := .long) (by decide) (by decide)))).keep K91 (nn66 NDp))
      have f103 := ((J2_5.other W42 (Or.inr (slot_ne (Or.inr (wd 12 rfl)) (Or.inl (wd 72 rfl)) (by decide) (t := (.array .int)) (t' := .long) (by decide) (by decide)))).keep K91 (nn66 NDp))
      have f104 := ((J2_6.other W42 (Or.inr (slot_ne (Or.inr (wd 15 rfl)) (Or.inl (wd 72 rfl)) (by decide) (t := (.array .long)) (t' := .long) (by decide) (by decide)))).keep K91 (nn66 NDp))
      have f105 := ((J2_7.other W42 (Or.inr (slot_ne (Or.inr (wd 17 rfl)) (Or.inl (wd 72 rfl)) (by decide) (t := (.array .long)) (t' := .long) (by decide) (by decide)))).keep K91 (nn66 NDp))
      have f106 := (f69.keep K91 (nn66 NDp))
      have f107 := ((J2_9.other W42 (Or.inr (slot_ne (Or.inl (wd 57 rfl)) (Or.inl (wd 72 rfl)) (by decide) (t := .int) (t' := .long) (by decide) (by decide)))).keep K91 (nn66 NDp))
      have f108 := (Fw42.keep K91 (nn66 NDp))
      have f109 := ((J2_14.other W42 (ne7_0 NDp)).keep K91 (nn67 NDp))
      obtain ⟨cq110, q110, q110'⟩ := f98.cell
      obtain ⟨_, _, ⟨T110, L110, k110, n110⟩, -, X110, ⟨Lc110, hQ110, l110, y110, z110⟩, st110⟩ := X91.privateBack hx (y := (⟨cQ, "link", "(I)V"⟩ : MethodName)) hown (mvT hZ (wd 84 rfl)) (mvT hZ (wd 85 rfl)) (own_selpriv (y := (⟨cQ, "link", "(I)V"⟩ : MethodName)) (mvT hZ (wd 54 rfl)) rfl (Cond.privateMethod_at (mvP hZ (wd 86 rfl) (args := #[]))) (mvT hZ (wd 85 rfl)) (by decide)) (Cond.privateMethod_at (mvP hZ (wd 86 rfl) (args := #[]))) (mvT hZ (wd 87 rfl)) (by decide) (own_backH (W := 0) (rm_klink2 l Z a0 hw [] kq en0 aF aO aW aK aB aA aI hp lo aE aP kK kB kA kI kF kO kW bk ib0 ib1 (if lcmpW (0 : Int64) y < 0 then y else (0 : Int64)) T91.heap n0 O91 f98 f99 f100 f101 f102 f103 f104 f105 f106 f107 f108 f109 NDp ((own_first KI0.1 (by decide : ¬ ((1 : Int32) = (0 : Int32)))).1) g_kq g_aB g_aA g_aI g_aF g_aO g_aW f92 f93 f94 f95 f96 f97) hZH (wd 87 rfl) (wd 2 rfl) (by decide) (by decide)) (g := (mkF m 88 #[.val (.ref kq), .val (.long y), .second] [(.int en0), (.ref kq)])) rfl (by rw [hml]; rfl) (Steps.refl _) (a := kq) (by exact q110) q110' (argsL := [(.int en0)]) (rest := []) (lenOf pd_4 rfl) rfl (by show 2 * 0 + _ ≤ _; exact Nat.le_of_eq rfl) (D d11_88) (fun _ _ => ⟨rfl, rfl, (by decide : 0 + 0 ≤ _), (by decide : 0 + 0 ≤ _)⟩)
      dsimp only [Pt.U, Pt.locs, Pt.cells, Pt.slots] at X110 l110 y110 z110 st110 hQ110
      subst l110 y110 z110
      obtain ⟨rfl, N110q, K110, Q110_0, Q110_1, Q110_2, Q110_3, Q110_4, Q110_5, Q110_6, Q110_7, Q110_8, Q110_9, Q110_10, Q110_11, Q110_12, Q110_13, Q110_14, Q110_15⟩ := hQ110
      have O110 := O91.keep K110 (allS g_kq (allS g_aB (allS g_aA (allS g_aI (allS g_aF (allS g_aO (allS g_aW all0)))))))
      have KK110 : Keep h0 T110.heap [kq, aB, aA, aI, aF, aO, aW, hp, aE, aP] := KK91.trans K110 (allS (own_mem 0 rfl) (allS (own_mem 1 rfl) (allS (own_mem 2 rfl) (allS (own_mem 3 rfl) (allS (own_mem 4 rfl) (allS (own_mem 5 rfl) (allS (own_mem 6 rfl) all0)))))))
      have N110 := Fr.app N91 N110q
      have kj111 := own_kq KI0 (own_first KI0.1 (by decide : ¬ ((1 : Int32) = (0 : Int32)))).1 (own_first KI0.1 (by decide : ¬ ((1 : Int32) = (0 : Int32)))).2 Q91_6
      obtain ⟨T112, X112, e112, st112⟩ := getF X110 hx hZ hown (host := "") (Or.inl (wd 49 rfl)) Via.refl rfl Q110_7 (g := (mkF m 47 #[.val (.ref kq), .val (.long y), .second] [(.ref kq)])) rfl rfl (D d11_47)
      have f113 := ((f71.keep K91).keep K110)
      have f114 := (Q91_3.keep K110 (nn86 NDp))
      obtain ⟨cq115, kq115, q115a, q115b, q115c⟩ := isOf hZ e112 f113
      obtain ⟨_, _, ⟨T115, L115, k115, n115⟩, -, X115, ⟨Lc115, hQ115, l115, y115, z115⟩, st115⟩ := X112.virtualBack hx (y := (⟨cH, "isEmpty", "()Z"⟩ : MethodName)) (z := (⟨cH, "isEmpty", "()Z"⟩ : MethodName)) hown (mvT hZ (wd 58 rfl)) (mvT hZ (wd 59 rfl)) (notFace_of_selects (args := #[]) (mvT hZ (wd 61 rfl))) (mvT hZ (wd 61 rfl)) (mvT hZ (wd 60 rfl)) (by decide) (own_backH (W := 0) (rm_hisEmpty l Z a0 hw [] hp ((1 : Int32) - (1 : Int32)) T110.heap n0 O110 f113 f114) hZH (wd 62 rfl) (wd 33 rfl) (by decide) (by decide)) q115a q115c (g := (mkF m 50 #[.val (.ref kq), .val (.long y), .second] [(.ref hp)])) rfl (by rw [hml]; rfl) (Steps.refl _) (argsL := []) (rest := []) (lenOf pd_6 rfl) rfl (by show 2 * 0 + _ ≤ _; exact Nat.le_of_eq rfl) (D d11_50) (fun _ _ => ⟨rfl, e112, (by decide : 0 + 0 ≤ _), (by decide : 0 + 0 ≤ _)⟩)
      dsimp only [Pt.U, Pt.locs, Pt.cells, Pt.slots] at X115 l115 y115 z115 st115 hQ115
      subst l115 y115 z115
      obtain ⟨rfl, N115q, e115⟩ := hQ115
      have N115 := Fr.app N110 N115q
      have f116 := (f92.keep K110 (nn84 NDp))
      have f117 := (Q91_0.keep K110 (nn86 NDp))
      have f118 := (Q91_1.keep K110 (nn86 NDp))
      have f119 := (Q91_2.keep K110 (nn86 NDp))
      have f120 := (Q91_4.keep K110 (nn88 NDp))
      have f121 := (Q91_5.keep K110 (nn90 NDp))
      obtain ⟨fs, hr, hrun, hended, hW, hsame⟩ := X115.leave (v := none) (fun _ => rfl)
      refine ⟨_, _, pre0 _ ?_, hrun, hended, _, _, rfl, ?_, ⟨_, rfl⟩, hW, hsame.mono (by decide) (by decide)⟩
      · refine cs83.trans ?_
        refine s_ifNo X82 hx (D d11_77) ((if0 _ _).trans (tlt hc84).2.1) ?_
        refine s_aloadN X82 hx (D d11_80) rfl rfl ?_
        refine s_aloadN X82 hx (D d11_81) rfl rfl ?_
        refine st85 _ ?_
        refine st91.trans ?_
        refine st110.trans ?_
        refine s_goto X110 hx 46 (D d11_91) (of_decide_eq_true rfl) rfl ?_
        refine s_aloadN X110 hx (D d11_46) rfl rfl ?_
        refine st112 _ ?_
        refine st115.trans ?_
        refine s_ifYes X115 hx 94 (D d11_53) ((if0 _ _).trans (feq (by decide : ¬ ((if ((1 : Int32) - (1 : Int32)) = (0 : Int32) then (1 : Int32) else (0 : Int32)) = (0 : Int32)))).2) (of_decide_eq_true rfl) rfl ?_
        exact X115.returnOut hx Bd.returns (D d11_94) hr
      · show Q_rm_kraiseFloor Z kq y aF aO aW aK aB aA aI hp lo aE aP cK kK kB kA kI kF kO kW kE kP bk ib0 ib1 bf0 bf1 af0 af1 (1 : Int32) en0 en1 po0 po1 mm0 mm1 kk0 kk1 fF fO fW h0 n0 _ T115.heap _
        rw [e115]
        exact ⟨ve0_91, ve1_91, vp0_91, vp1_91, ((1 : Int32) - (1 : Int32)), (bk + (1 : Int32)), (s2 en0 0 (1 : Int32) ib0), (s2 en0 1 (1 : Int32) ib1), (if lcmpW (0 : Int64) y < 0 then y else (0 : Int64)), rfl, N115, KK110, Q110_0, Q110_1, Q110_2, Q110_3, Q110_4, Q110_5, Q110_6, Q110_7, Q110_8, Q110_9, f116, Q110_10, Q110_11, Q110_12, Q110_13, Q110_14, Q110_15, f117, f118, f119, f114, f120, f121, kj111⟩
    · have f122 := (J2_2.other W42 (Or.inr (slot_ne (Or.inr (wd 21 rfl)) (Or.inl (wd 72 rfl)) (by decide) (t := (.array .int)) (t' := .long) (by decide) (by decide))))
      have f123 := (J2_3.other W42 (Or.inr (slot_ne (Or.inr (wd 23 rfl)) (Or.inl (wd 72 rfl)) (by decide) (t := (.array .int)) (t' := .long) (by decide) (by decide))))
      have f124 := (J2_4.other W42 (Or.inr (slot_ne (Or.inr (wd 26 rfl)) (Or.inl (wd 72 rfl)) (by decide) (t := (.array .boolean)) (t' := .long) (by decide) (by decide))))
      have f125 := (J2_5.other W42 (Or.inr (slot_ne (Or.inr (wd 12 rfl)) (Or.inl (wd 72 rfl)) (by decide) (t := (.array .int)) (t' := .long) (by decide) (by decide))))
      have f126 := (J2_6.other W42 (Or.inr (slot_ne (Or.inr (wd 15 rfl)) (Or.inl (wd 72 rfl)) (by decide) (t := (.array .long)) (t' := .long) (by decide) (by decide))))
      have f127 := (J2_7.other W42 (Or.inr (slot_ne (Or.inr (wd 17 rfl)) (Or.inl (wd 72 rfl)) (by decide) (t := (.array .long)) (t' := .long) (by decide) (by decide))))
      have f128 := (J2_9.other W42 (Or.inr (slot_ne (Or.inl (wd 57 rfl)) (Or.inl (wd 72 rfl)) (by decide) (t := .int) (t' := .long) (by decide) (by decide))))
      have f129 := (Vp35.other W42 (ne5_0 NDp))
      have f130 := (Vp36.other W42 (ne6_0 NDp))
      have f131 := (J2_14.other W42 (ne7_0 NDp))
      have f132 := (Vp37.other W42 (ne1_0 NDp))
      have f133 := (Vp38.other W42 (ne2_0 NDp))
      have f134 := (Vp39.other W42 (ne3_0 NDp))
      have f135 := (J2_16.other W42 (Or.inl (ne8_0 NDp)))
      have f136 := (J2_18.other W42 (Or.inl (ne8_0 NDp)))
      have f137 := (J2_21.other W42 (ne11_0 NDp))
      obtain ⟨fs, hr, hrun, hended, hW, hsame⟩ := X82.leave (v := none) (fun _ => rfl)
      refine ⟨_, _, pre0 _ ?_, hrun, hended, _, _, rfl, ?_, ⟨_, rfl⟩, hW, hsame.mono (by decide) (by decide)⟩
      · refine cs83.trans ?_
        refine s_ifYes X82 hx 94 (D d11_77) ((if0 _ _).trans (flt hc84).2.1) (of_decide_eq_true rfl) rfl ?_
        exact X82.returnOut hx Bd.returns (D d11_94) hr
      · show Q_rm_kraiseFloor Z kq y aF aO aW aK aB aA aI hp lo aE aP cK kK kB kA kI kF kO kW kE kP bk ib0 ib1 bf0 bf1 af0 af1 (1 : Int32) en0 en1 po0 po1 mm0 mm1 kk0 kk1 fF fO fW h0 n0 _ T82.heap _
        rw [e82]
        exact ⟨en0, en1, po0, po1, (1 : Int32), bk, ib0, ib1, (if lcmpW (0 : Int64) y < 0 then y else (0 : Int64)), rfl, N79, K42, f74, f122, f123, f124, f125, f126, f127, f69, f128, Fw42, f81, f129, f130, f131, f132, f133, f134, f135, f77, f136, f72, f78, f137, KI0⟩
  · have f138 := (J2_8.other W42 (Or.inr (slot_ne (Or.inr (wd 50 rfl)) (Or.inl (wd 72 rfl)) (by decide) (t := (.object cH)) (t' := .long) (by decide) (by decide))))
    obtain ⟨T139, X139, e139, st139⟩ := getF X42 hx hZ hown (host := "") (Or.inl (wd 49 rfl)) Via.refl e42 f138 (g := (mkF m 47 #[.val (.ref kq), .val (.long y), .second] [(.ref kq)])) rfl rfl (D d11_47)
    have f140 := (J2_15.wr W42)
    have f141 := (J2_19.other W42 (Or.inl (ne8_0 NDp)))
    obtain ⟨cq142, kq142, q142a, q142b, q142c⟩ := isOf hZ e139 f140
    obtain ⟨_, _, ⟨T142, L142, k142, n142⟩, -, X142, ⟨Lc142, hQ142, l142, y142, z142⟩, st142⟩ := X139.virtualBack hx (y := (⟨cH, "isEmpty", "()Z"⟩ : MethodName)) (z := (⟨cH, "isEmpty", "()Z"⟩ : MethodName)) hown (mvT hZ (wd 58 rfl)) (mvT hZ (wd 59 rfl)) (notFace_of_selects (args := #[]) (mvT hZ (wd 61 rfl))) (mvT hZ (wd 61 rfl)) (mvT hZ (wd 60 rfl)) (by decide) (own_backH (W := 0) (rm_hisEmpty l Z a0 hw [] hp (2 : Int32) h42 n0 O42 f140 f141) hZH (wd 62 rfl) (wd 33 rfl) (by decide) (by decide)) q142a q142c (g := (mkF m 50 #[.val (.ref kq), .val (.long y), .second] [(.ref hp)])) rfl (by rw [hml]; rfl) (Steps.refl _) (argsL := []) (rest := []) (lenOf pd_6 rfl) rfl (by show 2 * 0 + _ ≤ _; exact Nat.le_of_eq rfl) (D d11_50) (fun _ _ => ⟨rfl, e139, (by decide : 0 + 0 ≤ _), (by decide : 0 + 0 ≤ _)⟩)
    dsimp only [Pt.U, Pt.locs, Pt.cells, Pt.slots] at X142 l142 y142 z142 st142 hQ142
    subst l142 y142 z142
    obtain ⟨rfl, N142q, e142⟩ := hQ142
    have N142 := Fr.app N42 N142q
    have f143 := (J2_1.other W42 (Or.inr (slot_ne (Or.inr (wd 19 rfl)) (Or.inl (wd 72 rfl)) (by decide) (t := (.array .long)) (t' := .long) (by decide) (by decide))))
    obtain ⟨T144, X144, e144, st144⟩ := getF X142 hx hZ hown (host := "") (Or.inl (wd 18 rfl)) Via.refl e142 f143 (g := (mkF m 57 #[.val (.ref kq), .val (.long y), .second] [(.ref kq)])) rfl rfl (D d11_57)
    obtain ⟨T145, X145, e145, st145⟩ := getF X144 hx hZ hown (host := "") (Or.inl (wd 49 rfl)) Via.refl e144 f138 (g := (mkF m 61 #[.val (.ref kq), .val (.long y), .second] [(.ref kq), (.ref aK)])) rfl rfl (D d11_61)
    have f146 := (J2_17.other W42 (Or.inl (ne8_0 NDp)))
    have f147 := (J2_20.other W42 (ne10_0 NDp))
    obtain ⟨cq148, kq148, q148a, q148b, q148c⟩ := isOf hZ e145 f140
    obtain ⟨_, _, ⟨T148, L148, k148, n148⟩, -, X148, ⟨Lc148, hQ148, l148, y148, z148⟩, st148⟩ := X145.virtualBack hx (y := (⟨cH, "first", "()I"⟩ : MethodName)) (z := (⟨cH, "first", "()I"⟩ : MethodName)) hown (mvT hZ (wd 145 rfl)) (mvT hZ (wd 146 rfl)) (notFace_of_selects (args := #[]) (mvT hZ (wd 148 rfl))) (mvT hZ (wd 148 rfl)) (mvT hZ (wd 147 rfl)) (by decide) (own_backH (W := 1) (rm_hfirst l Z a0 hw [] hp aE kE (2 : Int32) en0 en1 h42 n0 O42 f140 f146 f141 f147 (by decide)) hZH (wd 149 rfl) (wd 33 rfl) (by decide) (by decide)) q148a q148c (g := (mkF m 64 #[.val (.ref kq), .val (.long y), .second] [(.ref hp), (.ref aK)])) rfl (by rw [hml]; rfl) (Steps.refl _) (argsL := []) (rest := [(.ref aK)]) (lenOf pd_5 rfl) rfl (by show 2 * 0 + _ ≤ _; exact Nat.le_of_eq rfl) (D d11_64) (fun _ _ => ⟨rfl, e145, (by decide : 0 + 0 ≤ _), (by decide : 0 + 0 ≤ _)⟩)
    dsimp only [Pt.U, Pt.locs, Pt.cells, Pt.slots] at X148 l148 y148 z148 st148 hQ148
    subst l148 y148 z148
    obtain ⟨rfl, N148q, e148⟩ := hQ148
    have N148 := Fr.app N142 N148q
    have f150 := (Vp34.other W42 (ne4_0 NDp))
    obtain ⟨cl149, Ar149, q149, S149, Nn149, H149, -⟩ := id f150
    have hin149 : ¬ (en0 < 0 ∨ cl149.slots.size ≤ (en0).toNatClampNeg) := inb_of S149 (own_in2 (own_first KI0.1 (by decide : ¬ ((2 : Int32) = (0 : Int32)))).1)
    obtain ⟨_, hat149, v149, rfl⟩ := Arp.get H149 hin149
    have C149 : Elt h42 aK (en0).toNatClampNeg (.long v149) := ⟨cl149, Ar149.1, hat149⟩
    obtain ⟨T151, X151, e151, st151⟩ := getF X148 hx hZ hown (host := "") (Or.inl (wd 71 rfl)) Via.refl e148 Fw42 (g := (mkF m 69 #[.val (.ref kq), .val (.long y), .second] [(.ref kq), (.long v149)])) rfl rfl (D d11_69)
    have cs152 : Steps p.tables e below (s₁.setTop (mkF m 0 #[.val (.ref kq), .val (.long y), .second] [])) (T151.setTop (mkF m 77 #[.val (.ref kq), .val (.long y), .second] [(.int (lcmpW (v149 - (if lcmpW (0 : Int64) y < 0 then y else (0 : Int64))) (65536 : Int64)))])) := cs43.trans (by
      refine s_aloadN X42 hx (D d11_46) rfl rfl ?_
      refine st139 _ ?_
      refine st142.trans ?_
      refine s_ifNo X142 hx (D d11_53) ((if0 _ _).trans (teq (by decide : (if (2 : Int32) = (0 : Int32) then (1 : Int32) else (0 : Int32)) = (0 : Int32))).2) ?_
      refine s_aloadN X142 hx (D d11_56) rfl rfl ?_
      refine st144 _ ?_
      refine s_aloadN X144 hx (D d11_60) rfl rfl ?_
      refine st145 _ ?_
      refine st148.trans ?_
      refine X148.laload hx (j := en0) (v := (.long v149)) (by rw [e148]; exact (Ar149).1) (State.isArrayOf_alike hZ.alike (Ar149).2.1) (Ar149).2.2 hin149 hat149 (g := (mkF m 67 #[.val (.ref kq), .val (.long y), .second] [(.int en0), (.ref aK)])) rfl rfl (D d11_67) _ ?_
      refine s_aloadN X148 hx (D d11_68) rfl rfl ?_
      refine st151 _ ?_
      refine s_lsub X151 hx (D d11_72) rfl ?_
      refine X151.ldc2Long hx hown (mvT hZ (wd 83 rfl)) (g := (mkF m 73 #[.val (.ref kq), .val (.long y), .second] [(.long (v149 - (if lcmpW (0 : Int64) y < 0 then y else (0 : Int64))))])) rfl (D d11_73) _ ?_
      refine s_lcmp X151 hx (D d11_76) rfl ?_
      exact Steps.refl _)
    by_cases hc153 : (lcmpW (v149 - (if lcmpW (0 : Int64) y < 0 then y else (0 : Int64))) (65536 : Int64)) < (0 : Int32)
    · obtain ⟨T154, X154, e154, st154⟩ := getF X151 hx hZ hown (host := "") (Or.inl (wd 49 rfl)) Via.refl e151 f138 (g := (mkF m 82 #[.val (.ref kq), .val (.long y), .second] [(.ref kq), (.ref kq)])) rfl rfl (D d11_82)
      have f155 := (J2_22.other W42 (ne9_0 NDp))
      have f156 := (J2_16.other W42 (Or.inl (ne8_0 NDp)))
      have f157 := (J2_18.other W42 (Or.inl (ne8_0 NDp)))
      have f158 := (J2_0.wr W42)
      have f159 := (J2_21.other W42 (ne11_0 NDp))
      obtain ⟨cq160, kq160, q160a, q160b, q160c⟩ := isOf hZ e154 f140
      obtain ⟨_, _, ⟨T160, L160, k160, n160⟩, -, X160, ⟨Lc160, hQ160, l160, y160, z160⟩, st160⟩ := X154.virtualBack hx (y := (⟨cH, "poll", "()I"⟩ : MethodName)) (z := (⟨cH, "poll", "()I"⟩ : MethodName)) hown (mvT hZ (wd 150 rfl)) (mvT hZ (wd 151 rfl)) (notFace_of_selects (args := #[]) (mvT hZ (wd 153 rfl))) (mvT hZ (wd 153 rfl)) (mvT hZ (wd 152 rfl)) (by decide) (own_backH (W := 1) (rm_hpoll l Z a0 hw [] hp kq aF aO aW aK aB aA aI lo aE aP cK kK kE kP (2 : Int32) en0 en1 po0 po1 h42 n0 O42 f140 f156 f146 f157 f141 f158 f143 MDc f147 f159 g_hp g_aE g_aP NDp KI0.1 (by decide) f150 f155) hZH (wd 154 rfl) (wd 33 rfl) (by decide) (by decide)) q160a q160c (g := (mkF m 85 #[.val (.ref kq), .val (.long y), .second] [(.ref hp), (.ref kq)])) rfl (by rw [hml]; rfl) (Steps.refl _) (argsL := []) (rest := [(.ref kq)]) (lenOf pd_5 rfl) rfl (by show 2 * 0 + _ ≤ _; exact Nat.le_of_eq rfl) (D d11_85) (fun _ _ => ⟨rfl, e154, (by decide : 0 + 0 ≤ _), (by decide : 0 + 0 ≤ _)⟩)
      dsimp only [Pt.U, Pt.locs, Pt.cells, Pt.slots] at X160 l160 y160 z160 st160 hQ160
      subst l160 y160 z160
      obtain ⟨ve0_160, ve1_160, vp0_160, vp1_160, rfl, N160q, K160, Q160_0, Q160_1, Q160_2, Q160_3, Q160_4, Q160_5, Q160_6⟩ := hQ160
      have O160 := O42.keep K160 (allS g_hp (allS g_aE (allS g_aP all0)))
      have KK160 : Keep h0 T160.heap [kq, aB, aA, aI, aF, aO, aW, hp, aE, aP] := K42.trans K160 (allS (own_mem 7 rfl) (allS (own_mem 8 rfl) (allS (own_mem 9 rfl) all0)))
      have N160 := Fr.app N148 N160q
      have f161 := (f150.keep K160 (nn93 NDp))
      have f162 := ((Vp35.other W42 (ne5_0 NDp)).keep K160 (nn94 NDp))
      have f163 := ((Vp36.other W42 (ne6_0 NDp)).keep K160 (nn95 NDp))
      have f164 := ((Vp37.other W42 (ne1_0 NDp)).keep K160 (nn68 NDp))
      have f165 := ((Vp38.other W42 (ne2_0 NDp)).keep K160 (nn69 NDp))
      have f166 := ((Vp39.other W42 (ne3_0 NDp)).keep K160 (nn70 NDp))
      have f167 := (f158.keep K160)
      have f168 := (f143.keep K160 (nn66 NDp))
      have f169 := ((J2_2.other W42 (Or.inr (slot_ne (Or.inr (wd 21 rfl)) (Or.inl (wd 72 rfl)) (by decide) (t := (.array .int)) (t' := .long) (by decide) (by decide)))).keep K160 (nn66 NDp))
      have f170 := ((J2_3.other W42 (Or.inr (slot_ne (Or.inr (wd 23 rfl)) (Or.inl (wd 72 rfl)) (by decide) (t := (.array .int)) (t' := .long) (by decide) (by decide)))).keep K160 (nn66 NDp))
      have f171 := ((J2_4.other W42 (Or.inr (slot_ne (Or.inr (wd 26 rfl)) (Or.inl (wd 72 rfl)) (by decide) (t := (.array .boolean)) (t' := .long) (by decide) (by decide)))).keep K160 (nn66 NDp))
      have f172 := ((J2_5.other W42 (Or.inr (slot_ne (Or.inr (wd 12 rfl)) (Or.inl (wd 72 rfl)) (by decide) (t := (.array .int)) (t' := .long) (by decide) (by decide)))).keep K160 (nn66 NDp))
      have f173 := ((J2_6.other W42 (Or.inr (slot_ne (Or.inr (wd 15 rfl)) (Or.inl (wd 72 rfl)) (by decide) (t := (.array .long)) (t' := .long) (by decide) (by decide)))).keep K160 (nn66 NDp))
      have f174 := ((J2_7.other W42 (Or.inr (slot_ne (Or.inr (wd 17 rfl)) (Or.inl (wd 72 rfl)) (by decide) (t := (.array .long)) (t' := .long) (by decide) (by decide)))).keep K160 (nn66 NDp))
      have f175 := (f138.keep K160 (nn66 NDp))
      have f176 := ((J2_9.other W42 (Or.inr (slot_ne (Or.inl (wd 57 rfl)) (Or.inl (wd 72 rfl)) (by decide) (t := .int) (t' := .long) (by decide) (by decide)))).keep K160 (nn66 NDp))
      have f177 := (Fw42.keep K160 (nn66 NDp))
      have f178 := ((J2_14.other W42 (ne7_0 NDp)).keep K160 (nn67 NDp))
      obtain ⟨cq179, q179, q179'⟩ := f167.cell
      obtain ⟨_, _, ⟨T179, L179, k179, n179⟩, -, X179, ⟨Lc179, hQ179, l179, y179, z179⟩, st179⟩ := X160.privateBack hx (y := (⟨cQ, "link", "(I)V"⟩ : MethodName)) hown (mvT hZ (wd 84 rfl)) (mvT hZ (wd 85 rfl)) (own_selpriv (y := (⟨cQ, "link", "(I)V"⟩ : MethodName)) (mvT hZ (wd 54 rfl)) rfl (Cond.privateMethod_at (mvP hZ (wd 86 rfl) (args := #[]))) (mvT hZ (wd 85 rfl)) (by decide)) (Cond.privateMethod_at (mvP hZ (wd 86 rfl) (args := #[]))) (mvT hZ (wd 87 rfl)) (by decide) (own_backH (W := 0) (rm_klink2 l Z a0 hw [] kq en0 aF aO aW aK aB aA aI hp lo aE aP kK kB kA kI kF kO kW bk ib0 ib1 (if lcmpW (0 : Int64) y < 0 then y else (0 : Int64)) T160.heap n0 O160 f167 f168 f169 f170 f171 f172 f173 f174 f175 f176 f177 f178 NDp ((own_first KI0.1 (by decide : ¬ ((2 : Int32) = (0 : Int32)))).1) g_kq g_aB g_aA g_aI g_aF g_aO g_aW f161 f162 f163 f164 f165 f166) hZH (wd 87 rfl) (wd 2 rfl) (by decide) (by decide)) (g := (mkF m 88 #[.val (.ref kq), .val (.long y), .second] [(.int en0), (.ref kq)])) rfl (by rw [hml]; rfl) (Steps.refl _) (a := kq) (by exact q179) q179' (argsL := [(.int en0)]) (rest := []) (lenOf pd_4 rfl) rfl (by show 2 * 0 + _ ≤ _; exact Nat.le_of_eq rfl) (D d11_88) (fun _ _ => ⟨rfl, rfl, (by decide : 0 + 0 ≤ _), (by decide : 0 + 0 ≤ _)⟩)
      dsimp only [Pt.U, Pt.locs, Pt.cells, Pt.slots] at X179 l179 y179 z179 st179 hQ179
      subst l179 y179 z179
      obtain ⟨rfl, N179q, K179, Q179_0, Q179_1, Q179_2, Q179_3, Q179_4, Q179_5, Q179_6, Q179_7, Q179_8, Q179_9, Q179_10, Q179_11, Q179_12, Q179_13, Q179_14, Q179_15⟩ := hQ179
      have O179 := O160.keep K179 (allS g_kq (allS g_aB (allS g_aA (allS g_aI (allS g_aF (allS g_aO (allS g_aW all0)))))))
      have KK179 : Keep h0 T179.heap [kq, aB, aA, aI, aF, aO, aW, hp, aE, aP] := KK160.trans K179 (allS (own_mem 0 rfl) (allS (own_mem 1 rfl) (allS (own_mem 2 rfl) (allS (own_mem 3 rfl) (allS (own_mem 4 rfl) (allS (own_mem 5 rfl) (allS (own_mem 6 rfl) all0)))))))
      have N179 := Fr.app N160 N179q
      have kj180 := own_kq KI0 (own_first KI0.1 (by decide : ¬ ((2 : Int32) = (0 : Int32)))).1 (own_first KI0.1 (by decide : ¬ ((2 : Int32) = (0 : Int32)))).2 Q160_6
      obtain ⟨T181, X181, e181, st181⟩ := getF X179 hx hZ hown (host := "") (Or.inl (wd 49 rfl)) Via.refl rfl Q179_7 (g := (mkF m 47 #[.val (.ref kq), .val (.long y), .second] [(.ref kq)])) rfl rfl (D d11_47)
      have f182 := ((f140.keep K160).keep K179)
      have f183 := (Q160_3.keep K179 (nn86 NDp))
      obtain ⟨cq184, kq184, q184a, q184b, q184c⟩ := isOf hZ e181 f182
      obtain ⟨_, _, ⟨T184, L184, k184, n184⟩, -, X184, ⟨Lc184, hQ184, l184, y184, z184⟩, st184⟩ := X181.virtualBack hx (y := (⟨cH, "isEmpty", "()Z"⟩ : MethodName)) (z := (⟨cH, "isEmpty", "()Z"⟩ : MethodName)) hown (mvT hZ (wd 58 rfl)) (mvT hZ (wd 59 rfl)) (notFace_of_selects (args := #[]) (mvT hZ (wd 61 rfl))) (mvT hZ (wd 61 rfl)) (mvT hZ (wd 60 rfl)) (by decide) (own_backH (W := 0) (rm_hisEmpty l Z a0 hw [] hp ((2 : Int32) - (1 : Int32)) T179.heap n0 O179 f182 f183) hZH (wd 62 rfl) (wd 33 rfl) (by decide) (by decide)) q184a q184c (g := (mkF m 50 #[.val (.ref kq), .val (.long y), .second] [(.ref hp)])) rfl (by rw [hml]; rfl) (Steps.refl _) (argsL := []) (rest := []) (lenOf pd_6 rfl) rfl (by show 2 * 0 + _ ≤ _; exact Nat.le_of_eq rfl) (D d11_50) (fun _ _ => ⟨rfl, e181, (by decide : 0 + 0 ≤ _), (by decide : 0 + 0 ≤ _)⟩)
      dsimp only [Pt.U, Pt.locs, Pt.cells, Pt.slots] at X184 l184 y184 z184 st184 hQ184
      subst l184 y184 z184
      obtain ⟨rfl, N184q, e184⟩ := hQ184
      have N184 := Fr.app N179 N184q
      obtain ⟨T185, X185, e185, st185⟩ := getF X184 hx hZ hown (host := "") (Or.inl (wd 18 rfl)) Via.refl e184 Q179_0 (g := (mkF m 57 #[.val (.ref kq), .val (.long y), .second] [(.ref kq)])) rfl rfl (D d11_57)
      obtain ⟨T186, X186, e186, st186⟩ := getF X185 hx hZ hown (host := "") (Or.inl (wd 49 rfl)) Via.refl e185 Q179_7 (g := (mkF m 61 #[.val (.ref kq), .val (.long y), .second] [(.ref kq), (.ref aK)])) rfl rfl (D d11_61)
      have f187 := (Q160_1.keep K179 (nn86 NDp))
      have f188 := (Q160_4.keep K179 (nn88 NDp))
      obtain ⟨cq189, kq189, q189a, q189b, q189c⟩ := isOf hZ e186 f182
      obtain ⟨_, _, ⟨T189, L189, k189, n189⟩, -, X189, ⟨Lc189, hQ189, l189, y189, z189⟩, st189⟩ := X186.virtualBack hx (y := (⟨cH, "first", "()I"⟩ : MethodName)) (z := (⟨cH, "first", "()I"⟩ : MethodName)) hown (mvT hZ (wd 145 rfl)) (mvT hZ (wd 146 rfl)) (notFace_of_selects (args := #[]) (mvT hZ (wd 148 rfl))) (mvT hZ (wd 148 rfl)) (mvT hZ (wd 147 rfl)) (by decide) (own_backH (W := 1) (rm_hfirst l Z a0 hw [] hp aE kE ((2 : Int32) - (1 : Int32)) ve0_160 ve1_160 T179.heap n0 O179 f182 f187 f183 f188 (by decide)) hZH (wd 149 rfl) (wd 33 rfl) (by decide) (by decide)) q189a q189c (g := (mkF m 64 #[.val (.ref kq), .val (.long y), .second] [(.ref hp), (.ref aK)])) rfl (by rw [hml]; rfl) (Steps.refl _) (argsL := []) (rest := [(.ref aK)]) (lenOf pd_5 rfl) rfl (by show 2 * 0 + _ ≤ _; exact Nat.le_of_eq rfl) (D d11_64) (fun _ _ => ⟨rfl, e186, (by decide : 0 + 0 ≤ _), (by decide : 0 + 0 ≤ _)⟩)
      dsimp only [Pt.U, Pt.locs, Pt.cells, Pt.slots] at X189 l189 y189 z189 st189 hQ189
      subst l189 y189 z189
      obtain ⟨rfl, N189q, e189⟩ := hQ189
      have N189 := Fr.app N184 N189q
      have f191 := (f161.keep K179 (nn84 NDp))
      obtain ⟨cl190, Ar190, q190, S190, Nn190, H190, -⟩ := id f191
      have hin190 : ¬ (ve0_160 < 0 ∨ cl190.slots.size ≤ (ve0_160).toNatClampNeg) := inb_of S190 (own_in2 (own_first kj180.1 (by decide : ¬ (((2 : Int32) - (1 : Int32)) = (0 : Int32)))).1)
      obtain ⟨_, hat190, v190, rfl⟩ := Arp.get H190 hin190
      have C190 : Elt T179.heap aK (ve0_160).toNatClampNeg (.long v190) := ⟨cl190, Ar190.1, hat190⟩
      obtain ⟨T192, X192, e192, st192⟩ := getF X189 hx hZ hown (host := "") (Or.inl (wd 71 rfl)) Via.refl e189 Q179_9 (g := (mkF m 69 #[.val (.ref kq), .val (.long y), .second] [(.ref kq), (.long v190)])) rfl rfl (D d11_69)
      have cs193 : Steps p.tables e below (s₁.setTop (mkF m 0 #[.val (.ref kq), .val (.long y), .second] [])) (T192.setTop (mkF m 77 #[.val (.ref kq), .val (.long y), .second] [(.int (lcmpW (v190 - (if lcmpW (0 : Int64) y < 0 then y else (0 : Int64))) (65536 : Int64)))])) := cs152.trans (by
        refine s_ifNo X151 hx (D d11_77) ((if0 _ _).trans (tlt hc153).2.1) ?_
        refine s_aloadN X151 hx (D d11_80) rfl rfl ?_
        refine s_aloadN X151 hx (D d11_81) rfl rfl ?_
        refine st154 _ ?_
        refine st160.trans ?_
        refine st179.trans ?_
        refine s_goto X179 hx 46 (D d11_91) (of_decide_eq_true rfl) rfl ?_
        refine s_aloadN X179 hx (D d11_46) rfl rfl ?_
        refine st181 _ ?_
        refine st184.trans ?_
        refine s_ifNo X184 hx (D d11_53) ((if0 _ _).trans (teq (by decide : (if ((2 : Int32) - (1 : Int32)) = (0 : Int32) then (1 : Int32) else (0 : Int32)) = (0 : Int32))).2) ?_
        refine s_aloadN X184 hx (D d11_56) rfl rfl ?_
        refine st185 _ ?_
        refine s_aloadN X185 hx (D d11_60) rfl rfl ?_
        refine st186 _ ?_
        refine st189.trans ?_
        refine X189.laload hx (j := ve0_160) (v := (.long v190)) (by rw [e189]; exact (Ar190).1) (State.isArrayOf_alike hZ.alike (Ar190).2.1) (Ar190).2.2 hin190 hat190 (g := (mkF m 67 #[.val (.ref kq), .val (.long y), .second] [(.int ve0_160), (.ref aK)])) rfl rfl (D d11_67) _ ?_
        refine s_aloadN X189 hx (D d11_68) rfl rfl ?_
        refine st192 _ ?_
        refine s_lsub X192 hx (D d11_72) rfl ?_
        refine X192.ldc2Long hx hown (mvT hZ (wd 83 rfl)) (g := (mkF m 73 #[.val (.ref kq), .val (.long y), .second] [(.long (v190 - (if lcmpW (0 : Int64) y < 0 then y else (0 : Int64))))])) rfl (D d11_73) _ ?_
        refine s_lcmp X192 hx (D d11_76) rfl ?_
        exact Steps.refl _)
      by_cases hc194 : (lcmpW (v190 - (if lcmpW (0 : Int64) y < 0 then y else (0 : Int64))) (65536 : Int64)) < (0 : Int32)
      · obtain ⟨T195, X195, e195, st195⟩ := getF X192 hx hZ hown (host := "") (Or.inl (wd 49 rfl)) Via.refl e192 Q179_7 (g := (mkF m 82 #[.val (.ref kq), .val (.long y), .second] [(.ref kq), (.ref kq)])) rfl rfl (D d11_82)
        have f196 := ((f155.keep K160 (nn101 NDp)).keep K179 (nn102 NDp))
        have f197 := (Q160_0.keep K179 (nn86 NDp))
        have f198 := (Q160_2.keep K179 (nn86 NDp))
        have f199 := (f167.keep K179)
        have f200 := (Q160_5.keep K179 (nn90 NDp))
        obtain ⟨cq201, kq201, q201a, q201b, q201c⟩ := isOf hZ e195 f182
        obtain ⟨_, _, ⟨T201, L201, k201, n201⟩, -, X201, ⟨Lc201, hQ201, l201, y201, z201⟩, st201⟩ := X195.virtualBack hx (y := (⟨cH, "poll", "()I"⟩ : MethodName)) (z := (⟨cH, "poll", "()I"⟩ : MethodName)) hown (mvT hZ (wd 150 rfl)) (mvT hZ (wd 151 rfl)) (notFace_of_selects (args := #[]) (mvT hZ (wd 153 rfl))) (mvT hZ (wd 153 rfl)) (mvT hZ (wd 152 rfl)) (by decide) (own_backH (W := 1) (rm_hpoll l Z a0 hw [] hp kq aF aO aW aK aB aA aI lo aE aP cK kK kE kP ((2 : Int32) - (1 : Int32)) ve0_160 ve1_160 vp0_160 vp1_160 T179.heap n0 O179 f182 f197 f187 f198 f183 f199 Q179_0 MDc f188 f200 g_hp g_aE g_aP NDp kj180.1 (by decide) f191 f196) hZH (wd 154 rfl) (wd 33 rfl) (by decide) (by decide)) q201a q201c (g := (mkF m 85 #[.val (.ref kq), .val (.long y), .second] [(.ref hp), (.ref kq)])) rfl (by rw [hml]; rfl) (Steps.refl _) (argsL := []) (rest := [(.ref kq)]) (lenOf pd_5 rfl) rfl (by show 2 * 0 + _ ≤ _; exact Nat.le_of_eq rfl) (D d11_85) (fun _ _ => ⟨rfl, e195, (by decide : 0 + 0 ≤ _), (by decide : 0 + 0 ≤ _)⟩)
        dsimp only [Pt.U, Pt.locs, Pt.cells, Pt.slots] at X201 l201 y201 z201 st201 hQ201
        subst l201 y201 z201
        obtain ⟨ve0_201, ve1_201, vp0_201, vp1_201, rfl, N201q, K201, Q201_0, Q201_1, Q201_2, Q201_3, Q201_4, Q201_5, Q201_6⟩ := hQ201
        have O201 := O179.keep K201 (allS g_hp (allS g_aE (allS g_aP all0)))
        have KK201 : Keep h0 T201.heap [kq, aB, aA, aI, aF, aO, aW, hp, aE, aP] := KK179.trans K201 (allS (own_mem 7 rfl) (allS (own_mem 8 rfl) (allS (own_mem 9 rfl) all0)))
        have N201 := Fr.app N189 N201q
        have f202 := (f191.keep K201 (nn93 NDp))
        have f203 := (Q179_10.keep K201 (nn94 NDp))
        have f204 := (Q179_11.keep K201 (nn95 NDp))
        have f205 := (Q179_13.keep K201 (nn68 NDp))
        have f206 := (Q179_14.keep K201 (nn69 NDp))
        have f207 := (Q179_15.keep K201 (nn70 NDp))
        have f208 := (f199.keep K201)
        have f209 := (Q179_0.keep K201 (nn66 NDp))
        have f210 := (Q179_1.keep K201 (nn66 NDp))
        have f211 := (Q179_2.keep K201 (nn66 NDp))
        have f212 := (Q179_3.keep K201 (nn66 NDp))
        have f213 := (Q179_4.keep K201 (nn66 NDp))
        have f214 := (Q179_5.keep K201 (nn66 NDp))
        have f215 := (Q179_6.keep K201 (nn66 NDp))
        have f216 := (Q179_7.keep K201 (nn66 NDp))
        have f217 := (Q179_8.keep K201 (nn66 NDp))
        have f218 := (Q179_9.keep K201 (nn66 NDp))
        have f219 := (Q179_12.keep K201 (nn67 NDp))
        obtain ⟨cq220, q220, q220'⟩ := f208.cell
        obtain ⟨_, _, ⟨T220, L220, k220, n220⟩, -, X220, ⟨Lc220, hQ220, l220, y220, z220⟩, st220⟩ := X201.privateBack hx (y := (⟨cQ, "link", "(I)V"⟩ : MethodName)) hown (mvT hZ (wd 84 rfl)) (mvT hZ (wd 85 rfl)) (own_selpriv (y := (⟨cQ, "link", "(I)V"⟩ : MethodName)) (mvT hZ (wd 54 rfl)) rfl (Cond.privateMethod_at (mvP hZ (wd 86 rfl) (args := #[]))) (mvT hZ (wd 85 rfl)) (by decide)) (Cond.privateMethod_at (mvP hZ (wd 86 rfl) (args := #[]))) (mvT hZ (wd 87 rfl)) (by decide) (own_backH (W := 0) (rm_klink2 l Z a0 hw [] kq ve0_160 aF aO aW aK aB aA aI hp lo aE aP kK kB kA kI kF kO kW (bk + (1 : Int32)) (s2 en0 0 (1 : Int32) ib0) (s2 en0 1 (1 : Int32) ib1) (if lcmpW (0 : Int64) y < 0 then y else (0 : Int64)) T201.heap n0 O201 f208 f209 f210 f211 f212 f213 f214 f215 f216 f217 f218 f219 NDp ((own_first kj180.1 (by decide : ¬ (((2 : Int32) - (1 : Int32)) = (0 : Int32)))).1) g_kq g_aB g_aA g_aI g_aF g_aO g_aW f202 f203 f204 f205 f206 f207) hZH (wd 87 rfl) (wd 2 rfl) (by decide) (by decide)) (g := (mkF m 88 #[.val (.ref kq), .val (.long y), .second] [(.int ve0_160), (.ref kq)])) rfl (by rw [hml]; rfl) (Steps.refl _) (a := kq) (by exact q220) q220' (argsL := [(.int ve0_160)]) (rest := []) (lenOf pd_4 rfl) rfl (by show 2 * 0 + _ ≤ _; exact Nat.le_of_eq rfl) (D d11_88) (fun _ _ => ⟨rfl, rfl, (by decide : 0 + 0 ≤ _), (by decide : 0 + 0 ≤ _)⟩)
        dsimp only [Pt.U, Pt.locs, Pt.cells, Pt.slots] at X220 l220 y220 z220 st220 hQ220
        subst l220 y220 z220
        obtain ⟨rfl, N220q, K220, Q220_0, Q220_1, Q220_2, Q220_3, Q220_4, Q220_5, Q220_6, Q220_7, Q220_8, Q220_9, Q220_10, Q220_11, Q220_12, Q220_13, Q220_14, Q220_15⟩ := hQ220
        have O220 := O201.keep K220 (allS g_kq (allS g_aB (allS g_aA (allS g_aI (allS g_aF (allS g_aO (allS g_aW all0)))))))
        have KK220 : Keep h0 T220.heap [kq, aB, aA, aI, aF, aO, aW, hp, aE, aP] := KK201.trans K220 (allS (own_mem 0 rfl) (allS (own_mem 1 rfl) (allS (own_mem 2 rfl) (allS (own_mem 3 rfl) (allS (own_mem 4 rfl) (allS (own_mem 5 rfl) (allS (own_mem 6 rfl) all0)))))))
        have N220 := Fr.app N201 N220q
        have kj221 := own_kq kj180 (own_first kj180.1 (by decide : ¬ (((2 : Int32) - (1 : Int32)) = (0 : Int32)))).1 (own_first kj180.1 (by decide : ¬ (((2 : Int32) - (1 : Int32)) = (0 : Int32)))).2 Q201_6
        obtain ⟨T222, X222, e222, st222⟩ := getF X220 hx hZ hown (host := "") (Or.inl (wd 49 rfl)) Via.refl rfl Q220_7 (g := (mkF m 47 #[.val (.ref kq), .val (.long y), .second] [(.ref kq)])) rfl rfl (D d11_47)
        have f223 := ((f182.keep K201).keep K220)
        have f224 := (Q201_3.keep K220 (nn86 NDp))
        obtain ⟨cq225, kq225, q225a, q225b, q225c⟩ := isOf hZ e222 f223
        obtain ⟨_, _, ⟨T225, L225, k225, n225⟩, -, X225, ⟨Lc225, hQ225, l225, y225, z225⟩, st225⟩ := X222.virtualBack hx (y := (⟨cH, "isEmpty", "()Z"⟩ : MethodName)) (z := (⟨cH, "isEmpty", "()Z"⟩ : MethodName)) hown (mvT hZ (wd 58 rfl)) (mvT hZ (wd 59 rfl)) (notFace_of_selects (args := #[]) (mvT hZ (wd 61 rfl))) (mvT hZ (wd 61 rfl)) (mvT hZ (wd 60 rfl)) (by decide) (own_backH (W := 0) (rm_hisEmpty l Z a0 hw [] hp (((2 : Int32) - (1 : Int32)) - (1 : Int32)) T220.heap n0 O220 f223 f224) hZH (wd 62 rfl) (wd 33 rfl) (by decide) (by decide)) q225a q225c (g := (mkF m 50 #[.val (.ref kq), .val (.long y), .second] [(.ref hp)])) rfl (by rw [hml]; rfl) (Steps.refl _) (argsL := []) (rest := []) (lenOf pd_6 rfl) rfl (by show 2 * 0 + _ ≤ _; exact Nat.le_of_eq rfl) (D d11_50) (fun _ _ => ⟨rfl, e222, (by decide : 0 + 0 ≤ _), (by decide : 0 + 0 ≤ _)⟩)
        dsimp only [Pt.U, Pt.locs, Pt.cells, Pt.slots] at X225 l225 y225 z225 st225 hQ225
        subst l225 y225 z225
        obtain ⟨rfl, N225q, e225⟩ := hQ225
        have N225 := Fr.app N220 N225q
        have f226 := (f202.keep K220 (nn84 NDp))
        have f227 := (Q201_0.keep K220 (nn86 NDp))
        have f228 := (Q201_1.keep K220 (nn86 NDp))
        have f229 := (Q201_2.keep K220 (nn86 NDp))
        have f230 := (Q201_4.keep K220 (nn88 NDp))
        have f231 := (Q201_5.keep K220 (nn90 NDp))
        obtain ⟨fs, hr, hrun, hended, hW, hsame⟩ := X225.leave (v := none) (fun _ => rfl)
        refine ⟨_, _, pre0 _ ?_, hrun, hended, _, _, rfl, ?_, ⟨_, rfl⟩, hW, hsame.mono (by decide) (by decide)⟩
        · refine cs193.trans ?_
          refine s_ifNo X192 hx (D d11_77) ((if0 _ _).trans (tlt hc194).2.1) ?_
          refine s_aloadN X192 hx (D d11_80) rfl rfl ?_
          refine s_aloadN X192 hx (D d11_81) rfl rfl ?_
          refine st195 _ ?_
          refine st201.trans ?_
          refine st220.trans ?_
          refine s_goto X220 hx 46 (D d11_91) (of_decide_eq_true rfl) rfl ?_
          refine s_aloadN X220 hx (D d11_46) rfl rfl ?_
          refine st222 _ ?_
          refine st225.trans ?_
          refine s_ifYes X225 hx 94 (D d11_53) ((if0 _ _).trans (feq (by decide : ¬ ((if (((2 : Int32) - (1 : Int32)) - (1 : Int32)) = (0 : Int32) then (1 : Int32) else (0 : Int32)) = (0 : Int32)))).2) (of_decide_eq_true rfl) rfl ?_
          exact X225.returnOut hx Bd.returns (D d11_94) hr
        · show Q_rm_kraiseFloor Z kq y aF aO aW aK aB aA aI hp lo aE aP cK kK kB kA kI kF kO kW kE kP bk ib0 ib1 bf0 bf1 af0 af1 (2 : Int32) en0 en1 po0 po1 mm0 mm1 kk0 kk1 fF fO fW h0 n0 _ T225.heap _
          rw [e225]
          exact ⟨ve0_201, ve1_201, vp0_201, vp1_201, (((2 : Int32) - (1 : Int32)) - (1 : Int32)), ((bk + (1 : Int32)) + (1 : Int32)), (s2 ve0_160 0 (1 : Int32) (s2 en0 0 (1 : Int32) ib0)), (s2 ve0_160 1 (1 : Int32) (s2 en0 1 (1 : Int32) ib1)), (if lcmpW (0 : Int64) y < 0 then y else (0 : Int64)), rfl, N225, KK220, Q220_0, Q220_1, Q220_2, Q220_3, Q220_4, Q220_5, Q220_6, Q220_7, Q220_8, Q220_9, f226, Q220_10, Q220_11, Q220_12, Q220_13, Q220_14, Q220_15, f227, f228, f229, f224, f230, f231, kj221⟩
      · have f232 := (Q160_0.keep K179 (nn86 NDp))
        have f233 := (Q160_2.keep K179 (nn86 NDp))
        have f234 := (Q160_5.keep K179 (nn90 NDp))
        obtain ⟨fs, hr, hrun, hended, hW, hsame⟩ := X192.leave (v := none) (fun _ => rfl)
        refine ⟨_, _, pre0 _ ?_, hrun, hended, _, _, rfl, ?_, ⟨_, rfl⟩, hW, hsame.mono (by decide) (by decide)⟩
        · refine cs193.trans ?_
          refine s_ifYes X192 hx 94 (D d11_77) ((if0 _ _).trans (flt hc194).2.1) (of_decide_eq_true rfl) rfl ?_
          exact X192.returnOut hx Bd.returns (D d11_94) hr
        · show Q_rm_kraiseFloor Z kq y aF aO aW aK aB aA aI hp lo aE aP cK kK kB kA kI kF kO kW kE kP bk ib0 ib1 bf0 bf1 af0 af1 (2 : Int32) en0 en1 po0 po1 mm0 mm1 kk0 kk1 fF fO fW h0 n0 _ T192.heap _
          rw [e192]
          exact ⟨ve0_160, ve1_160, vp0_160, vp1_160, ((2 : Int32) - (1 : Int32)), (bk + (1 : Int32)), (s2 en0 0 (1 : Int32) ib0), (s2 en0 1 (1 : Int32) ib1), (if lcmpW (0 : Int64) y < 0 then y else (0 : Int64)), rfl, N189, KK179, Q179_0, Q179_1, Q179_2, Q179_3, Q179_4, Q179_5, Q179_6, Q179_7, Q179_8, Q179_9, f191, Q179_10, Q179_11, Q179_12, Q179_13, Q179_14, Q179_15, f232, f187, f233, f183, f188, f234, kj180⟩
    · have f235 := (J2_2.other W42 (Or.inr (slot_ne (Or.inr (wd 21 rfl)) (Or.inl (wd 72 rfl)) (by decide) (t := (.array .int)) (t' := .long) (by decide) (by decide))))
      have f236 := (J2_3.other W42 (Or.inr (slot_ne (Or.inr (wd 23 rfl)) (Or.inl (wd 72 rfl)) (by decide) (t := (.array .int)) (t' := .long) (by decide) (by decide))))
      have f237 := (J2_4.other W42 (Or.inr (slot_ne (Or.inr (wd 26 rfl)) (Or.inl (wd 72 rfl)) (by decide) (t := (.array .boolean)) (t' := .long) (by decide) (by decide))))
      have f238 := (J2_5.other W42 (Or.inr (slot_ne (Or.inr (wd 12 rfl)) (Or.inl (wd 72 rfl)) (by decide) (t := (.array .int)) (t' := .long) (by decide) (by decide))))
      have f239 := (J2_6.other W42 (Or.inr (slot_ne (Or.inr (wd 15 rfl)) (Or.inl (wd 72 rfl)) (by decide) (t := (.array .long)) (t' := .long) (by decide) (by decide))))
      have f240 := (J2_7.other W42 (Or.inr (slot_ne (Or.inr (wd 17 rfl)) (Or.inl (wd 72 rfl)) (by decide) (t := (.array .long)) (t' := .long) (by decide) (by decide))))
      have f241 := (J2_9.other W42 (Or.inr (slot_ne (Or.inl (wd 57 rfl)) (Or.inl (wd 72 rfl)) (by decide) (t := .int) (t' := .long) (by decide) (by decide))))
      have f242 := (Vp35.other W42 (ne5_0 NDp))
      have f243 := (Vp36.other W42 (ne6_0 NDp))
      have f244 := (J2_14.other W42 (ne7_0 NDp))
      have f245 := (Vp37.other W42 (ne1_0 NDp))
      have f246 := (Vp38.other W42 (ne2_0 NDp))
      have f247 := (Vp39.other W42 (ne3_0 NDp))
      have f248 := (J2_16.other W42 (Or.inl (ne8_0 NDp)))
      have f249 := (J2_18.other W42 (Or.inl (ne8_0 NDp)))
      have f250 := (J2_21.other W42 (ne11_0 NDp))
      obtain ⟨fs, hr, hrun, hended, hW, hsame⟩ := X151.leave (v := none) (fun _ => rfl)
      refine ⟨_, _, pre0 _ ?_, hrun, hended, _, _, rfl, ?_, ⟨_, rfl⟩, hW, hsame.mono (by decide) (by decide)⟩
      · refine cs152.trans ?_
        refine s_ifYes X151 hx 94 (D d11_77) ((if0 _ _).trans (flt hc153).2.1) (of_decide_eq_true rfl) rfl ?_
        exact X151.returnOut hx Bd.returns (D d11_94) hr
      · show Q_rm_kraiseFloor Z kq y aF aO aW aK aB aA aI hp lo aE aP cK kK kB kA kI kF kO kW kE kP bk ib0 ib1 bf0 bf1 af0 af1 (2 : Int32) en0 en1 po0 po1 mm0 mm1 kk0 kk1 fF fO fW h0 n0 _ T151.heap _
        rw [e151]
        exact ⟨en0, en1, po0, po1, (2 : Int32), bk, ib0, ib1, (if lcmpW (0 : Int64) y < 0 then y else (0 : Int64)), rfl, N148, K42, f143, f235, f236, f237, f238, f239, f240, f138, f241, Fw42, f150, f242, f243, f244, f245, f246, f247, f248, f146, f249, f141, f147, f250, KI0⟩
theorem d4_0 : decode prog_35_method_1_code 0 = .ok (.aload_n 0, 1) := by decide +kernel
theorem d4_1 : decode prog_35_method_1_code 1 = .ok (.invokespecial 1, 3) := by decide +kernel
theorem d4_4 : decode prog_35_method_1_code 4 = .ok (.aload_n 0, 1) := by decide +kernel
theorem d4_5 : decode prog_35_method_1_code 5 = .ok (.aload_n 2, 1) := by decide +kernel
theorem d4_6 : decode prog_35_method_1_code 6 = .ok (.putfield 7, 3) := by decide +kernel
theorem d4_9 : decode prog_35_method_1_code 9 = .ok (.aload_n 0, 1) := by decide +kernel
theorem d4_10 : decode prog_35_method_1_code 10 = .ok (.iload_n 1, 1) := by decide +kernel
theorem d4_11 : decode prog_35_method_1_code 11 = .ok (.newarray .int, 2) := by decide +kernel
theorem d4_13 : decode prog_35_method_1_code 13 = .ok (.putfield 13, 3) := by decide +kernel
theorem d4_16 : decode prog_35_method_1_code 16 = .ok (.aload_n 0, 1) := by decide +kernel
theorem d4_17 : decode prog_35_method_1_code 17 = .ok (.iload_n 1, 1) := by decide +kernel
theorem d4_18 : decode prog_35_method_1_code 18 = .ok (.newarray .int, 2) := by decide +kernel
theorem d4_20 : decode prog_35_method_1_code 20 = .ok (.putfield 17, 3) := by decide +kernel
theorem d4_23 : decode prog_35_method_1_code 23 = .ok (.aload_n 0, 1) := by decide +kernel
theorem d4_24 : decode prog_35_method_1_code 24 = .ok (.getfield 17, 3) := by decide +kernel
theorem d4_27 : decode prog_35_method_1_code 27 = .ok (.iconst (-1), 1) := by decide +kernel
theorem d4_28 : decode prog_35_method_1_code 28 = .ok (.invokestatic 20, 3) := by decide +kernel
theorem d4_31 : decode prog_35_method_1_code 31 = .ok (.return_, 1) := by decide +kernel
theorem pd_10 : parseMethodDescriptor "([II)V" = some ⟨[(.array .int), .int], none⟩ := by decide +kernel
theorem ef_rm_hinit (m : MethodId) (x0 : Addr) (x1 : Int32) (x2 : Addr) : entryFrame m #[(.ref x0), (.int x1), (.ref x2)] 3 = mkF m 0 #[.val (.ref x0), .val (.int x1), .val (.ref x2)] [] := by first | (simp [entryFrame, mkF, argsToLocals, Value.category]; done) | rfl
def Q_rm_hinit (Z : State) (hp : Addr) (lo : Addr) (h0 : Heap) (n0 : Nat) (v : Option Value) (h : Heap) (L : List Loc) : Prop := ∃ (aE : Addr) (aP : Addr) (kE : ClassId) (kP : ClassId), v = none ∧ Fr n0 L ∧ Keep h0 h [hp] ∧ h0.size ≤ aE ∧ h0.size ≤ aP ∧ Fld Z h hp cH "order" "Lcom/example/leasewise/leasewise/IndexedHeap$Order;" (.ref lo) ∧ Fld Z h hp cH "entries" "[I" (.ref aE) ∧ Fld Z h hp cH "positions" "[I" (.ref aP) ∧ Fld Z h hp cH "size" "I" (.int (0 : Int32)) ∧ Arv Z h aE kE .int (2 : Int32) [(.int (0 : Int32)), (.int (0 : Int32))] (.int (0 : Int32)) ∧ Arv Z h aP kP .int (2 : Int32) [(.int (-1 : Int32)), (.int (-1 : Int32))] (.int (-1 : Int32)) ∧ (aE < aP)
set_option maxRecDepth 65536 in
set_option maxHeartbeats 40000000 in
theorem rm_hinit (l : Launch) (Z : State) (a0 : Array Value) (hw : ∀ d ∈ tables_1, d.before a0 Z = true) (ws : List Jvm.Cond) (hp : Addr) (lo : Addr) (h0 : Heap) (n0 : Nat) (O0 : Old Z n0 h0) (E_hp : Exa Z h0 hp cH) (F_hp_order : Fld Z h0 hp cH "order" "Lcom/example/leasewise/leasewise/IndexedHeap$Order;" .null) (F_hp_entries : Fld Z h0 hp cH "entries" "[I" .null) (F_hp_positions : Fld Z h0 hp cH "positions" "[I" .null) (F_hp_size : Fld Z h0 hp cH "size" "I" (.int (0 : Int32))) (g_hp : n0 ≤ hp) :
    MetFree l (⟨cH, "<init>", "(ILcom/example/leasewise/leasewise/IndexedHeap$Order;)V"⟩ : MethodName) (head1 (Jvm.Cond.code (⟨cH, "<init>", "(ILcom/example/leasewise/leasewise/IndexedHeap$Order;)V"⟩ : MethodName) prog_35_method_1_code 3 none :: ws) ({ frames := 1, cells := 2, slots := 4, locals := 15 } : Room)) (fun a U => a = #[(.ref hp), (.int (2 : Int32)), (.ref lo)] ∧ Z.WarmedH U.vm ∧ U.heap = h0) (fun _ _ _ _ _ => True) (fun _ U o U' => ∃ v L, o = .returned v ∧ Q_rm_hinit Z hp lo h0 n0 v U'.heap L ∧ FrameEnd U o U' L ({ frames := 1, cells := 2, slots := 4, locals := 15 } : Room).cells ({ frames := 1, cells := 2, slots := 4, locals := 15 } : Room).slots) := by
  refine MetFree.of_bodySF (plainFor_of_name pn_1) hisR ?_
  intro p e s m args below meth c s₁ Bd hml0 hP hK
  obtain ⟨rfl, hZH, hh⟩ := hP
  have hZ := hZH.wide
  have hx := Bd.exec
  have hby := Bd.bytes
  have D := fun {pc : Nat} {r : Except ClassFile.DecodeError (ClassFile.Instr × Nat)} (q : decode prog_35_method_1_code pc = r) => hb (pc := pc) hby q
  have hml : c.maxLocals = 3 := hml0
  have hown : s.vm.findClass cH = some m.cls := findClass_of_methodNamed Bd.named
  have hnm := (name_of_methodNamed Bd.named Bd.method).1
  have X0 : Stand p l e ({ frames := 1, cells := 2, slots := 4, locals := 15 } : Room) s m #[(.ref hp), (.int (2 : Int32)), (.ref lo)] below meth c s₁ [] 0 0 := Stand.of_body Bd
  have e0 : s₁.heap = h0 := by rw [← hh, Bd.state]; rfl
  have N0 := Fr.nil n0
  have pre0 : ∀ t, Steps p.tables e below (s₁.setTop (mkF m 0 #[.val (.ref hp), .val (.int (2 : Int32)), .val (.ref lo)] [])) t → Steps p.tables e below (s₁.setTop (entryFrame m #[(.ref hp), (.int (2 : Int32)), (.ref lo)] 3)) t := fun t k => castTop (ef_rm_hinit m (hp) ((2 : Int32)) (lo)) k
  have wd := fun {d : Jvm.Cond} (i : Nat) (h : tables_1[i]? = some d) => hw d (List.mem_of_getElem? h)
  obtain ⟨T1, X1, e1, st1⟩ := initO X0 hx hZ hown (wd 41 rfl) (wd 7 rfl) (wd 8 rfl) e0 (g := (mkF m 1 #[.val (.ref hp), .val (.int (2 : Int32)), .val (.ref lo)] [(.ref hp)])) rfl (by rw [hml]; rfl) rfl (D d4_1) (by decide) (W := 0) (by show 2 * 0 + _ ≤ _; exact Nat.le_of_eq rfl) (by decide)
  obtain ⟨T2, h2, X2, e2, W2, st2⟩ := putF X1 hx hZ hown (host := "") (Or.inl (wd 42 rfl)) Via.refl e1 F_hp_order E_hp (Or.inr ⟨(wd 43 rfl), rfl, hnm⟩) (wd 32 rfl) (ty := (.object "com/example/leasewise/leasewise/IndexedHeap$Order")) (by decide) rfl rfl (g := (mkF m 6 #[.val (.ref hp), .val (.int (2 : Int32)), .val (.ref lo)] [(.ref lo), (.ref hp)])) rfl rfl (D d4_6)
  have Fw2 : Fld Z h2 hp cH "order" "Lcom/example/leasewise/leasewise/IndexedHeap$Order;" (.ref lo) := Fld.same W2 F_hp_order
  have N2 := Fr.snoc X2 N0 g_hp
  have Zn2 : n0 ≤ h2.size := Nat.le_trans (own_oldsz O0) (Keep.of_wr W2).1
  have K2 : Keep h0 h2 [hp] := (Keep.refl h0 [hp]).wr W2 (Or.inl (List.mem_of_getElem? (i := 0) rfl))
  have O2 := O0.wr W2 g_hp
  obtain ⟨T3, h3, fk3, X3, e3, E3, A3, st3⟩ := newP X2 hx hZ (wd 10 rfl) e2 (g := (mkF m 11 #[.val (.ref hp), .val (.int (2 : Int32)), .val (.ref lo)] [(.int (2 : Int32)), (.ref hp)])) rfl (D d4_11) rfl (by decide) (cap := 2) (by decide) (by decide) (by decide) (by decide)
  obtain ⟨fa3, g3⟩ : ∃ z, z = h2.size := ⟨_, rfl⟩
  rw [← g3] at A3 st3
  have gn_fa3 : n0 ≤ fa3 := Nat.le_trans Zn2 (Nat.le_of_eq g3.symm)
  have gh_fa3 : h0.size ≤ fa3 := Nat.le_trans K2.1 (Nat.le_of_eq g3.symm)
  have Zn3 : n0 ≤ h3.size := Nat.le_trans Zn2 E3.1
  have K3 : Keep h0 h3 [hp] := K2.ext E3
  have O3 := O2.ext E3
  have V3 : Arv Z h3 fa3 fk3 .int (2 : Int32) [(.int (0 : Int32)), (.int (0 : Int32))] (.int (0 : Int32)) := (Arv.new A3 (by decide)).pad (pad_rep [] (.int (0 : Int32)) 2)
  have f5 := ((F_hp_entries.other W2 (Or.inr (slot_ne (Or.inr (wd 45 rfl)) (Or.inr (wd 43 rfl)) (by decide) (t := (.array .int)) (t' := (.object "com/example/leasewise/leasewise/IndexedHeap$Order")) (by decide) (by decide)))).ext E3)
  have f6 := ((E_hp.wr W2).ext E3)
  obtain ⟨T4, h4, X4, e4, W4, st4⟩ := putF X3 hx hZ hown (host := "") (Or.inl (wd 44 rfl)) Via.refl e3 f5 f6 (Or.inr ⟨(wd 45 rfl), rfl, hnm⟩) (wd 32 rfl) (ty := (.array .int)) (by decide) rfl rfl (g := (mkF m 13 #[.val (.ref hp), .val (.int (2 : Int32)), .val (.ref lo)] [(.ref fa3), (.ref hp)])) rfl rfl (D d4_13)
  have Fw4 : Fld Z h4 hp cH "entries" "[I" (.ref fa3) := Fld.same W4 f5
  have N4 := Fr.snoc X4 N2 g_hp
  have Zn4 : n0 ≤ h4.size := Nat.le_trans Zn3 (Keep.of_wr W4).1
  have K4 : Keep h0 h4 [hp] := K3.wr W4 (Or.inl (List.mem_of_getElem? (i := 0) rfl))
  have O4 := O3.wr W4 g_hp
  obtain ⟨T7, h7, fk7, X7, e7, E7, A7, st7⟩ := newP X4 hx hZ (wd 10 rfl) e4 (g := (mkF m 18 #[.val (.ref hp), .val (.int (2 : Int32)), .val (.ref lo)] [(.int (2 : Int32)), (.ref hp)])) rfl (D d4_18) rfl (by decide) (cap := 2) (by decide) (by decide) (by decide) (by decide)
  obtain ⟨fa7, g7⟩ : ∃ z, z = h4.size := ⟨_, rfl⟩
  rw [← g7] at A7 st7
  have gn_fa7 : n0 ≤ fa7 := Nat.le_trans Zn4 (Nat.le_of_eq g7.symm)
  have gh_fa7 : h0.size ≤ fa7 := Nat.le_trans K4.1 (Nat.le_of_eq g7.symm)
  have Zn7 : n0 ≤ h7.size := Nat.le_trans Zn4 E7.1
  have K7 : Keep h0 h7 [hp] := K4.ext E7
  have O7 := O4.ext E7
  have V7 : Arv Z h7 fa7 fk7 .int (2 : Int32) [(.int (0 : Int32)), (.int (0 : Int32))] (.int (0 : Int32)) := (Arv.new A7 (by decide)).pad (pad_rep [] (.int (0 : Int32)) 2)
  have f9 := ((((F_hp_positions.other W2 (Or.inr (slot_ne (Or.inr (wd 47 rfl)) (Or.inr (wd 43 rfl)) (by decide) (t := (.array .int)) (t' := (.object "com/example/leasewise/leasewise/IndexedHeap$Order")) (by decide) (by decide)))).ext E3).other W4 (Or.inr (slot_ne (Or.inr (wd 47 rfl)) (Or.inr (wd 45 rfl)) (by decide) (t := (.array .int)) (t' := (.array .int)) (by decide) (by decide)))).ext E7)
  have f10 := ((f6.wr W4).ext E7)
  obtain ⟨T8, h8, X8, e8, W8, st8⟩ := putF X7 hx hZ hown (host := "") (Or.inl (wd 46 rfl)) Via.refl e7 f9 f10 (Or.inr ⟨(wd 47 rfl), rfl, hnm⟩) (wd 32 rfl) (ty := (.array .int)) (by decide) rfl rfl (g := (mkF m 20 #[.val (.ref hp), .val (.int (2 : Int32)), .val (.ref lo)] [(.ref fa7), (.ref hp)])) rfl rfl (D d4_20)
  have Fw8 : Fld Z h8 hp cH "positions" "[I" (.ref fa7) := Fld.same W8 f9
  have N8 := Fr.snoc X8 N4 g_hp
  have Zn8 : n0 ≤ h8.size := Nat.le_trans Zn7 (Keep.of_wr W8).1
  have K8 : Keep h0 h8 [hp] := K7.wr W8 (Or.inl (List.mem_of_getElem? (i := 0) rfl))
  have O8 := O7.wr W8 g_hp
  obtain ⟨T11, X11, e11, st11⟩ := getF X8 hx hZ hown (host := "") (Or.inl (wd 46 rfl)) Via.refl e8 Fw8 (g := (mkF m 24 #[.val (.ref hp), .val (.int (2 : Int32)), .val (.ref lo)] [(.ref hp)])) rfl rfl (D d4_24)
  have f13 := (V7.other W8 (Ne.symm (Nat.ne_of_lt (Nat.lt_of_lt_of_le E_hp.lt (Nat.le_trans (Keep.of_wr W2).1 (Nat.le_trans E3.1 (Nat.le_trans (Keep.of_wr W4).1 (Nat.le_of_eq g7.symm))))))))
  have Vu12 : Arv Z h8 fa7 fk7 .int (2 : Int32) [] (.int (0 : Int32)) := (f13).pad (fun i => (pad_rep [] (.int (0 : Int32)) 2 i).symm)
  obtain ⟨_, _, ⟨T14, L14, k14, n14⟩, -, X14, ⟨Lc14, hQ14, l14, y14, z14⟩, st14⟩ := Jvm.LawKit.callS X11 hx (y := (⟨"java/util/Arrays", "fill", "([II)V"⟩ : MethodName)) hown (mvT hZ (wd 48 rfl)) (mvT hZ (wd 28 rfl)) (mvT hZ (wd 29 rfl)) (mvT hZ (wd 30 rfl)) (by decide) (own_backH (W := 0) (rm_fill l Z a0 hw [] fa7 (-1 : Int32) fk7 (2 : Int32) (0 : Int32) h8 n0 O8 Vu12 gn_fa7) hZH (wd 30 rfl) (wd 29 rfl) (by decide) (by decide)) (g := (mkF m 28 #[.val (.ref hp), .val (.int (2 : Int32)), .val (.ref lo)] [(.int (-1 : Int32)), (.ref fa7)])) rfl (by rw [hml]; rfl) (argsL := [(.ref fa7), (.int (-1 : Int32))]) (rest := []) (lenOf pd_10 rfl) rfl (by show 2 * 0 + _ ≤ _; exact Nat.le_of_eq rfl) (D d4_28) (fun _ _ => ⟨rfl, e11, (by decide : 2 + 0 ≤ _), (by decide : 4 + 0 ≤ _)⟩)
  dsimp only [Pt.U, Pt.locs, Pt.cells, Pt.slots] at X14 l14 y14 z14 st14 hQ14
  subst l14 y14 z14
  obtain ⟨rfl, N14q, K14, Q14_0⟩ := hQ14
  have O14 := O8.keep K14 (allS gn_fa7 all0)
  have KK14 : Keep h0 T14.heap [hp] := K8.trans K14 (allS (Or.inr gh_fa7) all0)
  have N14 := Fr.app N8 N14q
  have Vu15 : Arv Z T14.heap fa7 fk7 .int (2 : Int32) [(.int (-1 : Int32)), (.int (-1 : Int32))] (.int (-1 : Int32)) := (Q14_0).pad (pad_rep [] (.int (-1 : Int32)) 2)
  have f16 := (((((Fw2.ext E3).other W4 (Or.inr (slot_ne (Or.inr (wd 43 rfl)) (Or.inr (wd 45 rfl)) (by decide) (t := (.object "com/example/leasewise/leasewise/IndexedHeap$Order")) (t' := (.array .int)) (by decide) (by decide)))).ext E7).other W8 (Or.inr (slot_ne (Or.inr (wd 43 rfl)) (Or.inr (wd 47 rfl)) (by decide) (t := (.object "com/example/leasewise/leasewise/IndexedHeap$Order")) (t' := (.array .int)) (by decide) (by decide)))).keep K14 (ninS (Nat.ne_of_lt (Nat.lt_of_lt_of_le E_hp.lt (Nat.le_trans (Keep.of_wr W2).1 (Nat.le_trans E3.1 (Nat.le_trans (Keep.of_wr W4).1 (Nat.le_of_eq g7.symm)))))) nin0))
  have f17 := (((Fw4.ext E7).other W8 (Or.inr (slot_ne (Or.inr (wd 45 rfl)) (Or.inr (wd 47 rfl)) (by decide) (t := (.array .int)) (t' := (.array .int)) (by decide) (by decide)))).keep K14 (ninS (Nat.ne_of_lt (Nat.lt_of_lt_of_le E_hp.lt (Nat.le_trans (Keep.of_wr W2).1 (Nat.le_trans E3.1 (Nat.le_trans (Keep.of_wr W4).1 (Nat.le_of_eq g7.symm)))))) nin0))
  have f18 := (Fw8.keep K14 (ninS (Nat.ne_of_lt (Nat.lt_of_lt_of_le E_hp.lt (Nat.le_trans (Keep.of_wr W2).1 (Nat.le_trans E3.1 (Nat.le_trans (Keep.of_wr W4).1 (Nat.le_of_eq g7.symm)))))) nin0))
  have f19 := ((((((F_hp_size.other W2 (Or.inr (slot_ne (Or.inl (wd 64 rfl)) (Or.inr (wd 43 rfl)) (by decide) (t := .int) (t' := (.object "com/example/leasewise/leasewise/IndexedHeap$Order")) (by decide) (by decide)))).ext E3).other W4 (Or.inr (slot_ne (Or.inl (wd 64 rfl)) (Or.inr (wd 45 rfl)) (by decide) (t := .int) (t' := (.array .int)) (by decide) (by decide)))).ext E7).other W8 (Or.inr (slot_ne (Or.inl (wd 64 rfl)) (Or.inr (wd 47 rfl)) (by decide) (t := .int) (t' := (.array .int)) (by decide) (by decide)))).keep K14 (ninS (Nat.ne_of_lt (Nat.lt_of_lt_of_le E_hp.lt (Nat.le_trans (Keep.of_wr W2).1 (Nat.le_trans E3.1 (Nat.le_trans (Keep.of_wr W4).1 (Nat.le_of_eq g7.symm)))))) nin0))
  have f20 := ((((V3.other W4 (Ne.symm (Nat.ne_of_lt (Nat.lt_of_lt_of_le E_hp.lt (Nat.le_trans (Keep.of_wr W2).1 (Nat.le_of_eq g3.symm)))))).ext E7).other W8 (Ne.symm (Nat.ne_of_lt (Nat.lt_of_lt_of_le E_hp.lt (Nat.le_trans (Keep.of_wr W2).1 (Nat.le_of_eq g3.symm)))))).keep K14 (ninS (Nat.ne_of_lt (Nat.lt_of_lt_of_le V3.lt (Nat.le_trans (Keep.of_wr W4).1 (Nat.le_of_eq g7.symm)))) nin0))
  obtain ⟨fs, hr, hrun, hended, hW, hsame⟩ := X14.leave (v := none) (fun _ => rfl)
  refine ⟨_, _, pre0 _ ?_, hrun, hended, _, _, rfl, ?_, ⟨_, rfl⟩, hW, hsame.mono (by decide) (by decide)⟩
  · refine s_aloadN X0 hx (D d4_0) rfl rfl ?_
    refine st1 _ ?_
    refine s_aloadN X1 hx (D d4_4) rfl rfl ?_
    refine s_aloadN X1 hx (D d4_5) rfl rfl ?_
    refine st2 _ ?_
    refine s_aloadN X2 hx (D d4_9) rfl rfl ?_
    refine s_iloadN X2 hx (D d4_10) rfl ?_
    refine st3 _ ?_
    refine st4 _ ?_
    refine s_aloadN X4 hx (D d4_16) rfl rfl ?_
    refine s_iloadN X4 hx (D d4_17) rfl ?_
    refine st7 _ ?_
    refine st8 _ ?_
    refine s_aloadN X8 hx (D d4_23) rfl rfl ?_
    refine st11 _ ?_
    refine s_iconst X11 hx (-1 : Int32) (D d4_27) rfl ?_
    refine st14 _ ?_
    exact X14.returnOut hx Bd.returns (D d4_31) hr
  · show Q_rm_hinit Z hp lo h0 n0 _ T14.heap _
    exact ⟨fa3, fa7, fk3, fk7, rfl, N14, KK14, gh_fa3, gh_fa7, f16, f17, f18, f19, f20, Vu15, (Nat.lt_of_lt_of_le V3.lt (Nat.le_trans (Keep.of_wr W4).1 (Nat.le_of_eq g7.symm)))⟩
theorem d1_0 : decode prog_39_method_1_code 0 = .ok (.aload_n 0, 1) := by decide +kernel
theorem d1_1 : decode prog_39_method_1_code 1 = .ok (.invokespecial 3, 3) := by decide +kernel
theorem d1_4 : decode prog_39_method_1_code 4 = .ok (.aload_n 0, 1) := by decide +kernel
theorem d1_5 : decode prog_39_method_1_code 5 = .ok (.ldc 9, 2) := by decide +kernel
theorem d1_7 : decode prog_39_method_1_code 7 = .ok (.newarray .int, 2) := by decide +kernel
theorem d1_9 : decode prog_39_method_1_code 9 = .ok (.putfield 10, 3) := by decide +kernel
theorem d1_12 : decode prog_39_method_1_code 12 = .ok (.aload_n 0, 1) := by decide +kernel
theorem d1_13 : decode prog_39_method_1_code 13 = .ok (.sipush 1024, 3) := by decide +kernel
theorem d1_16 : decode prog_39_method_1_code 16 = .ok (.newarray .long, 2) := by decide +kernel
theorem d1_18 : decode prog_39_method_1_code 18 = .ok (.putfield 16, 3) := by decide +kernel
theorem d1_21 : decode prog_39_method_1_code 21 = .ok (.aload_n 0, 1) := by decide +kernel
theorem d1_22 : decode prog_39_method_1_code 22 = .ok (.bipush 16, 2) := by decide +kernel
theorem d1_24 : decode prog_39_method_1_code 24 = .ok (.newarray .long, 2) := by decide +kernel
theorem d1_26 : decode prog_39_method_1_code 26 = .ok (.putfield 20, 3) := by decide +kernel
theorem d1_29 : decode prog_39_method_1_code 29 = .ok (.aload_n 0, 1) := by decide +kernel
theorem d1_30 : decode prog_39_method_1_code 30 = .ok (.iload_n 1, 1) := by decide +kernel
theorem d1_31 : decode prog_39_method_1_code 31 = .ok (.newarray .long, 2) := by decide +kernel
theorem d1_33 : decode prog_39_method_1_code 33 = .ok (.putfield 23, 3) := by decide +kernel
theorem d1_36 : decode prog_39_method_1_code 36 = .ok (.aload_n 0, 1) := by decide +kernel
theorem d1_37 : decode prog_39_method_1_code 37 = .ok (.iload_n 1, 1) := by decide +kernel
theorem d1_38 : decode prog_39_method_1_code 38 = .ok (.newarray .int, 2) := by decide +kernel
theorem d1_40 : decode prog_39_method_1_code 40 = .ok (.putfield 26, 3) := by decide +kernel
theorem d1_43 : decode prog_39_method_1_code 43 = .ok (.aload_n 0, 1) := by decide +kernel
theorem d1_44 : decode prog_39_method_1_code 44 = .ok (.iload_n 1, 1) := by decide +kernel
theorem d1_45 : decode prog_39_method_1_code 45 = .ok (.newarray .int, 2) := by decide +kernel
theorem d1_47 : decode prog_39_method_1_code 47 = .ok (.putfield 29, 3) := by decide +kernel
theorem d1_50 : decode prog_39_method_1_code 50 = .ok (.aload_n 0, 1) := by decide +kernel
theorem d1_51 : decode prog_39_method_1_code 51 = .ok (.iload_n 1, 1) := by decide +kernel
theorem d1_52 : decode prog_39_method_1_code 52 = .ok (.newarray .boolean, 2) := by decide +kernel
theorem d1_54 : decode prog_39_method_1_code 54 = .ok (.putfield 32, 3) := by decide +kernel
theorem d1_57 : decode prog_39_method_1_code 57 = .ok (.aload_n 0, 1) := by decide +kernel
theorem d1_58 : decode prog_39_method_1_code 58 = .ok (.getfield 10, 3) := by decide +kernel
theorem d1_61 : decode prog_39_method_1_code 61 = .ok (.iconst (-1), 1) := by decide +kernel
theorem d1_62 : decode prog_39_method_1_code 62 = .ok (.invokestatic 36, 3) := by decide +kernel
theorem d1_65 : decode prog_39_method_1_code 65 = .ok (.aload_n 0, 1) := by decide +kernel
theorem d1_66 : decode prog_39_method_1_code 66 = .ok (.new 42, 3) := by decide +kernel
theorem d1_69 : decode prog_39_method_1_code 69 = .ok (.dup, 1) := by decide +kernel
theorem d1_70 : decode prog_39_method_1_code 70 = .ok (.iload_n 1, 1) := by decide +kernel
theorem d1_71 : decode prog_39_method_1_code 71 = .ok (.aload_n 0, 1) := by decide +kernel
theorem d1_72 : decode prog_39_method_1_code 72 = .ok (.invokedynamic 44, 5) := by decide +kernel
theorem d1_77 : decode prog_39_method_1_code 77 = .ok (.invokespecial 47, 3) := by decide +kernel
theorem d1_80 : decode prog_39_method_1_code 80 = .ok (.putfield 50, 3) := by decide +kernel
theorem d1_83 : decode prog_39_method_1_code 83 = .ok (.return_, 1) := by decide +kernel
theorem pd_11 : parseMethodDescriptor "(ILcom/example/leasewise/leasewise/IndexedHeap$Order;)V" = some ⟨[.int, (.object "com/example/leasewise/leasewise/IndexedHeap$Order")], none⟩ := by decide +kernel
theorem ef_rm_kinit (m : MethodId) (x0 : Addr) (x1 : Int32) : entryFrame m #[(.ref x0), (.int x1)] 2 = mkF m 0 #[.val (.ref x0), .val (.int x1)] [] := by first | (simp [entryFrame, mkF, argsToLocals, Value.category]; done) | rfl
def Q_rm_kinit (Z : State) (kq : Addr) (h0 : Heap) (n0 : Nat) (v : Option Value) (h : Heap) (L : List Loc) : Prop := ∃ (aF : Addr) (aO : Addr) (aW : Addr) (aK : Addr) (aB : Addr) (aA : Addr) (aI : Addr) (hp : Addr) (lo : Addr) (aE : Addr) (aP : Addr) (cK : ClassId) (kK : ClassId) (kB : ClassId) (kA : ClassId) (kI : ClassId) (kF : ClassId) (kO : ClassId) (kW : ClassId) (kE : ClassId) (kP : ClassId), v = none ∧ Fr n0 L ∧ Keep h0 h [kq] ∧ h0.size ≤ aF ∧ h0.size ≤ aO ∧ h0.size ≤ aW ∧ h0.size ≤ aK ∧ h0.size ≤ aB ∧ h0.size ≤ aA ∧ h0.size ≤ aI ∧ h0.size ≤ hp ∧ h0.size ≤ lo ∧ h0.size ≤ aE ∧ h0.size ≤ aP ∧ Fld Z h kq cQ "keys" "[J" (.ref aK) ∧ Fld Z h kq cQ "before" "[I" (.ref aB) ∧ Fld Z h kq cQ "after" "[I" (.ref aA) ∧ Fld Z h kq cQ "inBucket" "[Z" (.ref aI) ∧ Fld Z h kq cQ "firsts" "[I" (.ref aF) ∧ Fld Z h kq cQ "occupied" "[J" (.ref aO) ∧ Fld Z h kq cQ "occupiedWords" "[J" (.ref aW) ∧ Fld Z h kq cQ "further" "Lcom/example/leasewise/leasewise/IndexedHeap;" (.ref hp) ∧ Fld Z h kq cQ "bucketed" "I" (.int (0 : Int32)) ∧ Fld Z h kq cQ "floor" "J" (.long (0 : Int64)) ∧ Arv Z h aK kK .long (2 : Int32) [(.long (0 : Int64)), (.long (0 : Int64))] (.long (0 : Int64)) ∧ Arv Z h aB kB .int (2 : Int32) [(.int (0 : Int32)), (.int (0 : Int32))] (.int (0 : Int32)) ∧ Arv Z h aA kA .int (2 : Int32) [(.int (0 : Int32)), (.int (0 : Int32))] (.int (0 : Int32)) ∧ Arv Z h aI kI .boolean (2 : Int32) [(.int (0 : Int32)), (.int (0 : Int32))] (.int (0 : Int32)) ∧ ArfI Z h aF kF (65536 : Int32) (fun _ => (-1 : Int32)) ∧ ArfJ Z h aO kO (1024 : Int32) (fun _ => (0 : Int64)) ∧ ArfJ Z h aW kW (16 : Int32) (fun _ => (0 : Int64)) ∧ Exa Z h hp cH ∧ Fld Z h hp cH "order" "Lcom/example/leasewise/leasewise/IndexedHeap$Order;" (.ref lo) ∧ Fld Z h hp cH "entries" "[I" (.ref aE) ∧ Fld Z h hp cH "positions" "[I" (.ref aP) ∧ Fld Z h hp cH "size" "I" (.int (0 : Int32)) ∧ Arv Z h aE kE .int (2 : Int32) [(.int (0 : Int32)), (.int (0 : Int32))] (.int (0 : Int32)) ∧ Arv Z h aP kP .int (2 : Int32) [(.int (-1 : Int32)), (.int (-1 : Int32))] (.int (-1 : Int32)) ∧ LamO h lo cK kq ∧ List.Nodup [kq, aF, aO, aW, aK, aB, aA, aI, hp, lo, aE, aP] ∧ (Jvm.LamKit.Made Z cQ sgm cK)
set_option maxRecDepth 65536 in
set_option maxHeartbeats 40000000 in
theorem rm_kinit (l : Launch) (Z : State) (a0 : Array Value) (hw : ∀ d ∈ tables_1, d.before a0 Z = true) (ws : List Jvm.Cond) (kq : Addr) (h0 : Heap) (n0 : Nat) (O0 : Old Z n0 h0) (E_kq : Exa Z h0 kq cQ) (F_kq_keys : Fld Z h0 kq cQ "keys" "[J" .null) (F_kq_before : Fld Z h0 kq cQ "before" "[I" .null) (F_kq_after : Fld Z h0 kq cQ "after" "[I" .null) (F_kq_inBucket : Fld Z h0 kq cQ "inBucket" "[Z" .null) (F_kq_firsts : Fld Z h0 kq cQ "firsts" "[I" .null) (F_kq_occupied : Fld Z h0 kq cQ "occupied" "[J" .null) (F_kq_occupiedWords : Fld Z h0 kq cQ "occupiedWords" "[J" .null) (F_kq_further : Fld Z h0 kq cQ "further" "Lcom/example/leasewise/leasewise/IndexedHeap;" .null) (F_kq_bucketed : Fld Z h0 kq cQ "bucketed" "I" (.int (0 : Int32))) (F_kq_floor : Fld Z h0 kq cQ "floor" "J" (.long (0 : Int64))) (g_kq : n0 ≤ kq) :
    MetFree l (⟨cQ, "<init>", "(I)V"⟩ : MethodName) (head1 (Jvm.Cond.code (⟨cQ, "<init>", "(I)V"⟩ : MethodName) prog_39_method_1_code 2 none :: ws) ({ frames := 2, cells := 11, slots := 66593, locals := 3077 } : Room)) (fun a U => a = #[(.ref kq), (.int (2 : Int32))] ∧ Z.WarmedH U.vm ∧ U.heap = h0) (fun _ _ _ _ _ => True) (fun _ U o U' => ∃ v L, o = .returned v ∧ Q_rm_kinit Z kq h0 n0 v U'.heap L ∧ FrameEnd U o U' L ({ frames := 2, cells := 11, slots := 66593, locals := 3077 } : Room).cells ({ frames := 2, cells := 11, slots := 66593, locals := 3077 } : Room).slots) := by
  refine MetFree.of_bodySF (plainFor_of_name pn_2) hisR ?_
  intro p e s m args below meth c s₁ Bd hml0 hP hK
  obtain ⟨rfl, hZH, hh⟩ := hP
  have hZ := hZH.wide
  have hx := Bd.exec
  have hby := Bd.bytes
  have D := fun {pc : Nat} {r : Except ClassFile.DecodeError (ClassFile.Instr × Nat)} (q : decode prog_39_method_1_code pc = r) => hb (pc := pc) hby q
  have hml : c.maxLocals = 2 := hml0
  have hown : s.vm.findClass cQ = some m.cls := findClass_of_methodNamed Bd.named
  have hnm := (name_of_methodNamed Bd.named Bd.method).1
  have X0 : Stand p l e ({ frames := 2, cells := 11, slots := 66593, locals := 3077 } : Room) s m #[(.ref kq), (.int (2 : Int32))] below meth c s₁ [] 0 0 := Stand.of_body Bd
  have e0 : s₁.heap = h0 := by rw [← hh, Bd.state]; rfl
  have N0 := Fr.nil n0
  have pre0 : ∀ t, Steps p.tables e below (s₁.setTop (mkF m 0 #[.val (.ref kq), .val (.int (2 : Int32))] [])) t → Steps p.tables e below (s₁.setTop (entryFrame m #[(.ref kq), (.int (2 : Int32))] 2)) t := fun t k => castTop (ef_rm_kinit m (kq) ((2 : Int32))) k
  have wd := fun {d : Jvm.Cond} (i : Nat) (h : tables_1[i]? = some d) => hw d (List.mem_of_getElem? h)
  obtain ⟨T1, X1, e1, st1⟩ := initO X0 hx hZ hown (wd 6 rfl) (wd 7 rfl) (wd 8 rfl) e0 (g := (mkF m 1 #[.val (.ref kq), .val (.int (2 : Int32))] [(.ref kq)])) rfl (by rw [hml]; rfl) rfl (D d1_1) (by decide) (W := 0) (by show 2 * 0 + _ ≤ _; exact Nat.le_of_eq rfl) (by decide)
  obtain ⟨T2, h2, fk2, X2, e2, E2, A2, st2⟩ := newP X1 hx hZ (wd 10 rfl) e1 (g := (mkF m 7 #[.val (.ref kq), .val (.int (2 : Int32))] [(.int (65536 : Int32)), (.ref kq)])) rfl (D d1_7) rfl (by decide) (cap := 65536) (by decide) (by decide) (by decide) (by decide)
  obtain ⟨fa2, g2⟩ : ∃ z, z = h0.size := ⟨_, rfl⟩
  rw [← g2] at A2 st2
  have gn_fa2 : n0 ≤ fa2 := Nat.le_trans (own_oldsz O0) (Nat.le_of_eq g2.symm)
  have gh_fa2 : h0.size ≤ fa2 := Nat.le_trans (Keep.refl h0 [kq]).1 (Nat.le_of_eq g2.symm)
  have Zn2 : n0 ≤ h2.size := Nat.le_trans (own_oldsz O0) E2.1
  have K2 : Keep h0 h2 [kq] := (Keep.refl h0 [kq]).ext E2
  have O2 := O0.ext E2
  have V2 : Arv Z h2 fa2 fk2 .int (65536 : Int32) [] (.int (0 : Int32)) := (Arv.new A2 (by decide)).pad (pad_rep [] (.int (0 : Int32)) 0)
  have f4 := (F_kq_firsts.ext E2)
  have f5 := (E_kq.ext E2)
  obtain ⟨T3, h3, X3, e3, W3, st3⟩ := putF X2 hx hZ hown (host := "") (Or.inl (wd 11 rfl)) Via.refl e2 f4 f5 (Or.inr ⟨(wd 12 rfl), rfl, hnm⟩) (wd 1 rfl) (ty := (.array .int)) (by decide) rfl rfl (g := (mkF m 9 #[.val (.ref kq), .val (.int (2 : Int32))] [(.ref fa2), (.ref kq)])) rfl rfl (D d1_9)
  have Fw3 : Fld Z h3 kq cQ "firsts" "[I" (.ref fa2) := Fld.same W3 f4
  have N3 := Fr.snoc X3 N0 g_kq
  have Zn3 : n0 ≤ h3.size := Nat.le_trans Zn2 (Keep.of_wr W3).1
  have K3 : Keep h0 h3 [kq] := K2.wr W3 (Or.inl (List.mem_of_getElem? (i := 0) rfl))
  have O3 := O2.wr W3 g_kq
  obtain ⟨T6, h6, fk6, X6, e6, E6, A6, st6⟩ := newP X3 hx hZ (wd 13 rfl) e3 (g := (mkF m 16 #[.val (.ref kq), .val (.int (2 : Int32))] [(.int (1024 : Int32)), (.ref kq)])) rfl (D d1_16) rfl (by decide) (cap := 1024) (by decide) (by decide) (by decide) (by decide)
  obtain ⟨fa6, g6⟩ : ∃ z, z = h3.size := ⟨_, rfl⟩
  rw [← g6] at A6 st6
  have gn_fa6 : n0 ≤ fa6 := Nat.le_trans Zn3 (Nat.le_of_eq g6.symm)
  have gh_fa6 : h0.size ≤ fa6 := Nat.le_trans K3.1 (Nat.le_of_eq g6.symm)
  have Zn6 : n0 ≤ h6.size := Nat.le_trans Zn3 E6.1
  have K6 : Keep h0 h6 [kq] := K3.ext E6
  have O6 := O3.ext E6
  have V6 : Arv Z h6 fa6 fk6 .long (1024 : Int32) [] (.long (0 : Int64)) := (Arv.new A6 (by decide)).pad (pad_rep [] (.long (0 : Int64)) 0)
  have f8 := (((F_kq_occupied.ext E2).other W3 (Or.inr (slot_ne (Or.inr (wd 15 rfl)) (Or.inr (wd 12 rfl)) (by decide) (t := (.array .long)) (t' := (.array .int)) (by decide) (by decide)))).ext E6)
  have f9 := ((f5.wr W3).ext E6)
  obtain ⟨T7, h7, X7, e7, W7, st7⟩ := putF X6 hx hZ hown (host := "") (Or.inl (wd 14 rfl)) Via.refl e6 f8 f9 (Or.inr ⟨(wd 15 rfl), rfl, hnm⟩) (wd 1 rfl) (ty := (.array .long)) (by decide) rfl rfl (g := (mkF m 18 #[.val (.ref kq), .val (.int (2 : Int32))] [(.ref fa6), (.ref kq)])) rfl rfl (D d1_18)
  have Fw7 : Fld Z h7 kq cQ "occupied" "[J" (.ref fa6) := Fld.same W7 f8
  have N7 := Fr.snoc X7 N3 g_kq
  have Zn7 : n0 ≤ h7.size := Nat.le_trans Zn6 (Keep.of_wr W7).1
  have K7 : Keep h0 h7 [kq] := K6.wr W7 (Or.inl (List.mem_of_getElem? (i := 0) rfl))
  have O7 := O6.wr W7 g_kq
  obtain ⟨T10, h10, fk10, X10, e10, E10, A10, st10⟩ := newP X7 hx hZ (wd 13 rfl) e7 (g := (mkF m 24 #[.val (.ref kq), .val (.int (2 : Int32))] [(.int (16 : Int32)), (.ref kq)])) rfl (D d1_24) rfl (by decide) (cap := 16) (by decide) (by decide) (by decide) (by decide)
  obtain ⟨fa10, g10⟩ : ∃ z, z = h7.size := ⟨_, rfl⟩
  rw [← g10] at A10 st10
  have gn_fa10 : n0 ≤ fa10 := Nat.le_trans Zn7 (Nat.le_of_eq g10.symm)
  have gh_fa10 : h0.size ≤ fa10 := Nat.le_trans K7.1 (Nat.le_of_eq g10.symm)
  have Zn10 : n0 ≤ h10.size := Nat.le_trans Zn7 E10.1
  have K10 : Keep h0 h10 [kq] := K7.ext E10
  have O10 := O7.ext E10
  have V10 : Arv Z h10 fa10 fk10 .long (16 : Int32) [(.long (0 : Int64)), (.long (0 : Int64)), (.long (0 : Int64)), (.long (0 : Int64)), (.long (0 : Int64)), (.long (0 : Int64)), (.long (0 : Int64)), (.long (0 : Int64)), (.long (0 : Int64)), (.long (0 : Int64)), (.long (0 : Int64)), (.long (0 : Int64)), (.long (0 : Int64)), (.long (0 : Int64)), (.long (0 : Int64)), (.long (0 : Int64))] (.long (0 : Int64)) := (Arv.new A10 (by decide)).pad (pad_rep [] (.long (0 : Int64)) 16)
  have f12 := (((((F_kq_occupiedWords.ext E2).other W3 (Or.inr (slot_ne (Or.inr (wd 17 rfl)) (Or.inr (wd 12 rfl)) (by decide) (t := (.array .long)) (t' := (.array .int)) (by decide) (by decide)))).ext E6).other W7 (Or.inr (slot_ne (Or.inr (wd 17 rfl)) (Or.inr (wd 15 rfl)) (by decide) (t := (.array .long)) (t' := (.array .long)) (by decide) (by decide)))).ext E10)
  have f13 := ((f9.wr W7).ext E10)
  obtain ⟨T11, h11, X11, e11, W11, st11⟩ := putF X10 hx hZ hown (host := "") (Or.inl (wd 16 rfl)) Via.refl e10 f12 f13 (Or.inr ⟨(wd 17 rfl), rfl, hnm⟩) (wd 1 rfl) (ty := (.array .long)) (by decide) rfl rfl (g := (mkF m 26 #[.val (.ref kq), .val (.int (2 : Int32))] [(.ref fa10), (.ref kq)])) rfl rfl (D d1_26)
  have Fw11 : Fld Z h11 kq cQ "occupiedWords" "[J" (.ref fa10) := Fld.same W11 f12
  have N11 := Fr.snoc X11 N7 g_kq
  have Zn11 : n0 ≤ h11.size := Nat.le_trans Zn10 (Keep.of_wr W11).1
  have K11 : Keep h0 h11 [kq] := K10.wr W11 (Or.inl (List.mem_of_getElem? (i := 0) rfl))
  have O11 := O10.wr W11 g_kq
  obtain ⟨T14, h14, fk14, X14, e14, E14, A14, st14⟩ := newP X11 hx hZ (wd 13 rfl) e11 (g := (mkF m 31 #[.val (.ref kq), .val (.int (2 : Int32))] [(.int (2 : Int32)), (.ref kq)])) rfl (D d1_31) rfl (by decide) (cap := 2) (by decide) (by decide) (by decide) (by decide)
  obtain ⟨fa14, g14⟩ : ∃ z, z = h11.size := ⟨_, rfl⟩
  rw [← g14] at A14 st14
  have gn_fa14 : n0 ≤ fa14 := Nat.le_trans Zn11 (Nat.le_of_eq g14.symm)
  have gh_fa14 : h0.size ≤ fa14 := Nat.le_trans K11.1 (Nat.le_of_eq g14.symm)
  have Zn14 : n0 ≤ h14.size := Nat.le_trans Zn11 E14.1
  have K14 : Keep h0 h14 [kq] := K11.ext E14
  have O14 := O11.ext E14
  have V14 : Arv Z h14 fa14 fk14 .long (2 : Int32) [(.long (0 : Int64)), (.long (0 : Int64))] (.long (0 : Int64)) := (Arv.new A14 (by decide)).pad (pad_rep [] (.long (0 : Int64)) 2)
  have f16 := (((((((F_kq_keys.ext E2).other W3 (Or.inr (slot_ne (Or.inr (wd 19 rfl)) (Or.inr (wd 12 rfl)) (by decide) (t := (.array .long)) (t' := (.array .int)) (by decide) (by decide)))).ext E6).other W7 (Or.inr (slot_ne (Or.inr (wd 19 rfl)) (Or.inr (wd 15 rfl)) (by decide) (t := (.array .long)) (t' := (.array .long)) (by decide) (by decide)))).ext E10).other W11 (Or.inr (slot_ne (Or.inr (wd 19 rfl)) (Or.inr (wd 17 rfl)) (by decide) (t := (.array .long)) (t' := (.array .long)) (by decide) (by decide)))).ext E14)
  have f17 := ((f13.wr W11).ext E14)
  obtain ⟨T15, h15, X15, e15, W15, st15⟩ := putF X14 hx hZ hown (host := "") (Or.inl (wd 18 rfl)) Via.refl e14 f16 f17 (Or.inr ⟨(wd 19 rfl), rfl, hnm⟩) (wd 1 rfl) (ty := (.array .long)) (by decide) rfl rfl (g := (mkF m 33 #[.val (.ref kq), .val (.int (2 : Int32))] [(.ref fa14), (.ref kq)])) rfl rfl (D d1_33)
  have Fw15 : Fld Z h15 kq cQ "keys" "[J" (.ref fa14) := Fld.same W15 f16
  have N15 := Fr.snoc X15 N11 g_kq
  have Zn15 : n0 ≤ h15.size := Nat.le_trans Zn14 (Keep.of_wr W15).1
  have K15 : Keep h0 h15 [kq] := K14.wr W15 (Or.inl (List.mem_of_getElem? (i := 0) rfl))
  have O15 := O14.wr W15 g_kq
  obtain ⟨T18, h18, fk18, X18, e18, E18, A18, st18⟩ := newP X15 hx hZ (wd 10 rfl) e15 (g := (mkF m 38 #[.val (.ref kq), .val (.int (2 : Int32))] [(.int (2 : Int32)), (.ref kq)])) rfl (D d1_38) rfl (by decide) (cap := 2) (by decide) (by decide) (by decide) (by decide)
  obtain ⟨fa18, g18⟩ : ∃ z, z = h15.size := ⟨_, rfl⟩
  rw [← g18] at A18 st18
  have gn_fa18 : n0 ≤ fa18 := Nat.le_trans Zn15 (Nat.le_of_eq g18.symm)
  have gh_fa18 : h0.size ≤ fa18 := Nat.le_trans K15.1 (Nat.le_of_eq g18.symm)
  have Zn18 : n0 ≤ h18.size := Nat.le_trans Zn15 E18.1
  have K18 : Keep h0 h18 [kq] := K15.ext E18
  have O18 := O15.ext E18
  have V18 : Arv Z h18 fa18 fk18 .int (2 : Int32) [(.int (0 : Int32)), (.int (0 : Int32))] (.int (0 : Int32)) := (Arv.new A18 (by decide)).pad (pad_rep [] (.int (0 : Int32)) 2)
  have f20 := (((((((((F_kq_before.ext E2).other W3 (Or.inr (slot_ne (Or.inr (wd 21 rfl)) (Or.inr (wd 12 rfl)) (by decide) (t := (.array .int)) (t' := (.array .int)) (by decide) (by decide)))).ext E6).other W7 (Or.inr (slot_ne (Or.inr (wd 21 rfl)) (Or.inr (wd 15 rfl)) (by decide) (t := (.array .int)) (t' := (.array .long)) (by decide) (by decide)))).ext E10).other W11 (Or.inr (slot_ne (Or.inr (wd 21 rfl)) (Or.inr (wd 17 rfl)) (by decide) (t := (.array .int)) (t' := (.array .long)) (by decide) (by decide)))).ext E14).other W15 (Or.inr (slot_ne (Or.inr (wd 21 rfl)) (Or.inr (wd 19 rfl)) (by decide) (t := (.array .int)) (t' := (.array .long)) (by decide) (by decide)))).ext E18)
  have f21 := ((f17.wr W15).ext E18)
  obtain ⟨T19, h19, X19, e19, W19, st19⟩ := putF X18 hx hZ hown (host := "") (Or.inl (wd 20 rfl)) Via.refl e18 f20 f21 (Or.inr ⟨(wd 21 rfl), rfl, hnm⟩) (wd 1 rfl) (ty := (.array .int)) (by decide) rfl rfl (g := (mkF m 40 #[.val (.ref kq), .val (.int (2 : Int32))] [(.ref fa18), (.ref kq)])) rfl rfl (D d1_40)
  have Fw19 : Fld Z h19 kq cQ "before" "[I" (.ref fa18) := Fld.same W19 f20
  have N19 := Fr.snoc X19 N15 g_kq
  have Zn19 : n0 ≤ h19.size := Nat.le_trans Zn18 (Keep.of_wr W19).1
  have K19 : Keep h0 h19 [kq] := K18.wr W19 (Or.inl (List.mem_of_getElem? (i := 0) rfl))
  have O19 := O18.wr W19 g_kq
  obtain ⟨T22, h22, fk22, X22, e22, E22, A22, st22⟩ := newP X19 hx hZ (wd 10 rfl) e19 (g := (mkF m 45 #[.val (.ref kq), .val (.int (2 : Int32))] [(.int (2 : Int32)), (.ref kq)])) rfl (D d1_45) rfl (by decide) (cap := 2) (by decide) (by decide) (by decide) (by decide)
  obtain ⟨fa22, g22⟩ : ∃ z, z = h19.size := ⟨_, rfl⟩
  rw [← g22] at A22 st22
  have gn_fa22 : n0 ≤ fa22 := Nat.le_trans Zn19 (Nat.le_of_eq g22.symm)
  have gh_fa22 : h0.size ≤ fa22 := Nat.le_trans K19.1 (Nat.le_of_eq g22.symm)
  have Zn22 : n0 ≤ h22.size := Nat.le_trans Zn19 E22.1
  have K22 : Keep h0 h22 [kq] := K19.ext E22
  have O22 := O19.ext E22
  have V22 : Arv Z h22 fa22 fk22 .int (2 : Int32) [(.int (0 : Int32)), (.int (0 : Int32))] (.int (0 : Int32)) := (Arv.new A22 (by decide)).pad (pad_rep [] (.int (0 : Int32)) 2)
  have f24 := (((((((((((F_kq_after.ext E2).other W3 (Or.inr (slot_ne (Or.inr (wd 23 rfl)) (Or.inr (wd 12 rfl)) (by decide) (t := (.array .int)) (t' := (.array .int)) (by decide) (by decide)))).ext E6).other W7 (Or.inr (slot_ne (Or.inr (wd 23 rfl)) (Or.inr (wd 15 rfl)) (by decide) (t := (.array .int)) (t' := (.array .long)) (by decide) (by decide)))).ext E10).other W11 (Or.inr (slot_ne (Or.inr (wd 23 rfl)) (Or.inr (wd 17 rfl)) (by decide) (t := (.array .int)) (t' := (.array .long)) (by decide) (by decide)))).ext E14).other W15 (Or.inr (slot_ne (Or.inr (wd 23 rfl)) (Or.inr (wd 19 rfl)) (by decide) (t := (.array .int)) (t' := (.array .long)) (by decide) (by decide)))).ext E18).other W19 (Or.inr (slot_ne (Or.inr (wd 23 rfl)) (Or.inr (wd 21 rfl)) (by decide) (t := (.array .int)) (t' := (.array .int)) (by decide) (by decide)))).ext E22)
  have f25 := ((f21.wr W19).ext E22)
  obtain ⟨T23, h23, X23, e23, W23, st23⟩ := putF X22 hx hZ hown (host := "") (Or.inl (wd 22 rfl)) Via.refl e22 f24 f25 (Or.inr ⟨(wd 23 rfl), rfl, hnm⟩) (wd 1 rfl) (ty := (.array .int)) (by decide) rfl rfl (g := (mkF m 47 #[.val (.ref kq), .val (.int (2 : Int32))] [(.ref fa22), (.ref kq)])) rfl rfl (D d1_47)
  have Fw23 : Fld Z h23 kq cQ "after" "[I" (.ref fa22) := Fld.same W23 f24
  have N23 := Fr.snoc X23 N19 g_kq
  have Zn23 : n0 ≤ h23.size := Nat.le_trans Zn22 (Keep.of_wr W23).1
  have K23 : Keep h0 h23 [kq] := K22.wr W23 (Or.inl (List.mem_of_getElem? (i := 0) rfl))
  have O23 := O22.wr W23 g_kq
  obtain ⟨T26, h26, fk26, X26, e26, E26, A26, st26⟩ := newP X23 hx hZ (wd 24 rfl) e23 (g := (mkF m 52 #[.val (.ref kq), .val (.int (2 : Int32))] [(.int (2 : Int32)), (.ref kq)])) rfl (D d1_52) rfl (by decide) (cap := 2) (by decide) (by decide) (by decide) (by decide)
  obtain ⟨fa26, g26⟩ : ∃ z, z = h23.size := ⟨_, rfl⟩
  rw [← g26] at A26 st26
  have gn_fa26 : n0 ≤ fa26 := Nat.le_trans Zn23 (Nat.le_of_eq g26.symm)
  have gh_fa26 : h0.size ≤ fa26 := Nat.le_trans K23.1 (Nat.le_of_eq g26.symm)
  have Zn26 : n0 ≤ h26.size := Nat.le_trans Zn23 E26.1
  have K26 : Keep h0 h26 [kq] := K23.ext E26
  have O26 := O23.ext E26
  have V26 : Arv Z h26 fa26 fk26 .boolean (2 : Int32) [(.int (0 : Int32)), (.int (0 : Int32))] (.int (0 : Int32)) := (Arv.new A26 (by decide)).pad (pad_rep [] (.int (0 : Int32)) 2)
  have f28 := (((((((((((((F_kq_inBucket.ext E2).other W3 (Or.inr (slot_ne (Or.inr (wd 26 rfl)) (Or.inr (wd 12 rfl)) (by decide) (t := (.array .boolean)) (t' := (.array .int)) (by decide) (by decide)))).ext E6).other W7 (Or.inr (slot_ne (Or.inr (wd 26 rfl)) (Or.inr (wd 15 rfl)) (by decide) (t := (.array .boolean)) (t' := (.array .long)) (by decide) (by decide)))).ext E10).other W11 (Or.inr (slot_ne (Or.inr (wd 26 rfl)) (Or.inr (wd 17 rfl)) (by decide) (t := (.array .boolean)) (t' := (.array .long)) (by decide) (by decide)))).ext E14).other W15 (Or.inr (slot_ne (Or.inr (wd 26 rfl)) (Or.inr (wd 19 rfl)) (by decide) (t := (.array .boolean)) (t' := (.array .long)) (by decide) (by decide)))).ext E18).other W19 (Or.inr (slot_ne (Or.inr (wd 26 rfl)) (Or.inr (wd 21 rfl)) (by decide) (t := (.array .boolean)) (t' := (.array .int)) (by decide) (by decide)))).ext E22).other W23 (Or.inr (slot_ne (Or.inr (wd 26 rfl)) (Or.inr (wd 23 rfl)) (by decide) (t := (.array .boolean)) (t' := (.array .int)) (by decide) (by decide)))).ext E26)
  have f29 := ((f25.wr W23).ext E26)
  obtain ⟨T27, h27, X27, e27, W27, st27⟩ := putF X26 hx hZ hown (host := "") (Or.inl (wd 25 rfl)) Via.refl e26 f28 f29 (Or.inr ⟨(wd 26 rfl), rfl, hnm⟩) (wd 1 rfl) (ty := (.array .boolean)) (by decide) rfl rfl (g := (mkF m 54 #[.val (.ref kq), .val (.int (2 : Int32))] [(.ref fa26), (.ref kq)])) rfl rfl (D d1_54)
  have Fw27 : Fld Z h27 kq cQ "inBucket" "[Z" (.ref fa26) := Fld.same W27 f28
  have N27 := Fr.snoc X27 N23 g_kq
  have Zn27 : n0 ≤ h27.size := Nat.le_trans Zn26 (Keep.of_wr W27).1
  have K27 : Keep h0 h27 [kq] := K26.wr W27 (Or.inl (List.mem_of_getElem? (i := 0) rfl))
  have O27 := O26.wr W27 g_kq
  have f30 := ((((((((((((Fw3.ext E6).other W7 (Or.inr (slot_ne (Or.inr (wd 12 rfl)) (Or.inr (wd 15 rfl)) (by decide) (t := (.array .int)) (t' := (.array .long)) (by decide) (by decide)))).ext E10).other W11 (Or.inr (slot_ne (Or.inr (wd 12 rfl)) (Or.inr (wd 17 rfl)) (by decide) (t := (.array .int)) (t' := (.array .long)) (by decide) (by decide)))).ext E14).other W15 (Or.inr (slot_ne (Or.inr (wd 12 rfl)) (Or.inr (wd 19 rfl)) (by decide) (t := (.array .int)) (t' := (.array .long)) (by decide) (by decide)))).ext E18).other W19 (Or.inr (slot_ne (Or.inr (wd 12 rfl)) (Or.inr (wd 21 rfl)) (by decide) (t := (.array .int)) (t' := (.array .int)) (by decide) (by decide)))).ext E22).other W23 (Or.inr (slot_ne (Or.inr (wd 12 rfl)) (Or.inr (wd 23 rfl)) (by decide) (t := (.array .int)) (t' := (.array .int)) (by decide) (by decide)))).ext E26).other W27 (Or.inr (slot_ne (Or.inr (wd 12 rfl)) (Or.inr (wd 26 rfl)) (by decide) (t := (.array .int)) (t' := (.array .boolean)) (by decide) (by decide))))
  obtain ⟨T31, X31, e31, st31⟩ := getF X27 hx hZ hown (host := "") (Or.inl (wd 11 rfl)) Via.refl e27 f30 (g := (mkF m 58 #[.val (.ref kq), .val (.int (2 : Int32))] [(.ref kq)])) rfl rfl (D d1_58)
  have f32 := (((((((((((((V2.other W3 (Ne.symm (Nat.ne_of_lt (Nat.lt_of_lt_of_le E_kq.lt (Nat.le_of_eq g2.symm))))).ext E6).other W7 (Ne.symm (Nat.ne_of_lt (Nat.lt_of_lt_of_le E_kq.lt (Nat.le_of_eq g2.symm))))).ext E10).other W11 (Ne.symm (Nat.ne_of_lt (Nat.lt_of_lt_of_le E_kq.lt (Nat.le_of_eq g2.symm))))).ext E14).other W15 (Ne.symm (Nat.ne_of_lt (Nat.lt_of_lt_of_le E_kq.lt (Nat.le_of_eq g2.symm))))).ext E18).other W19 (Ne.symm (Nat.ne_of_lt (Nat.lt_of_lt_of_le E_kq.lt (Nat.le_of_eq g2.symm))))).ext E22).other W23 (Ne.symm (Nat.ne_of_lt (Nat.lt_of_lt_of_le E_kq.lt (Nat.le_of_eq g2.symm))))).ext E26).other W27 (Ne.symm (Nat.ne_of_lt (Nat.lt_of_lt_of_le E_kq.lt (Nat.le_of_eq g2.symm)))))
  obtain ⟨_, _, ⟨T33, L33, k33, n33⟩, -, X33, ⟨Lc33, hQ33, l33, y33, z33⟩, st33⟩ := Jvm.LawKit.callS X31 hx (y := (⟨"java/util/Arrays", "fill", "([II)V"⟩ : MethodName)) hown (mvT hZ (wd 27 rfl)) (mvT hZ (wd 28 rfl)) (mvT hZ (wd 29 rfl)) (mvT hZ (wd 30 rfl)) (by decide) (own_backH (W := 0) (rm_fill l Z a0 hw [] fa2 (-1 : Int32) fk2 (65536 : Int32) (0 : Int32) h27 n0 O27 f32 gn_fa2) hZH (wd 30 rfl) (wd 29 rfl) (by decide) (by decide)) (g := (mkF m 62 #[.val (.ref kq), .val (.int (2 : Int32))] [(.int (-1 : Int32)), (.ref fa2)])) rfl (by rw [hml]; rfl) (argsL := [(.ref fa2), (.int (-1 : Int32))]) (rest := []) (lenOf pd_10 rfl) rfl (by show 2 * 0 + _ ≤ _; exact Nat.le_of_eq rfl) (D d1_62) (fun _ _ => ⟨rfl, e31, (by decide : 7 + 0 ≤ _), (by decide : 66584 + 0 ≤ _)⟩)
  dsimp only [Pt.U, Pt.locs, Pt.cells, Pt.slots] at X33 l33 y33 z33 st33 hQ33
  subst l33 y33 z33
  obtain ⟨rfl, N33q, K33, Q33_0⟩ := hQ33
  have O33 := O27.keep K33 (allS gn_fa2 all0)
  have KK33 : Keep h0 T33.heap [kq] := K27.trans K33 (allS (Or.inr gh_fa2) all0)
  have N33 := Fr.app N27 N33q
  obtain ⟨T34, h34, X34, e34, E34, A34, D34, -, st34⟩ := newO X33 hx hZ hown (wd 31 rfl) (wd 32 rfl) (wd 33 rfl) rfl (g := (mkF m 66 #[.val (.ref kq), .val (.int (2 : Int32))] [(.ref kq)])) rfl (D d1_66) (by decide) (by decide)
  obtain ⟨fa34, g34⟩ : ∃ z, z = T33.heap.size := ⟨_, rfl⟩
  rw [← g34] at A34 D34 st34
  have gn_fa34 : n0 ≤ fa34 := Nat.le_trans (own_oldsz O33) (Nat.le_of_eq g34.symm)
  have gh_fa34 : h0.size ≤ fa34 := Nat.le_trans KK33.1 (Nat.le_of_eq g34.symm)
  have Zn34 : n0 ≤ h34.size := Nat.le_trans (own_oldsz O33) E34.1
  have K34 : Keep h0 h34 [kq] := KK33.ext E34
  have O34 := O33.ext E34
  have F34_order : Fld Z h34 fa34 cH "order" "Lcom/example/leasewise/leasewise/IndexedHeap$Order;" .null := D34 (Or.inr (wd 43 rfl)) (ty := (.object "com/example/leasewise/leasewise/IndexedHeap$Order")) (by decide)
  have F34_entries : Fld Z h34 fa34 cH "entries" "[I" .null := D34 (Or.inr (wd 45 rfl)) (ty := (.array .int)) (by decide)
  have F34_positions : Fld Z h34 fa34 cH "positions" "[I" .null := D34 (Or.inr (wd 47 rfl)) (ty := (.array .int)) (by decide)
  have F34_size : Fld Z h34 fa34 cH "size" "I" (.int (0 : Int32)) := D34 (Or.inl (wd 64 rfl)) (ty := .int) (by decide)
  obtain ⟨cK35, T35, h35, MD35, X35, e35, E35, Y35, st35⟩ := own_siteM X34 hx hZH Bd.named (wd 34 rfl) rfl rfl own_capok (wd 37 rfl) e34 (g := (mkF m 72 #[.val (.ref kq), .val (.int (2 : Int32))] [(.ref kq), (.int (2 : Int32)), (.ref fa34), (.ref fa34), (.ref kq)])) rfl rfl (by rw [hml]; rfl) (D d1_72) rfl (Nat.le_of_ble_eq_true rfl) (by decide) (by decide)
  obtain ⟨fa35, g35⟩ : ∃ z, z = h34.size := ⟨_, rfl⟩
  rw [← g35] at Y35 st35
  have gn_fa35 : n0 ≤ fa35 := Nat.le_trans Zn34 (Nat.le_of_eq g35.symm)
  have gh_fa35 : h0.size ≤ fa35 := Nat.le_trans K34.1 (Nat.le_of_eq g35.symm)
  have Zn35 : n0 ≤ h35.size := Nat.le_trans Zn34 E35.1
  have K35 : Keep h0 h35 [kq] := K34.ext E35
  have O35 := O34.ext E35
  have f36 := (A34.ext E35)
  have f37 := (F34_order.ext E35)
  have f38 := (F34_entries.ext E35)
  have f39 := (F34_positions.ext E35)
  have f40 := (F34_size.ext E35)
  obtain ⟨_, _, ⟨T41, L41, k41, n41⟩, -, X41, ⟨Lc41, hQ41, l41, y41, z41⟩, st41⟩ := X35.specialBack hx (y := (⟨cH, "<init>", "(ILcom/example/leasewise/leasewise/IndexedHeap$Order;)V"⟩ : MethodName)) rfl hown (mvT hZ (wd 38 rfl)) (mvT hZ (wd 39 rfl)) (mvT hZ (wd 40 rfl)) (by decide) (own_backH (W := 2) (rm_hinit l Z a0 hw [] fa34 fa35 h35 n0 O35 f36 f37 f38 f39 f40 gn_fa34) hZH (wd 40 rfl) (wd 33 rfl) (by decide) (by decide)) (g := (mkF m 77 #[.val (.ref kq), .val (.int (2 : Int32))] [(.ref fa35), (.int (2 : Int32)), (.ref fa34), (.ref fa34), (.ref kq)])) rfl (by rw [hml]; rfl) (Steps.refl _) (a := fa34) (argsL := [(.int (2 : Int32)), (.ref fa35)]) (rest := [(.ref fa34), (.ref kq)]) (lenOf pd_11 rfl) rfl (by show 2 * 0 + _ ≤ _; exact Nat.le_of_eq rfl) (D d1_77) (fun _ _ => ⟨rfl, e35, (by decide : 9 + 2 ≤ _), (by decide : 66589 + 4 ≤ _)⟩)
  dsimp only [Pt.U, Pt.locs, Pt.cells, Pt.slots] at X41 l41 y41 z41 st41 hQ41
  subst l41 y41 z41
  obtain ⟨aE_41, aP_41, kE_41, kP_41, rfl, N41q, K41, gq_aE_41, gq_aP_41, Q41_0, Q41_1, Q41_2, Q41_3, Q41_4, Q41_5, Q41_6⟩ := hQ41
  have gn_aE_41 : n0 ≤ aE_41 := Nat.le_trans (own_oldsz O35) gq_aE_41
  have gh_aE_41 : h0.size ≤ aE_41 := Nat.le_trans K35.1 gq_aE_41
  have gn_aP_41 : n0 ≤ aP_41 := Nat.le_trans (own_oldsz O35) gq_aP_41
  have gh_aP_41 : h0.size ≤ aP_41 := Nat.le_trans K35.1 gq_aP_41
  have O41 := O35.keep K41 (allS gn_fa34 all0)
  have KK41 : Keep h0 T41.heap [kq] := K35.trans K41 (allS (Or.inr gh_fa34) all0)
  have N41 := Fr.app N33 N41q
  have f43 := ((((((((((((((((((F_kq_further.ext E2).other W3 (Or.inr (slot_ne (Or.inr (wd 50 rfl)) (Or.inr (wd 12 rfl)) (by decide) (t := (.object cH)) (t' := (.array .int)) (by decide) (by decide)))).ext E6).other W7 (Or.inr (slot_ne (Or.inr (wd 50 rfl)) (Or.inr (wd 15 rfl)) (by decide) (t := (.object cH)) (t' := (.array .long)) (by decide) (by decide)))).ext E10).other W11 (Or.inr (slot_ne (Or.inr (wd 50 rfl)) (Or.inr (wd 17 rfl)) (by decide) (t := (.object cH)) (t' := (.array .long)) (by decide) (by decide)))).ext E14).other W15 (Or.inr (slot_ne (Or.inr (wd 50 rfl)) (Or.inr (wd 19 rfl)) (by decide) (t := (.object cH)) (t' := (.array .long)) (by decide) (by decide)))).ext E18).other W19 (Or.inr (slot_ne (Or.inr (wd 50 rfl)) (Or.inr (wd 21 rfl)) (by decide) (t := (.object cH)) (t' := (.array .int)) (by decide) (by decide)))).ext E22).other W23 (Or.inr (slot_ne (Or.inr (wd 50 rfl)) (Or.inr (wd 23 rfl)) (by decide) (t := (.object cH)) (t' := (.array .int)) (by decide) (by decide)))).ext E26).other W27 (Or.inr (slot_ne (Or.inr (wd 50 rfl)) (Or.inr (wd 26 rfl)) (by decide) (t := (.object cH)) (t' := (.array .boolean)) (by decide) (by decide)))).keep K33 (ninS (Nat.ne_of_lt (Nat.lt_of_lt_of_le E_kq.lt (Nat.le_of_eq g2.symm))) nin0)).ext E34).ext E35).keep K41 (ninS (Nat.ne_of_lt (Nat.lt_of_lt_of_le E_kq.lt (Nat.le_trans E2.1 (Nat.le_trans (Keep.of_wr W3).1 (Nat.le_trans E6.1 (Nat.le_trans (Keep.of_wr W7).1 (Nat.le_trans E10.1 (Nat.le_trans (Keep.of_wr W11).1 (Nat.le_trans E14.1 (Nat.le_trans (Keep.of_wr W15).1 (Nat.le_trans E18.1 (Nat.le_trans (Keep.of_wr W19).1 (Nat.le_trans E22.1 (Nat.le_trans (Keep.of_wr W23).1 (Nat.le_trans E26.1 (Nat.le_trans (Keep.of_wr W27).1 (Nat.le_trans K33.1 (Nat.le_of_eq g34.symm)))))))))))))))))) nin0))
  have f44 := (((((f29.wr W27).keep K33).ext E34).ext E35).keep K41)
  obtain ⟨T42, h42, X42, e42, W42, st42⟩ := putF X41 hx hZ hown (host := "") (Or.inl (wd 49 rfl)) Via.refl rfl f43 f44 (Or.inr ⟨(wd 50 rfl), rfl, hnm⟩) (wd 1 rfl) (ty := (.object cH)) (by decide) rfl rfl (g := (mkF m 80 #[.val (.ref kq), .val (.int (2 : Int32))] [(.ref fa34), (.ref kq)])) rfl rfl (D d1_80)
  have Fw42 : Fld Z h42 kq cQ "further" "Lcom/example/leasewise/leasewise/IndexedHeap;" (.ref fa34) := Fld.same W42 f43
  have N42 := Fr.snoc X42 N41 g_kq
  have Zn42 : n0 ≤ h42.size := Nat.le_trans (own_oldsz O41) (Keep.of_wr W42).1
  have K42 : Keep h0 h42 [kq] := KK41.wr W42 (Or.inl (List.mem_of_getElem? (i := 0) rfl))
  have O42 := O41.wr W42 g_kq
  have f46 := ((((Q33_0.ext E34).ext E35).keep K41 (ninS (Nat.ne_of_lt (Nat.lt_of_lt_of_le V2.lt (Nat.le_trans (Keep.of_wr W3).1 (Nat.le_trans E6.1 (Nat.le_trans (Keep.of_wr W7).1 (Nat.le_trans E10.1 (Nat.le_trans (Keep.of_wr W11).1 (Nat.le_trans E14.1 (Nat.le_trans (Keep.of_wr W15).1 (Nat.le_trans E18.1 (Nat.le_trans (Keep.of_wr W19).1 (Nat.le_trans E22.1 (Nat.le_trans (Keep.of_wr W23).1 (Nat.le_trans E26.1 (Nat.le_trans (Keep.of_wr W27).1 (Nat.le_trans K33.1 (Nat.le_of_eq g34.symm))))))))))))))))) nin0)).other W42 (Ne.symm (Nat.ne_of_lt (Nat.lt_of_lt_of_le E_kq.lt (Nat.le_of_eq g2.symm)))))
  have Vp45 : ArfI Z h42 fa2 fk2 (65536 : Int32) (fun _ => (-1 : Int32)) := ArfI.of f46
  have f48 := ((((((((((((((((V6.other W7 (Ne.symm (Nat.ne_of_lt (Nat.lt_of_lt_of_le E_kq.lt (Nat.le_trans E2.1 (Nat.le_trans (Keep.of_wr W3).1 (Nat.le_of_eq g6.symm))))))).ext E10).other W11 (Ne.symm (Nat.ne_of_lt (Nat.lt_of_lt_of_le E_kq.lt (Nat.le_trans E2.1 (Nat.le_trans (Keep.of_wr W3).1 (Nat.le_of_eq g6.symm))))))).ext E14).other W15 (Ne.symm (Nat.ne_of_lt (Nat.lt_of_lt_of_le E_kq.lt (Nat.le_trans E2.1 (Nat.le_trans (Keep.of_wr W3).1 (Nat.le_of_eq g6.symm))))))).ext E18).other W19 (Ne.symm (Nat.ne_of_lt (Nat.lt_of_lt_of_le E_kq.lt (Nat.le_trans E2.1 (Nat.le_trans (Keep.of_wr W3).1 (Nat.le_of_eq g6.symm))))))).ext E22).other W23 (Ne.symm (Nat.ne_of_lt (Nat.lt_of_lt_of_le E_kq.lt (Nat.le_trans E2.1 (Nat.le_trans (Keep.of_wr W3).1 (Nat.le_of_eq g6.symm))))))).ext E26).other W27 (Ne.symm (Nat.ne_of_lt (Nat.lt_of_lt_of_le E_kq.lt (Nat.le_trans E2.1 (Nat.le_trans (Keep.of_wr W3).1 (Nat.le_of_eq g6.symm))))))).keep K33 (ninS (Ne.symm (Nat.ne_of_lt (Nat.lt_of_lt_of_le V2.lt (Nat.le_trans (Keep.of_wr W3).1 (Nat.le_of_eq g6.symm))))) nin0)).ext E34).ext E35).keep K41 (ninS (Nat.ne_of_lt (Nat.lt_of_lt_of_le V6.lt (Nat.le_trans (Keep.of_wr W7).1 (Nat.le_trans E10.1 (Nat.le_trans (Keep.of_wr W11).1 (Nat.le_trans E14.1 (Nat.le_trans (Keep.of_wr W15).1 (Nat.le_trans E18.1 (Nat.le_trans (Keep.of_wr W19).1 (Nat.le_trans E22.1 (Nat.le_trans (Keep.of_wr W23).1 (Nat.le_trans E26.1 (Nat.le_trans (Keep.of_wr W27).1 (Nat.le_trans K33.1 (Nat.le_of_eq g34.symm))))))))))))))) nin0)).other W42 (Ne.symm (Nat.ne_of_lt (Nat.lt_of_lt_of_le E_kq.lt (Nat.le_trans E2.1 (Nat.le_trans (Keep.of_wr W3).1 (Nat.le_of_eq g6.symm)))))))
  have Vp47 : ArfJ Z h42 fa6 fk6 (1024 : Int32) (fun _ => (0 : Int64)) := ArfJ.of f48
  have f50 := ((((((((((((((V10.other W11 (Ne.symm (Nat.ne_of_lt (Nat.lt_of_lt_of_le E_kq.lt (Nat.le_trans E2.1 (Nat.le_trans (Keep.of_wr W3).1 (Nat.le_trans E6.1 (Nat.le_trans (Keep.of_wr W7).1 (Nat.le_of_eq g10.symm))))))))).ext E14).other W15 (Ne.symm (Nat.ne_of_lt (Nat.lt_of_lt_of_le E_kq.lt (Nat.le_trans E2.1 (Nat.le_trans (Keep.of_wr W3).1 (Nat.le_trans E6.1 (Nat.le_trans (Keep.of_wr W7).1 (Nat.le_of_eq g10.symm))))))))).ext E18).other W19 (Ne.symm (Nat.ne_of_lt (Nat.lt_of_lt_of_le E_kq.lt (Nat.le_trans E2.1 (Nat.le_trans (Keep.of_wr W3).1 (Nat.le_trans E6.1 (Nat.le_trans (Keep.of_wr W7).1 (Nat.le_of_eq g10.symm))))))))).ext E22).other W23 (Ne.symm (Nat.ne_of_lt (Nat.lt_of_lt_of_le E_kq.lt (Nat.le_trans E2.1 (Nat.le_trans (Keep.of_wr W3).1 (Nat.le_trans E6.1 (Nat.le_trans (Keep.of_wr W7).1 (Nat.le_of_eq g10.symm))))))))).ext E26).other W27 (Ne.symm (Nat.ne_of_lt (Nat.lt_of_lt_of_le E_kq.lt (Nat.le_trans E2.1 (Nat.le_trans (Keep.of_wr W3).1 (Nat.le_trans E6.1 (Nat.le_trans (Keep.of_wr W7).1 (Nat.le_of_eq g10.symm))))))))).keep K33 (ninS (Ne.symm (Nat.ne_of_lt (Nat.lt_of_lt_of_le V2.lt (Nat.le_trans (Keep.of_wr W3).1 (Nat.le_trans E6.1 (Nat.le_trans (Keep.of_wr W7).1 (Nat.le_of_eq g10.symm))))))) nin0)).ext E34).ext E35).keep K41 (ninS (Nat.ne_of_lt (Nat.lt_of_lt_of_le V10.lt (Nat.le_trans (Keep.of_wr W11).1 (Nat.le_trans E14.1 (Nat.le_trans (Keep.of_wr W15).1 (Nat.le_trans E18.1 (Nat.le_trans (Keep.of_wr W19).1 (Nat.le_trans E22.1 (Nat.le_trans (Keep.of_wr W23).1 (Nat.le_trans E26.1 (Nat.le_trans (Keep.of_wr W27).1 (Nat.le_trans K33.1 (Nat.le_of_eq g34.symm))))))))))))) nin0)).other W42 (Ne.symm (Nat.ne_of_lt (Nat.lt_of_lt_of_le E_kq.lt (Nat.le_trans E2.1 (Nat.le_trans (Keep.of_wr W3).1 (Nat.le_trans E6.1 (Nat.le_trans (Keep.of_wr W7).1 (Nat.le_of_eq g10.symm)))))))))
  have Vu49 : Arv Z h42 fa10 fk10 .long (16 : Int32) [] (.long (0 : Int64)) := (f50).pad (fun i => (pad_rep [] (.long (0 : Int64)) 16 i).symm)
  have Vp51 : ArfJ Z h42 fa10 fk10 (16 : Int32) (fun _ => (0 : Int64)) := ArfJ.of Vu49
  have f52 := (((((((((((Fw15.ext E18).other W19 (Or.inr (slot_ne (Or.inr (wd 19 rfl)) (Or.inr (wd 21 rfl)) (by decide) (t := (.array .long)) (t' := (.array .int)) (by decide) (by decide)))).ext E22).other W23 (Or.inr (slot_ne (Or.inr (wd 19 rfl)) (Or.inr (wd 23 rfl)) (by decide) (t := (.array .long)) (t' := (.array .int)) (by decide) (by decide)))).ext E26).other W27 (Or.inr (slot_ne (Or.inr (wd 19 rfl)) (Or.inr (wd 26 rfl)) (by decide) (t := (.array .long)) (t' := (.array .boolean)) (by decide) (by decide)))).keep K33 (ninS (Nat.ne_of_lt (Nat.lt_of_lt_of_le E_kq.lt (Nat.le_of_eq g2.symm))) nin0)).ext E34).ext E35).keep K41 (ninS (Nat.ne_of_lt (Nat.lt_of_lt_of_le E_kq.lt (Nat.le_trans E2.1 (Nat.le_trans (Keep.of_wr W3).1 (Nat.le_trans E6.1 (Nat.le_trans (Keep.of_wr W7).1 (Nat.le_trans E10.1 (Nat.le_trans (Keep.of_wr W11).1 (Nat.le_trans E14.1 (Nat.le_trans (Keep.of_wr W15).1 (Nat.le_trans E18.1 (Nat.le_trans (Keep.of_wr W19).1 (Nat.le_trans E22.1 (Nat.le_trans (Keep.of_wr W23).1 (Nat.le_trans E26.1 (Nat.le_trans (Keep.of_wr W27).1 (Nat.le_trans K33.1 (Nat.le_of_eq g34.symm)))))))))))))))))) nin0)).other W42 (Or.inr (slot_ne (Or.inr (wd 19 rfl)) (Or.inr (wd 50 rfl)) (by decide) (t := (.array .long)) (t' := (.object cH)) (by decide) (by decide))))
  have f53 := (((((((((Fw19.ext E22).other W23 (Or.inr (slot_ne (Or.inr (wd 21 rfl)) (Or.inr (wd 23 rfl)) (by decide) (t := (.array .int)) (t' := (.array .int)) (by decide) (by decide)))).ext E26).other W27 (Or.inr (slot_ne (Or.inr (wd 21 rfl)) (Or.inr (wd 26 rfl)) (by decide) (t := (.array .int)) (t' := (.array .boolean)) (by decide) (by decide)))).keep K33 (ninS (Nat.ne_of_lt (Nat.lt_of_lt_of_le E_kq.lt (Nat.le_of_eq g2.symm))) nin0)).ext E34).ext E35).keep K41 (ninS (Nat.ne_of_lt (Nat.lt_of_lt_of_le E_kq.lt (Nat.le_trans E2.1 (Nat.le_trans (Keep.of_wr W3).1 (Nat.le_trans E6.1 (Nat.le_trans (Keep.of_wr W7).1 (Nat.le_trans E10.1 (Nat.le_trans (Keep.of_wr W11).1 (Nat.le_trans E14.1 (Nat.le_trans (Keep.of_wr W15).1 (Nat.le_trans E18.1 (Nat.le_trans (Keep.of_wr W19).1 (Nat.le_trans E22.1 (Nat.le_trans (Keep.of_wr W23).1 (Nat.le_trans E26.1 (Nat.le_trans (Keep.of_wr W27).1 (Nat.le_trans K33.1 (Nat.le_of_eq g34.symm)))))))))))))))))) nin0)).other W42 (Or.inr (slot_ne (Or.inr (wd 21 rfl)) (Or.inr (wd 50 rfl)) (by decide) (t := (.array .int)) (t' := (.object cH)) (by decide) (by decide))))
  have f54 := (((((((Fw23.ext E26).other W27 (Or.inr (slot_ne (Or.inr (wd 23 rfl)) (Or.inr (wd 26 rfl)) (by decide) (t := (.array .int)) (t' := (.array .boolean)) (by decide) (by decide)))).keep K33 (ninS (Nat.ne_of_lt (Nat.lt_of_lt_of_le E_kq.lt (Nat.le_of_eq g2.symm))) nin0)).ext E34).ext E35).keep K41 (ninS (Nat.ne_of_lt (Nat.lt_of_lt_of_le E_kq.lt (Nat.le_trans E2.1 (Nat.le_trans (Keep.of_wr W3).1 (Nat.le_trans E6.1 (Nat.le_trans (Keep.of_wr W7).1 (Nat.le_trans E10.1 (Nat.le_trans (Keep.of_wr W11).1 (Nat.le_trans E14.1 (Nat.le_trans (Keep.of_wr W15).1 (Nat.le_trans E18.1 (Nat.le_trans (Keep.of_wr W19).1 (Nat.le_trans E22.1 (Nat.le_trans (Keep.of_wr W23).1 (Nat.le_trans E26.1 (Nat.le_trans (Keep.of_wr W27).1 (Nat.le_trans K33.1 (Nat.le_of_eq g34.symm)))))))))))))))))) nin0)).other W42 (Or.inr (slot_ne (Or.inr (wd 23 rfl)) (Or.inr (wd 50 rfl)) (by decide) (t := (.array .int)) (t' := (.object cH)) (by decide) (by decide))))
  have f55 := (((((Fw27.keep K33 (ninS (Nat.ne_of_lt (Nat.lt_of_lt_of_le E_kq.lt (Nat.le_of_eq g2.symm))) nin0)).ext E34).ext E35).keep K41 (ninS (Nat.ne_of_lt (Nat.lt_of_lt_of_le E_kq.lt (Nat.le_trans E2.1 (Nat.le_trans (Keep.of_wr W3).1 (Nat.le_trans E6.1 (Nat.le_trans (Keep.of_wr W7).1 (Nat.le_trans E10.1 (Nat.le_trans (Keep.of_wr W11).1 (Nat.le_trans E14.1 (Nat.le_trans (Keep.of_wr W15).1 (Nat.le_trans E18.1 (Nat.le_trans (Keep.of_wr W19).1 (Nat.le_trans E22.1 (Nat.le_trans (Keep.of_wr W23).1 (Nat.le_trans E26.1 (Nat.le_trans (Keep.of_wr W27).1 (Nat.le_trans K33.1 (Nat.le_of_eq g34.symm)))))))))))))))))) nin0)).other W42 (Or.inr (slot_ne (Or.inr (wd 26 rfl)) (Or.inr (wd 50 rfl)) (by decide) (t := (.array .boolean)) (t' := (.object cH)) (by decide) (by decide))))
  have f56 := (((((f30.keep K33 (ninS (Nat.ne_of_lt (Nat.lt_of_lt_of_le E_kq.lt (Nat.le_of_eq g2.symm))) nin0)).ext E34).ext E35).keep K41 (ninS (Nat.ne_of_lt (Nat.lt_of_lt_of_le E_kq.lt (Nat.le_trans E2.1 (Nat.le_trans (Keep.of_wr W3).1 (Nat.le_trans E6.1 (Nat.le_trans (Keep.of_wr W7).1 (Nat.le_trans E10.1 (Nat.le_trans (Keep.of_wr W11).1 (Nat.le_trans E14.1 (Nat.le_trans (Keep.of_wr W15).1 (Nat.le_trans E18.1 (Nat.le_trans (Keep.of_wr W19).1 (Nat.le_trans E22.1 (Nat.le_trans (Keep.of_wr W23).1 (Nat.le_trans E26.1 (Nat.le_trans (Keep.of_wr W27).1 (Nat.le_trans K33.1 (Nat.le_of_eq g34.symm)))))))))))))))))) nin0)).other W42 (Or.inr (slot_ne (Or.inr (wd 12 rfl)) (Or.inr (wd 50 rfl)) (by decide) (t := (.array .int)) (t' := (.object cH)) (by decide) (by decide))))
  have f57 := (((((((((((((((Fw7.ext E10).other W11 (Or.inr (slot_ne (Or.inr (wd 15 rfl)) (Or.inr (wd 17 rfl)) (by decide) (t := (.array .long)) (t' := (.array .long)) (by decide) (by decide)))).ext E14).other W15 (Or.inr (slot_ne (Or.inr (wd 15 rfl)) (Or.inr (wd 19 rfl)) (by decide) (t := (.array .long)) (t' := (.array .long)) (by decide) (by decide)))).ext E18).other W19 (Or.inr (slot_ne (Or.inr (wd 15 rfl)) (Or.inr (wd 21 rfl)) (by decide) (t := (.array .long)) (t' := (.array .int)) (by decide) (by decide)))).ext E22).other W23 (Or.inr (slot_ne (Or.inr (wd 15 rfl)) (Or.inr (wd 23 rfl)) (by decide) (t := (.array .long)) (t' := (.array .int)) (by decide) (by decide)))).ext E26).other W27 (Or.inr (slot_ne (Or.inr (wd 15 rfl)) (Or.inr (wd 26 rfl)) (by decide) (t := (.array .long)) (t' := (.array .boolean)) (by decide) (by decide)))).keep K33 (ninS (Nat.ne_of_lt (Nat.lt_of_lt_of_le E_kq.lt (Nat.le_of_eq g2.symm))) nin0)).ext E34).ext E35).keep K41 (ninS (Nat.ne_of_lt (Nat.lt_of_lt_of_le E_kq.lt (Nat.le_trans E2.1 (Nat.le_trans (Keep.of_wr W3).1 (Nat.le_trans E6.1 (Nat.le_trans (Keep.of_wr W7).1 (Nat.le_trans E10.1 (Nat.le_trans (Keep.of_wr W11).1 (Nat.le_trans E14.1 (Nat.le_trans (Keep.of_wr W15).1 (Nat.le_trans E18.1 (Nat.le_trans (Keep.of_wr W19).1 (Nat.le_trans E22.1 (Nat.le_trans (Keep.of_wr W23).1 (Nat.le_trans E26.1 (Nat.le_trans (Keep.of_wr W27).1 (Nat.le_trans K33.1 (Nat.le_of_eq g34.symm)))))))))))))))))) nin0)).other W42 (Or.inr (slot_ne (Or.inr (wd 15 rfl)) (Or.inr (wd 50 rfl)) (by decide) (t := (.array .long)) (t' := (.object cH)) (by decide) (by decide))))
  have f58 := (((((((((((((Fw11.ext E14).other W15 (Or.inr (slot_ne (Or.inr (wd 17 rfl)) (Or.inr (wd 19 rfl)) (by decide) (t := (.array .long)) (t' := (.array .long)) (by decide) (by decide)))).ext E18).other W19 (Or.inr (slot_ne (Or.inr (wd 17 rfl)) (Or.inr (wd 21 rfl)) (by decide) (t := (.array .long)) (t' := (.array .int)) (by decide) (by decide)))).ext E22).other W23 (Or.inr (slot_ne (Or.inr (wd 17 rfl)) (Or.inr (wd 23 rfl)) (by decide) (t := (.array .long)) (t' := (.array .int)) (by decide) (by decide)))).ext E26).other W27 (Or.inr (slot_ne (Or.inr (wd 17 rfl)) (Or.inr (wd 26 rfl)) (by decide) (t := (.array .long)) (t' := (.array .boolean)) (by decide) (by decide)))).keep K33 (ninS (Nat.ne_of_lt (Nat.lt_of_lt_of_le E_kq.lt (Nat.le_of_eq g2.symm))) nin0)).ext E34).ext E35).keep K41 (ninS (Nat.ne_of_lt (Nat.lt_of_lt_of_le E_kq.lt (Nat.le_trans E2.1 (Nat.le_trans (Keep.of_wr W3).1 (Nat.le_trans E6.1 (Nat.le_trans (Keep.of_wr W7).1 (Nat.le_trans E10.1 (Nat.le_trans (Keep.of_wr W11).1 (Nat.le_trans E14.1 (Nat.le_trans (Keep.of_wr W15).1 (Nat.le_trans E18.1 (Nat.le_trans (Keep.of_wr W19).1 (Nat.le_trans E22.1 (Nat.le_trans (Keep.of_wr W23).1 (Nat.le_trans E26.1 (Nat.le_trans (Keep.of_wr W27).1 (Nat.le_trans K33.1 (Nat.le_of_eq g34.symm)))))))))))))))))) nin0)).other W42 (Or.inr (slot_ne (Or.inr (wd 17 rfl)) (Or.inr (wd 50 rfl)) (by decide) (t := (.array .long)) (t' := (.object cH)) (by decide) (by decide))))
  have f59 := (((((((((((((((((((F_kq_bucketed.ext E2).other W3 (Or.inr (slot_ne (Or.inl (wd 57 rfl)) (Or.inr (wd 12 rfl)) (by decide) (t := .int) (t' := (.array .int)) (by decide) (by decide)))).ext E6).other W7 (Or.inr (slot_ne (Or.inl (wd 57 rfl)) (Or.inr (wd 15 rfl)) (by decide) (t := .int) (t' := (.array .long)) (by decide) (by decide)))).ext E10).other W11 (Or.inr (slot_ne (Or.inl (wd 57 rfl)) (Or.inr (wd 17 rfl)) (by decide) (t := .int) (t' := (.array .long)) (by decide) (by decide)))).ext E14).other W15 (Or.inr (slot_ne (Or.inl (wd 57 rfl)) (Or.inr (wd 19 rfl)) (by decide) (t := .int) (t' := (.array .long)) (by decide) (by decide)))).ext E18).other W19 (Or.inr (slot_ne (Or.inl (wd 57 rfl)) (Or.inr (wd 21 rfl)) (by decide) (t := .int) (t' := (.array .int)) (by decide) (by decide)))).ext E22).other W23 (Or.inr (slot_ne (Or.inl (wd 57 rfl)) (Or.inr (wd 23 rfl)) (by decide) (t := .int) (t' := (.array .int)) (by decide) (by decide)))).ext E26).other W27 (Or.inr (slot_ne (Or.inl (wd 57 rfl)) (Or.inr (wd 26 rfl)) (by decide) (t := .int) (t' := (.array .boolean)) (by decide) (by decide)))).keep K33 (ninS (Nat.ne_of_lt (Nat.lt_of_lt_of_le E_kq.lt (Nat.le_of_eq g2.symm))) nin0)).ext E34).ext E35).keep K41 (ninS (Nat.ne_of_lt (Nat.lt_of_lt_of_le E_kq.lt (Nat.le_trans E2.1 (Nat.le_trans (Keep.of_wr W3).1 (Nat.le_trans E6.1 (Nat.le_trans (Keep.of_wr W7).1 (Nat.le_trans E10.1 (Nat.le_trans (Keep.of_wr W11).1 (Nat.le_trans E14.1 (Nat.le_trans (Keep.of_wr W15).1 (Nat.le_trans E18.1 (Nat.le_trans (Keep.of_wr W19).1 (Nat.le_trans E22.1 (Nat.le_trans (Keep.of_wr W23).1 (Nat.le_trans E26.1 (Nat.le_trans (Keep.of_wr W27).1 (Nat.le_trans K33.1 (Nat.le_of_eq g34.symm)))))))))))))))))) nin0)).other W42 (Or.inr (slot_ne (Or.inl (wd 57 rfl)) (Or.inr (wd 50 rfl)) (by decide) (t := .int) (t' := (.object cH)) (by decide) (by decide))))
  have f60 := (((((((((((((((((((F_kq_floor.ext E2).other W3 (Or.inr (slot_ne (Or.inl (wd 72 rfl)) (Or.inr (wd 12 rfl)) (by decide) (t := .long) (t' := (.array .int)) (by decide) (by decide)))).ext E6).other W7 (Or.inr (slot_ne (Or.inl (wd 72 rfl)) (Or.inr (wd 15 rfl)) (by decide) (t := .long) (t' := (.array .long)) (by decide) (by decide)))).ext E10).other W11 (Or.inr (slot_ne (Or.inl (wd 72 rfl)) (Or.inr (wd 17 rfl)) (by decide) (t := .long) (t' := (.array .long)) (by decide) (by decide)))).ext E14).other W15 (Or.inr (slot_ne (Or.inl (wd 72 rfl)) (Or.inr (wd 19 rfl)) (by decide) (t := .long) (t' := (.array .long)) (by decide) (by decide)))).ext E18).other W19 (Or.inr (slot_ne (Or.inl (wd 72 rfl)) (Or.inr (wd 21 rfl)) (by decide) (t := .long) (t' := (.array .int)) (by decide) (by decide)))).ext E22).other W23 (Or.inr (slot_ne (Or.inl (wd 72 rfl)) (Or.inr (wd 23 rfl)) (by decide) (t := .long) (t' := (.array .int)) (by decide) (by decide)))).ext E26).other W27 (Or.inr (slot_ne (Or.inl (wd 72 rfl)) (Or.inr (wd 26 rfl)) (by decide) (t := .long) (t' := (.array .boolean)) (by decide) (by decide)))).keep K33 (ninS (Nat.ne_of_lt (Nat.lt_of_lt_of_le E_kq.lt (Nat.le_of_eq g2.symm))) nin0)).ext E34).ext E35).keep K41 (ninS (Nat.ne_of_lt (Nat.lt_of_lt_of_le E_kq.lt (Nat.le_trans E2.1 (Nat.le_trans (Keep.of_wr W3).1 (Nat.le_trans E6.1 (Nat.le_trans (Keep.of_wr W7).1 (Nat.le_trans E10.1 (Nat.le_trans (Keep.of_wr W11).1 (Nat.le_trans E14.1 (Nat.le_trans (Keep.of_wr W15).1 (Nat.le_trans E18.1 (Nat.le_trans (Keep.of_wr W19).1 (Nat.le_trans E22.1 (Nat.le_trans (Keep.of_wr W23).1 (Nat.le_trans E26.1 (Nat.le_trans (Keep.of_wr W27).1 (Nat.le_trans K33.1 (Nat.le_of_eq g34.symm)))))))))))))))))) nin0)).other W42 (Or.inr (slot_ne (Or.inl (wd 72 rfl)) (Or.inr (wd 50 rfl)) (by decide) (t := .long) (t' := (.object cH)) (by decide) (by decide))))
  have f61 := ((((((((((((V14.other W15 (Ne.symm (Nat.ne_of_lt (Nat.lt_of_lt_of_le E_kq.lt (Nat.le_trans E2.1 (Nat.le_trans (Keep.of_wr W3).1 (Nat.le_trans E6.1 (Nat.le_trans (Keep.of_wr W7).1 (Nat.le_trans E10.1 (Nat.le_trans (Keep.of_wr W11).1 (Nat.le_of_eq g14.symm))))))))))).ext E18).other W19 (Ne.symm (Nat.ne_of_lt (Nat.lt_of_lt_of_le E_kq.lt (Nat.le_trans E2.1 (Nat.le_trans (Keep.of_wr W3).1 (Nat.le_trans E6.1 (Nat.le_trans (Keep.of_wr W7).1 (Nat.le_trans E10.1 (Nat.le_trans (Keep.of_wr W11).1 (Nat.le_of_eq g14.symm))))))))))).ext E22).other W23 (Ne.symm (Nat.ne_of_lt (Nat.lt_of_lt_of_le E_kq.lt (Nat.le_trans E2.1 (Nat.le_trans (Keep.of_wr W3).1 (Nat.le_trans E6.1 (Nat.le_trans (Keep.of_wr W7).1 (Nat.le_trans E10.1 (Nat.le_trans (Keep.of_wr W11).1 (Nat.le_of_eq g14.symm))))))))))).ext E26).other W27 (Ne.symm (Nat.ne_of_lt (Nat.lt_of_lt_of_le E_kq.lt (Nat.le_trans E2.1 (Nat.le_trans (Keep.of_wr W3).1 (Nat.le_trans E6.1 (Nat.le_trans (Keep.of_wr W7).1 (Nat.le_trans E10.1 (Nat.le_trans (Keep.of_wr W11).1 (Nat.le_of_eq g14.symm))))))))))).keep K33 (ninS (Ne.symm (Nat.ne_of_lt (Nat.lt_of_lt_of_le V2.lt (Nat.le_trans (Keep.of_wr W3).1 (Nat.le_trans E6.1 (Nat.le_trans (Keep.of_wr W7).1 (Nat.le_trans E10.1 (Nat.le_trans (Keep.of_wr W11).1 (Nat.le_of_eq g14.symm))))))))) nin0)).ext E34).ext E35).keep K41 (ninS (Nat.ne_of_lt (Nat.lt_of_lt_of_le V14.lt (Nat.le_trans (Keep.of_wr W15).1 (Nat.le_trans E18.1 (Nat.le_trans (Keep.of_wr W19).1 (Nat.le_trans E22.1 (Nat.le_trans (Keep.of_wr W23).1 (Nat.le_trans E26.1 (Nat.le_trans (Keep.of_wr W27).1 (Nat.le_trans K33.1 (Nat.le_of_eq g34.symm))))))))))) nin0)).other W42 (Ne.symm (Nat.ne_of_lt (Nat.lt_of_lt_of_le E_kq.lt (Nat.le_trans E2.1 (Nat.le_trans (Keep.of_wr W3).1 (Nat.le_trans E6.1 (Nat.le_trans (Keep.of_wr W7).1 (Nat.le_trans E10.1 (Nat.le_trans (Keep.of_wr W11).1 (Nat.le_of_eq g14.symm)))))))))))
  have f62 := ((((((((((V18.other W19 (Ne.symm (Nat.ne_of_lt (Nat.lt_of_lt_of_le E_kq.lt (Nat.le_trans E2.1 (Nat.le_trans (Keep.of_wr W3).1 (Nat.le_trans E6.1 (Nat.le_trans (Keep.of_wr W7).1 (Nat.le_trans E10.1 (Nat.le_trans (Keep.of_wr W11).1 (Nat.le_trans E14.1 (Nat.le_trans (Keep.of_wr W15).1 (Nat.le_of_eq g18.symm))))))))))))).ext E22).other W23 (Ne.symm (Nat.ne_of_lt (Nat.lt_of_lt_of_le E_kq.lt (Nat.le_trans E2.1 (Nat.le_trans (Keep.of_wr W3).1 (Nat.le_trans E6.1 (Nat.le_trans (Keep.of_wr W7).1 (Nat.le_trans E10.1 (Nat.le_trans (Keep.of_wr W11).1 (Nat.le_trans E14.1 (Nat.le_trans (Keep.of_wr W15).1 (Nat.le_of_eq g18.symm))))))))))))).ext E26).other W27 (Ne.symm (Nat.ne_of_lt (Nat.lt_of_lt_of_le E_kq.lt (Nat.le_trans E2.1 (Nat.le_trans (Keep.of_wr W3).1 (Nat.le_trans E6.1 (Nat.le_trans (Keep.of_wr W7).1 (Nat.le_trans E10.1 (Nat.le_trans (Keep.of_wr W11).1 (Nat.le_trans E14.1 (Nat.le_trans (Keep.of_wr W15).1 (Nat.le_of_eq g18.symm))))))))))))).keep K33 (ninS (Ne.symm (Nat.ne_of_lt (Nat.lt_of_lt_of_le V2.lt (Nat.le_trans (Keep.of_wr W3).1 (Nat.le_trans E6.1 (Nat.le_trans (Keep.of_wr W7).1 (Nat.le_trans E10.1 (Nat.le_trans (Keep.of_wr W11).1 (Nat.le_trans E14.1 (Nat.le_trans (Keep.of_wr W15).1 (Nat.le_of_eq g18.symm))))))))))) nin0)).ext E34).ext E35).keep K41 (ninS (Nat.ne_of_lt (Nat.lt_of_lt_of_le V18.lt (Nat.le_trans (Keep.of_wr W19).1 (Nat.le_trans E22.1 (Nat.le_trans (Keep.of_wr W23).1 (Nat.le_trans E26.1 (Nat.le_trans (Keep.of_wr W27).1 (Nat.le_trans K33.1 (Nat.le_of_eq g34.symm))))))))) nin0)).other W42 (Ne.symm (Nat.ne_of_lt (Nat.lt_of_lt_of_le E_kq.lt (Nat.le_trans E2.1 (Nat.le_trans (Keep.of_wr W3).1 (Nat.le_trans E6.1 (Nat.le_trans (Keep.of_wr W7).1 (Nat.le_trans E10.1 (Nat.le_trans (Keep.of_wr W11).1 (Nat.le_trans E14.1 (Nat.le_trans (Keep.of_wr W15).1 (Nat.le_of_eq g18.symm)))))))))))))
  have f63 := ((((((((V22.other W23 (Ne.symm (Nat.ne_of_lt (Nat.lt_of_lt_of_le E_kq.lt (Nat.le_trans E2.1 (Nat.le_trans (Keep.of_wr W3).1 (Nat.le_trans E6.1 (Nat.le_trans (Keep.of_wr W7).1 (Nat.le_trans E10.1 (Nat.le_trans (Keep.of_wr W11).1 (Nat.le_trans E14.1 (Nat.le_trans (Keep.of_wr W15).1 (Nat.le_trans E18.1 (Nat.le_trans (Keep.of_wr W19).1 (Nat.le_of_eq g22.symm))))))))))))))).ext E26).other W27 (Ne.symm (Nat.ne_of_lt (Nat.lt_of_lt_of_le E_kq.lt (Nat.le_trans E2.1 (Nat.le_trans (Keep.of_wr W3).1 (Nat.le_trans E6.1 (Nat.le_trans (Keep.of_wr W7).1 (Nat.le_trans E10.1 (Nat.le_trans (Keep.of_wr W11).1 (Nat.le_trans E14.1 (Nat.le_trans (Keep.of_wr W15).1 (Nat.le_trans E18.1 (Nat.le_trans (Keep.of_wr W19).1 (Nat.le_of_eq g22.symm))))))))))))))).keep K33 (ninS (Ne.symm (Nat.ne_of_lt (Nat.lt_of_lt_of_le V2.lt (Nat.le_trans (Keep.of_wr W3).1 (Nat.le_trans E6.1 (Nat.le_trans (Keep.of_wr W7).1 (Nat.le_trans E10.1 (Nat.le_trans (Keep.of_wr W11).1 (Nat.le_trans E14.1 (Nat.le_trans (Keep.of_wr W15).1 (Nat.le_trans E18.1 (Nat.le_trans (Keep.of_wr W19).1 (Nat.le_of_eq g22.symm))))))))))))) nin0)).ext E34).ext E35).keep K41 (ninS (Nat.ne_of_lt (Nat.lt_of_lt_of_le V22.lt (Nat.le_trans (Keep.of_wr W23).1 (Nat.le_trans E26.1 (Nat.le_trans (Keep.of_wr W27).1 (Nat.le_trans K33.1 (Nat.le_of_eq g34.symm))))))) nin0)).other W42 (Ne.symm (Nat.ne_of_lt (Nat.lt_of_lt_of_le E_kq.lt (Nat.le_trans E2.1 (Nat.le_trans (Keep.of_wr W3).1 (Nat.le_trans E6.1 (Nat.le_trans (Keep.of_wr W7).1 (Nat.le_trans E10.1 (Nat.le_trans (Keep.of_wr W11).1 (Nat.le_trans E14.1 (Nat.le_trans (Keep.of_wr W15).1 (Nat.le_trans E18.1 (Nat.le_trans (Keep.of_wr W19).1 (Nat.le_of_eq g22.symm)))))))))))))))
  have f64 := ((((((V26.other W27 (Ne.symm (Nat.ne_of_lt (Nat.lt_of_lt_of_le E_kq.lt (Nat.le_trans E2.1 (Nat.le_trans (Keep.of_wr W3).1 (Nat.le_trans E6.1 (Nat.le_trans (Keep.of_wr W7).1 (Nat.le_trans E10.1 (Nat.le_trans (Keep.of_wr W11).1 (Nat.le_trans E14.1 (Nat.le_trans (Keep.of_wr W15).1 (Nat.le_trans E18.1 (Nat.le_trans (Keep.of_wr W19).1 (Nat.le_trans E22.1 (Nat.le_trans (Keep.of_wr W23).1 (Nat.le_of_eq g26.symm))))))))))))))))).keep K33 (ninS (Ne.symm (Nat.ne_of_lt (Nat.lt_of_lt_of_le V2.lt (Nat.le_trans (Keep.of_wr W3).1 (Nat.le_trans E6.1 (Nat.le_trans (Keep.of_wr W7).1 (Nat.le_trans E10.1 (Nat.le_trans (Keep.of_wr W11).1 (Nat.le_trans E14.1 (Nat.le_trans (Keep.of_wr W15).1 (Nat.le_trans E18.1 (Nat.le_trans (Keep.of_wr W19).1 (Nat.le_trans E22.1 (Nat.le_trans (Keep.of_wr W23).1 (Nat.le_of_eq g26.symm))))))))))))))) nin0)).ext E34).ext E35).keep K41 (ninS (Nat.ne_of_lt (Nat.lt_of_lt_of_le V26.lt (Nat.le_trans (Keep.of_wr W27).1 (Nat.le_trans K33.1 (Nat.le_of_eq g34.symm))))) nin0)).other W42 (Ne.symm (Nat.ne_of_lt (Nat.lt_of_lt_of_le E_kq.lt (Nat.le_trans E2.1 (Nat.le_trans (Keep.of_wr W3).1 (Nat.le_trans E6.1 (Nat.le_trans (Keep.of_wr W7).1 (Nat.le_trans E10.1 (Nat.le_trans (Keep.of_wr W11).1 (Nat.le_trans E14.1 (Nat.le_trans (Keep.of_wr W15).1 (Nat.le_trans E18.1 (Nat.le_trans (Keep.of_wr W19).1 (Nat.le_trans E22.1 (Nat.le_trans (Keep.of_wr W23).1 (Nat.le_of_eq g26.symm)))))))))))))))))
  have f65 := ((f36.keep K41).wr W42)
  have f66 := (Q41_0.other W42 (Or.inl (Ne.symm (Nat.ne_of_lt (Nat.lt_of_lt_of_le E_kq.lt (Nat.le_trans E2.1 (Nat.le_trans (Keep.of_wr W3).1 (Nat.le_trans E6.1 (Nat.le_trans (Keep.of_wr W7).1 (Nat.le_trans E10.1 (Nat.le_trans (Keep.of_wr W11).1 (Nat.le_trans E14.1 (Nat.le_trans (Keep.of_wr W15).1 (Nat.le_trans E18.1 (Nat.le_trans (Keep.of_wr W19).1 (Nat.le_trans E22.1 (Nat.le_trans (Keep.of_wr W23).1 (Nat.le_trans E26.1 (Nat.le_trans (Keep.of_wr W27).1 (Nat.le_trans K33.1 (Nat.le_of_eq g34.symm)))))))))))))))))))))
  have f67 := (Q41_1.other W42 (Or.inl (Ne.symm (Nat.ne_of_lt (Nat.lt_of_lt_of_le E_kq.lt (Nat.le_trans E2.1 (Nat.le_trans (Keep.of_wr W3).1 (Nat.le_trans E6.1 (Nat.le_trans (Keep.of_wr W7).1 (Nat.le_trans E10.1 (Nat.le_trans (Keep.of_wr W11).1 (Nat.le_trans E14.1 (Nat.le_trans (Keep.of_wr W15).1 (Nat.le_trans E18.1 (Nat.le_trans (Keep.of_wr W19).1 (Nat.le_trans E22.1 (Nat.le_trans (Keep.of_wr W23).1 (Nat.le_trans E26.1 (Nat.le_trans (Keep.of_wr W27).1 (Nat.le_trans K33.1 (Nat.le_of_eq g34.symm)))))))))))))))))))))
  have f68 := (Q41_2.other W42 (Or.inl (Ne.symm (Nat.ne_of_lt (Nat.lt_of_lt_of_le E_kq.lt (Nat.le_trans E2.1 (Nat.le_trans (Keep.of_wr W3).1 (Nat.le_trans E6.1 (Nat.le_trans (Keep.of_wr W7).1 (Nat.le_trans E10.1 (Nat.le_trans (Keep.of_wr W11).1 (Nat.le_trans E14.1 (Nat.le_trans (Keep.of_wr W15).1 (Nat.le_trans E18.1 (Nat.le_trans (Keep.of_wr W19).1 (Nat.le_trans E22.1 (Nat.le_trans (Keep.of_wr W23).1 (Nat.le_trans E26.1 (Nat.le_trans (Keep.of_wr W27).1 (Nat.le_trans K33.1 (Nat.le_of_eq g34.symm)))))))))))))))))))))
  have f69 := (Q41_3.other W42 (Or.inl (Ne.symm (Nat.ne_of_lt (Nat.lt_of_lt_of_le E_kq.lt (Nat.le_trans E2.1 (Nat.le_trans (Keep.of_wr W3).1 (Nat.le_trans E6.1 (Nat.le_trans (Keep.of_wr W7).1 (Nat.le_trans E10.1 (Nat.le_trans (Keep.of_wr W11).1 (Nat.le_trans E14.1 (Nat.le_trans (Keep.of_wr W15).1 (Nat.le_trans E18.1 (Nat.le_trans (Keep.of_wr W19).1 (Nat.le_trans E22.1 (Nat.le_trans (Keep.of_wr W23).1 (Nat.le_trans E26.1 (Nat.le_trans (Keep.of_wr W27).1 (Nat.le_trans K33.1 (Nat.le_of_eq g34.symm)))))))))))))))))))))
  have f70 := (Q41_4.other W42 (Ne.symm (Nat.ne_of_lt (Nat.lt_of_lt_of_le E_kq.lt (Nat.le_trans E2.1 (Nat.le_trans (Keep.of_wr W3).1 (Nat.le_trans E6.1 (Nat.le_trans (Keep.of_wr W7).1 (Nat.le_trans E10.1 (Nat.le_trans (Keep.of_wr W11).1 (Nat.le_trans E14.1 (Nat.le_trans (Keep.of_wr W15).1 (Nat.le_trans E18.1 (Nat.le_trans (Keep.of_wr W19).1 (Nat.le_trans E22.1 (Nat.le_trans (Keep.of_wr W23).1 (Nat.le_trans E26.1 (Nat.le_trans (Keep.of_wr W27).1 (Nat.le_trans K33.1 (Nat.le_trans E34.1 (Nat.le_trans E35.1 gq_aE_41)))))))))))))))))))))
  have f71 := (Q41_5.other W42 (Ne.symm (Nat.ne_of_lt (Nat.lt_of_lt_of_le E_kq.lt (Nat.le_trans E2.1 (Nat.le_trans (Keep.of_wr W3).1 (Nat.le_trans E6.1 (Nat.le_trans (Keep.of_wr W7).1 (Nat.le_trans E10.1 (Nat.le_trans (Keep.of_wr W11).1 (Nat.le_trans E14.1 (Nat.le_trans (Keep.of_wr W15).1 (Nat.le_trans E18.1 (Nat.le_trans (Keep.of_wr W19).1 (Nat.le_trans E22.1 (Nat.le_trans (Keep.of_wr W23).1 (Nat.le_trans E26.1 (Nat.le_trans (Keep.of_wr W27).1 (Nat.le_trans K33.1 (Nat.le_trans E34.1 (Nat.le_trans E35.1 gq_aP_41)))))))))))))))))))))
  have f72 := ((Y35.keep K41 (ninS (Ne.symm (Nat.ne_of_lt (Nat.lt_of_lt_of_le A34.lt (Nat.le_of_eq g35.symm)))) nin0)).other W42 (Ne.symm (Nat.ne_of_lt (Nat.lt_of_lt_of_le E_kq.lt (Nat.le_trans E2.1 (Nat.le_trans (Keep.of_wr W3).1 (Nat.le_trans E6.1 (Nat.le_trans (Keep.of_wr W7).1 (Nat.le_trans E10.1 (Nat.le_trans (Keep.of_wr W11).1 (Nat.le_trans E14.1 (Nat.le_trans (Keep.of_wr W15).1 (Nat.le_trans E18.1 (Nat.le_trans (Keep.of_wr W19).1 (Nat.le_trans E22.1 (Nat.le_trans (Keep.of_wr W23).1 (Nat.le_trans E26.1 (Nat.le_trans (Keep.of_wr W27).1 (Nat.le_trans K33.1 (Nat.le_trans E34.1 (Nat.le_of_eq g35.symm)))))))))))))))))))))
  obtain ⟨fs, hr, hrun, hended, hW, hsame⟩ := X42.leave (v := none) (fun _ => rfl)
  refine ⟨_, _, pre0 _ ?_, hrun, hended, _, _, rfl, ?_, ⟨_, rfl⟩, hW, hsame.mono (by decide) (by decide)⟩
  · refine s_aloadN X0 hx (D d1_0) rfl rfl ?_
    refine st1 _ ?_
    refine s_aloadN X1 hx (D d1_4) rfl rfl ?_
    refine X1.ldcInt hx hown (mvT hZ (wd 9 rfl)) (g := (mkF m 5 #[.val (.ref kq), .val (.int (2 : Int32))] [(.ref kq)])) rfl (D d1_5) _ ?_
    refine st2 _ ?_
    refine st3 _ ?_
    refine s_aloadN X3 hx (D d1_12) rfl rfl ?_
    refine s_sipush X3 hx (1024 : Int32) (D d1_13) rfl ?_
    refine st6 _ ?_
    refine st7 _ ?_
    refine s_aloadN X7 hx (D d1_21) rfl rfl ?_
    refine s_bipush X7 hx (16 : Int32) (D d1_22) rfl ?_
    refine st10 _ ?_
    refine st11 _ ?_
    refine s_aloadN X11 hx (D d1_29) rfl rfl ?_
    refine s_iloadN X11 hx (D d1_30) rfl ?_
    refine st14 _ ?_
    refine st15 _ ?_
    refine s_aloadN X15 hx (D d1_36) rfl rfl ?_
    refine s_iloadN X15 hx (D d1_37) rfl ?_
    refine st18 _ ?_
    refine st19 _ ?_
    refine s_aloadN X19 hx (D d1_43) rfl rfl ?_
    refine s_iloadN X19 hx (D d1_44) rfl ?_
    refine st22 _ ?_
    refine st23 _ ?_
    refine s_aloadN X23 hx (D d1_50) rfl rfl ?_
    refine s_iloadN X23 hx (D d1_51) rfl ?_
    refine st26 _ ?_
    refine st27 _ ?_
    refine s_aloadN X27 hx (D d1_57) rfl rfl ?_
    refine st31 _ ?_
    refine s_iconst X31 hx (-1 : Int32) (D d1_61) rfl ?_
    refine st33 _ ?_
    refine s_aloadN X33 hx (D d1_65) rfl rfl ?_
    refine st34 _ ?_
    refine s_dup X34 hx (D d1_69) rfl ?_
    refine s_iloadN X34 hx (D d1_70) rfl ?_
    refine s_aloadN X34 hx (D d1_71) rfl rfl ?_
    show Steps p.tables e below (T34.setTop (mkF m 72 #[.val (.ref kq), .val (.int (2 : Int32))] [(.ref kq), (.int (2 : Int32)), (.ref fa34), (.ref fa34), (.ref kq)])) _
    refine st35 _ ?_
    refine st41.trans ?_
    refine st42 _ ?_
    exact X42.returnOut hx Bd.returns (D d1_83) hr
  · show Q_rm_kinit Z kq h0 n0 _ T42.heap _
    rw [e42]
    exact ⟨fa2, fa6, fa10, fa14, fa18, fa22, fa26, fa34, fa35, aE_41, aP_41, cK35, fk14, fk18, fk22, fk26, fk2, fk6, fk10, kE_41, kP_41, rfl, N42, K42, gh_fa2, gh_fa6, gh_fa10, gh_fa14, gh_fa18, gh_fa22, gh_fa26, gh_fa34, gh_fa35, gh_aE_41, gh_aP_41, f52, f53, f54, f55, f56, f57, f58, Fw42, f59, f60, f61, f62, f63, f64, Vp45, Vp47, Vp51, f65, f66, f67, f68, f69, f70, f71, f72, (own_nd12 (Nat.lt_of_lt_of_le E_kq.lt (Nat.le_of_eq g2.symm)) (Nat.lt_of_lt_of_le V2.lt (Nat.le_trans (Keep.of_wr W3).1 (Nat.le_of_eq g6.symm))) (Nat.lt_of_lt_of_le V6.lt (Nat.le_trans (Keep.of_wr W7).1 (Nat.le_of_eq g10.symm))) (Nat.lt_of_lt_of_le V10.lt (Nat.le_trans (Keep.of_wr W11).1 (Nat.le_of_eq g14.symm))) (Nat.lt_of_lt_of_le V14.lt (Nat.le_trans (Keep.of_wr W15).1 (Nat.le_of_eq g18.symm))) (Nat.lt_of_lt_of_le V18.lt (Nat.le_trans (Keep.of_wr W19).1 (Nat.le_of_eq g22.symm))) (Nat.lt_of_lt_of_le V22.lt (Nat.le_trans (Keep.of_wr W23).1 (Nat.le_of_eq g26.symm))) (Nat.lt_of_lt_of_le V26.lt (Nat.le_trans (Keep.of_wr W27).1 (Nat.le_trans K33.1 (Nat.le_of_eq g34.symm)))) (Nat.lt_of_lt_of_le A34.lt (Nat.le_of_eq g35.symm)) (Nat.lt_of_lt_of_le Y35.lt gq_aE_41) Q41_6), MD35⟩
theorem own_ki0 : KI 0 0 0 0 (-1) (-1) 0 0 0 0 := ⟨⟨[], by decide, rfl, fun h => absurd h (by decide), fun h => absurd h (by decide), rfl, rfl⟩, by decide, Or.inr (Or.inr ⟨rfl, rfl, rfl⟩), Or.inr (Or.inr ⟨rfl, rfl, rfl⟩)⟩
theorem own_pv0 : PV4 0 0 0 0 := ⟨Or.inr (Or.inl rfl), Or.inr (Or.inl rfl), Or.inr (Or.inl rfl), Or.inr (Or.inl rfl)⟩
theorem own_and1 (x : Int32) : I2 (x &&& (1 : Int32)) := by
  have e := c_mask x 1 1 (by decide) (by decide)
  have h3 : ((2 ^ 1 : Nat) : Int) = 2 := by decide
  rw [h3] at e
  unfold I2
  generalize x &&& (1 : Int32) = y at e ⊢
  have h0 : (0 : Int32).toInt = 0 := by decide
  have h1 : (1 : Int32).toInt = 1 := by decide
  simp only [← Int32.toInt_inj, h0, h1]
  omega
theorem own_sub1 {x : Int32} (h : I2 x) : I2 ((1 : Int32) - x) := by
  rcases h with rfl | rfl
  · exact Or.inr rfl
  · exact Or.inl rfl
theorem own_max (x : Int64) : ¬ ((x &&& (9223372036854775807 : Int64)) < (0 : Int64)) := by
  have e := c_maskL x 9223372036854775807 63 (by decide) (by decide)
  rw [Int64.lt_iff_toInt_lt, e]
  have h0 : (0 : Int64).toInt = 0 := by decide
  rw [h0]
  exact Int.not_lt.mpr (Int.emod_nonneg _ (by decide))
theorem own_c0 {en w b n e0 e1 p0 p1 i0 i1 m0 m1 : Int32} (h : KI b n e0 e1 p0 p1 i0 i1 (s2 en 0 w m0) (s2 en 1 w m1)) (e : en = 0) : KI b n e0 e1 p0 p1 i0 i1 w m1 := by
  subst e; exact h
theorem own_c1 {en w b n e0 e1 p0 p1 i0 i1 m0 m1 : Int32} (he : I2 en) (h : KI b n e0 e1 p0 p1 i0 i1 (s2 en 0 w m0) (s2 en 1 w m1)) (e : ¬ en = 0) : KI b n e0 e1 p0 p1 i0 i1 m0 w := by
  rcases he with rfl | rfl
  · exact absurd rfl e
  · exact h
/-- what the law's own keys say of the queue's -/
def MK (m0 m1 : Int32) (k0 k1 q0 q1 : Int64) : Prop := (m0 = 1 → k0 = q0) ∧ (m1 = 1 → k1 = q1)
theorem own_mk0 {en m0 m1 : Int32} {k0 k1 q0 q1 y : Int64} (h : MK m0 m1 k0 k1 q0 q1) (e : en = 0) : MK 1 m1 (s2 en 0 y k0) (s2 en 1 y k1) y q1 := by
  subst e; exact ⟨fun _ => rfl, h.2⟩
theorem own_mk1 {en m0 m1 : Int32} {k0 k1 q0 q1 y : Int64} (he : I2 en) (h : MK m0 m1 k0 k1 q0 q1) (e : ¬ en = 0) : MK m0 1 (s2 en 0 y k0) (s2 en 1 y k1) q0 y := by
  rcases he with rfl | rfl
  · exact absurd rfl e
  · exact ⟨h.1, fun _ => rfl⟩
theorem own_mks : MK 0 0 0 0 0 0 := ⟨fun h => absurd h (by decide), fun h => absurd h (by decide)⟩
theorem own_e1 {m0 m1 : Int32} (h : m0 = 1 ∨ m1 = 1) : EM m0 m1 = 0 := by
  unfold EM
  refine if_neg fun q => ?_
  rcases h with h | h
  · rw [q.1] at h; exact absurd h (by decide)
  · rw [q.2] at h; exact absurd h (by decide)
theorem own_ni {x k : Int64} : ¬ (if (0 : Int32) < lcmpW k x then x else k) > k ∧ ¬ (if (0 : Int32) < lcmpW k x then x else k) > x := by
  have h := lw_gt k x
  by_cases u : (0 : Int32) < lcmpW k x
  · rw [if_pos u]
    have q := h.mp u
    exact ⟨fun z => absurd q (Int64.lt_asymm z), Int64.lt_irrefl⟩
  · rw [if_neg u]
    exact ⟨Int64.lt_irrefl, fun z => u (h.mpr z)⟩
theorem own_lo3 {m0 m1 : Int32} {k0 k1 q0 q1 : Int64} (h : MK m0 m1 k0 k1 q0 q1) : (m0 = 1 → ¬ k0 < (if (0 : Int32) < lcmpW q0 q1 then q1 else q0)) ∧ (m1 = 1 → ¬ k1 < (if (0 : Int32) < lcmpW q0 q1 then q1 else q0)) :=
  ⟨fun z => by rw [h.1 z]; exact own_ni.1, fun z => by rw [h.2 z]; exact own_ni.2⟩
theorem own_lo1 {m0 m1 : Int32} {k0 k1 q0 q1 : Int64} (h : MK m0 m1 k0 k1 q0 q1) (e : m1 = 0) : (m0 = 1 → ¬ k0 < q0) ∧ (m1 = 1 → ¬ k1 < q0) :=
  ⟨fun z => by rw [h.1 z]; exact Int64.lt_irrefl, fun z => by rw [e] at z; exact absurd z (by decide)⟩
theorem own_lo2 {m0 m1 : Int32} {k0 k1 q0 q1 : Int64} (h : MK m0 m1 k0 k1 q0 q1) (e : m0 = 0) : (m0 = 1 → ¬ k0 < q1) ∧ (m1 = 1 → ¬ k1 < q1) :=
  ⟨fun z => by rw [e] at z; exact absurd z (by decide), fun z => by rw [h.2 z]; exact Int64.lt_irrefl⟩
/-- the second put: what is in a bucket is there alone -/
theorem own_so {en b n e0 e1 p0 p1 i0 i1 m0 m1 : Int32} (h : KI b n e0 e1 p0 p1 i0 i1 m0 m1) (hs : m0 = 0 ∨ m1 = 0) (he : I2 en) : g2 en i0 i1 = 1 → ot en i0 i1 = 0 := fun q => by
  rcases he with rfl | rfl
  · rw [own_g0] at q; rw [ot, own_g0]
    rcases hs with hs | hs
    · rw [(own_mb_z h.2.2.1 hs).1] at q; exact absurd q (by decide)
    · exact (own_mb_z h.2.2.2 hs).1
  · rw [own_g1] at q; rw [ot, own_g1]
    rcases hs with hs | hs
    · exact (own_mb_z h.2.2.1 hs).1
    · rw [(own_mb_z h.2.2.2 hs).1] at q; exact absurd q (by decide)
theorem own_so0 {en : Int32} (he : I2 en) : g2 en (0 : Int32) 0 = 1 → ot en 0 0 = 0 := fun _ => by rcases he with rfl | rfl <;> rfl
theorem own_em0 {m0 m1 : Int32} (h0 : m0 = 0) (h1 : m1 = 0) : EM m0 m1 = 1 := if_pos ⟨h0, h1⟩
theorem own_em1 {m0 m1 : Int32} (h : ¬ (m0 = 0 ∧ m1 = 0)) : EM m0 m1 = 0 := if_neg h
theorem pd_12 : parseMethodDescriptor "(IJ)V" = some ⟨[.int, .long], none⟩ := by decide +kernel
theorem nn103 {kq aF aO aW aK aB aA aI hp lo aE aP : Addr} (h : List.Nodup [kq, aF, aO, aW, aK, aB, aA, aI, hp, lo, aE, aP]) : lo ∉ [kq, aB, aA, aI, aF, aO, aW, hp, aE, aP, aK] := own_nin h 9 [0, 5, 6, 7, 1, 2, 3, 8, 10, 11, 4] rfl rfl (by decide)
theorem pd_13 : parseMethodDescriptor "(J)V" = some ⟨[.long], none⟩ := by decide +kernel
theorem nn104 {kq aF aO aW aK aB aA aI hp lo aE aP : Addr} (h : List.Nodup [kq, aF, aO, aW, aK, aB, aA, aI, hp, lo, aE, aP]) : lo ∉ [kq, aB, aA, aI, aF, aO, aW, hp, aE, aP] := own_nin h 9 [0, 5, 6, 7, 1, 2, 3, 8, 10, 11] rfl rfl (by decide)
theorem nn105 {kq aF aO aW aK aB aA aI hp lo aE aP : Addr} (h : List.Nodup [kq, aF, aO, aW, aK, aB, aA, aI, hp, lo, aE, aP]) : aK ∉ [kq, aB, aA, aI, aF, aO, aW, hp, aE, aP] := own_nin h 4 [0, 5, 6, 7, 1, 2, 3, 8, 10, 11] rfl rfl (by decide)
theorem pn_3 : plainName "com/example/leasewise/leasewise/KilometreQueueIsEmptyPinLaw" = true := by first | (simp [plainName, overriddenIn]; done) | decide +kernel
theorem ef_rm0 (m : MethodId) (x0 : Int32) (x1 : Int32) (x2 : Int64) (x3 : Int64) : entryFrame m #[(.int x0), (.int x1), (.long x2), (.long x3)] maxLocals = mkF m 0 #[.val (.int x0), .val (.int x1), .val (.long x2), .second, .val (.long x3), .second, .unset, .unset, .unset, .unset, .unset, .unset, .unset, .unset, .unset, .unset, .unset, .unset, .unset, .unset, .unset, .unset, .unset] [] := by first | (simp [entryFrame, mkF, argsToLocals, Value.category, maxLocals]; done) | rfl
def Q_rm0 (Z : State) (p0 : Int32) (p1 : Int32) (p2 : Int64) (p3 : Int64) (h0 : Heap) (n0 : Nat) (v : Option Value) (h : Heap) (L : List Loc) : Prop := v = some (.int (1 : Int32)) ∧ Fr n0 L ∧ Keep h0 h []
set_option maxRecDepth 65536 in
set_option maxHeartbeats 40000000 in
theorem rm0 (l : Launch) (Z : State) (a0 : Array Value) (hw : ∀ d ∈ tables_1, d.before a0 Z = true) (ws : List Jvm.Cond) (p0 : Int32) (p1 : Int32) (p2 : Int64) (p3 : Int64) (h0 : Heap) (n0 : Nat) (O0 : Old Z n0 h0) :
    MetFree l x (head1 (Jvm.Cond.code x code maxLocals ret :: ws) room_1) (fun a U => a = #[(.int p0), (.int p1), (.long p2), (.long p3)] ∧ Z.WarmedH U.vm ∧ U.heap = h0) (fun _ _ _ _ _ => True) (fun _ U o U' => ∃ v L, o = .returned v ∧ Q_rm0 Z p0 p1 p2 p3 h0 n0 v U'.heap L ∧ FrameEnd U o U' L room_1.cells room_1.slots) := by
  refine MetFree.of_bodySF (plainFor_of_name pn_3) hisR ?_
  intro p e s m args below meth c s₁ Bd hml0 hP hK
  obtain ⟨rfl, hZH, hh⟩ := hP
  have hZ := hZH.wide
  have hx := Bd.exec
  have hby := Bd.bytes
  have D := fun {pc : Nat} {r : Except ClassFile.DecodeError (ClassFile.Instr × Nat)} (q : decode code pc = r) => hb (pc := pc) hby q
  have hml : c.maxLocals = 23 := hml0
  have hown : s.vm.findClass "com/example/leasewise/leasewise/KilometreQueueIsEmptyPinLaw" = some m.cls := findClass_of_methodNamed Bd.named
  have hnm := (name_of_methodNamed Bd.named Bd.method).1
  have X0 : Stand p l e room_1 s m #[(.int p0), (.int p1), (.long p2), (.long p3)] below meth c s₁ [] 0 0 := Stand.of_body Bd
  have e0 : s₁.heap = h0 := by rw [← hh, Bd.state]; rfl
  have N0 := Fr.nil n0
  have pre0 : ∀ t, Steps p.tables e below (s₁.setTop (mkF m 0 #[.val (.int p0), .val (.int p1), .val (.long p2), .second, .val (.long p3), .second, .unset, .unset, .unset, .unset, .unset, .unset, .unset, .unset, .unset, .unset, .unset, .unset, .unset, .unset, .unset, .unset, .unset] [])) t → Steps p.tables e below (s₁.setTop (entryFrame m #[(.int p0), (.int p1), (.long p2), (.long p3)] maxLocals)) t := fun t k => castTop (ef_rm0 m (p0) (p1) (p2) (p3)) k
  have wd := fun {d : Jvm.Cond} (i : Nat) (h : tables_1[i]? = some d) => hw d (List.mem_of_getElem? h)
  obtain ⟨T1, h1, X1, e1, E1, A1, D1, -, st1⟩ := newO X0 hx hZ hown (wd 0 rfl) (wd 1 rfl) (wd 2 rfl) e0 (g := (mkF m 0 #[.val (.int p0), .val (.int p1), .val (.long p2), .second, .val (.long p3), .second, .unset, .unset, .unset, .unset, .unset, .unset, .unset, .unset, .unset, .unset, .unset, .unset, .unset, .unset, .unset, .unset, .unset] [])) rfl (D at_0) (by decide) (by decide)
  obtain ⟨fa1, g1⟩ : ∃ z, z = h0.size := ⟨_, rfl⟩
  rw [← g1] at A1 D1 st1
  have gn_fa1 : n0 ≤ fa1 := Nat.le_trans (own_oldsz O0) (Nat.le_of_eq g1.symm)
  have gh_fa1 : h0.size ≤ fa1 := Nat.le_trans (Keep.refl h0 []).1 (Nat.le_of_eq g1.symm)
  have Zn1 : n0 ≤ h1.size := Nat.le_trans (own_oldsz O0) E1.1
  have K1 : Keep h0 h1 [] := (Keep.refl h0 []).ext E1
  have O1 := O0.ext E1
  have F1_firsts : Fld Z h1 fa1 cQ "firsts" "[I" .null := D1 (Or.inr (wd 12 rfl)) (ty := (.array .int)) (by decide)
  have F1_occupied : Fld Z h1 fa1 cQ "occupied" "[J" .null := D1 (Or.inr (wd 15 rfl)) (ty := (.array .long)) (by decide)
  have F1_occupiedWords : Fld Z h1 fa1 cQ "occupiedWords" "[J" .null := D1 (Or.inr (wd 17 rfl)) (ty := (.array .long)) (by decide)
  have F1_keys : Fld Z h1 fa1 cQ "keys" "[J" .null := D1 (Or.inr (wd 19 rfl)) (ty := (.array .long)) (by decide)
  have F1_before : Fld Z h1 fa1 cQ "before" "[I" .null := D1 (Or.inr (wd 21 rfl)) (ty := (.array .int)) (by decide)
  have F1_after : Fld Z h1 fa1 cQ "after" "[I" .null := D1 (Or.inr (wd 23 rfl)) (ty := (.array .int)) (by decide)
  have F1_inBucket : Fld Z h1 fa1 cQ "inBucket" "[Z" .null := D1 (Or.inr (wd 26 rfl)) (ty := (.array .boolean)) (by decide)
  have F1_further : Fld Z h1 fa1 cQ "further" "Lcom/example/leasewise/leasewise/IndexedHeap;" .null := D1 (Or.inr (wd 50 rfl)) (ty := (.object cH)) (by decide)
  have F1_bucketed : Fld Z h1 fa1 cQ "bucketed" "I" (.int (0 : Int32)) := D1 (Or.inl (wd 57 rfl)) (ty := .int) (by decide)
  have F1_floor : Fld Z h1 fa1 cQ "floor" "J" (.long (0 : Int64)) := D1 (Or.inl (wd 72 rfl)) (ty := .long) (by decide)
  obtain ⟨_, _, ⟨T2, L2, k2, n2⟩, -, X2, ⟨Lc2, hQ2, l2, y2, z2⟩, st2⟩ := X1.specialBack hx (y := (⟨cQ, "<init>", "(I)V"⟩ : MethodName)) rfl hown (mvT hZ (wd 3 rfl)) (mvT hZ (wd 4 rfl)) (mvT hZ (wd 5 rfl)) (by decide) (own_backH (W := 1) (rm_kinit l Z a0 hw [] fa1 h1 n0 O1 A1 F1_keys F1_before F1_after F1_inBucket F1_firsts F1_occupied F1_occupiedWords F1_further F1_bucketed F1_floor gn_fa1) hZH (wd 5 rfl) (wd 2 rfl) (by decide) (by decide)) (g := (mkF m 5 #[.val (.int p0), .val (.int p1), .val (.long p2), .second, .val (.long p3), .second, .unset, .unset, .unset, .unset, .unset, .unset, .unset, .unset, .unset, .unset, .unset, .unset, .unset, .unset, .unset, .unset, .unset] [(.int (2 : Int32)), (.ref fa1), (.ref fa1)])) rfl (by rw [hml]; rfl) (Steps.refl _) (a := fa1) (argsL := [(.int (2 : Int32))]) (rest := [(.ref fa1)]) (lenOf pd_4 rfl) rfl (by show 2 * 0 + _ ≤ _; exact Nat.le_of_eq rfl) (D at_5) (fun _ _ => ⟨rfl, e1, (by decide : 1 + 11 ≤ _), (by decide : 10 + 66593 ≤ _)⟩)
  dsimp only [Pt.U, Pt.locs, Pt.cells, Pt.slots] at X2 l2 y2 z2 st2 hQ2
  subst l2 y2 z2
  obtain ⟨aF_2, aO_2, aW_2, aK_2, aB_2, aA_2, aI_2, hp_2, lo_2, aE_2, aP_2, cK_2, kK_2, kB_2, kA_2, kI_2, kF_2, kO_2, kW_2, kE_2, kP_2, rfl, N2q, K2, gq_aF_2, gq_aO_2, gq_aW_2, gq_aK_2, gq_aB_2, gq_aA_2, gq_aI_2, gq_hp_2, gq_lo_2, gq_aE_2, gq_aP_2, Q2_0, Q2_1, Q2_2, Q2_3, Q2_4, Q2_5, Q2_6, Q2_7, Q2_8, Q2_9, Q2_10, Q2_11, Q2_12, Q2_13, Q2_14, Q2_15, Q2_16, Q2_17, Q2_18, Q2_19, Q2_20, Q2_21, Q2_22, Q2_23, Q2_24, Q2_25, Q2_26⟩ := hQ2
  have gn_aF_2 : n0 ≤ aF_2 := Nat.le_trans (own_oldsz O1) gq_aF_2
  have gh_aF_2 : h0.size ≤ aF_2 := Nat.le_trans K1.1 gq_aF_2
  have gn_aO_2 : n0 ≤ aO_2 := Nat.le_trans (own_oldsz O1) gq_aO_2
  have gh_aO_2 : h0.size ≤ aO_2 := Nat.le_trans K1.1 gq_aO_2
  have gn_aW_2 : n0 ≤ aW_2 := Nat.le_trans (own_oldsz O1) gq_aW_2
  have gh_aW_2 : h0.size ≤ aW_2 := Nat.le_trans K1.1 gq_aW_2
  have gn_aK_2 : n0 ≤ aK_2 := Nat.le_trans (own_oldsz O1) gq_aK_2
  have gh_aK_2 : h0.size ≤ aK_2 := Nat.le_trans K1.1 gq_aK_2
  have gn_aB_2 : n0 ≤ aB_2 := Nat.le_trans (own_oldsz O1) gq_aB_2
  have gh_aB_2 : h0.size ≤ aB_2 := Nat.le_trans K1.1 gq_aB_2
  have gn_aA_2 : n0 ≤ aA_2 := Nat.le_trans (own_oldsz O1) gq_aA_2
  have gh_aA_2 : h0.size ≤ aA_2 := Nat.le_trans K1.1 gq_aA_2
  have gn_aI_2 : n0 ≤ aI_2 := Nat.le_trans (own_oldsz O1) gq_aI_2
  have gh_aI_2 : h0.size ≤ aI_2 := Nat.le_trans K1.1 gq_aI_2
  have gn_hp_2 : n0 ≤ hp_2 := Nat.le_trans (own_oldsz O1) gq_hp_2
  have gh_hp_2 : h0.size ≤ hp_2 := Nat.le_trans K1.1 gq_hp_2
  have gn_lo_2 : n0 ≤ lo_2 := Nat.le_trans (own_oldsz O1) gq_lo_2
  have gh_lo_2 : h0.size ≤ lo_2 := Nat.le_trans K1.1 gq_lo_2
  have gn_aE_2 : n0 ≤ aE_2 := Nat.le_trans (own_oldsz O1) gq_aE_2
  have gh_aE_2 : h0.size ≤ aE_2 := Nat.le_trans K1.1 gq_aE_2
  have gn_aP_2 : n0 ≤ aP_2 := Nat.le_trans (own_oldsz O1) gq_aP_2
  have gh_aP_2 : h0.size ≤ aP_2 := Nat.le_trans K1.1 gq_aP_2
  have O2 := O1.keep K2 (allS gn_fa1 all0)
  have KK2 : Keep h0 T2.heap [] := K1.trans K2 (allS (Or.inr gh_fa1) all0)
  have N2 := Fr.app N0 N2q
  have f3 := (A1.keep K2)
  obtain ⟨cq4, kq4, q4a, q4b, q4c⟩ := isOf hZ rfl f3
  obtain ⟨_, _, ⟨T4, L4, k4, n4⟩, -, X4, ⟨Lc4, hQ4, l4, y4, z4⟩, st4⟩ := X2.virtualBack hx (y := (⟨cQ, "isEmpty", "()Z"⟩ : MethodName)) (z := (⟨cQ, "isEmpty", "()Z"⟩ : MethodName)) hown (mvT hZ (wd 51 rfl)) (mvT hZ (wd 52 rfl)) (notFace_of_selects (args := #[]) (mvT hZ (wd 54 rfl))) (mvT hZ (wd 54 rfl)) (mvT hZ (wd 53 rfl)) (by decide) (own_backH (W := 0) (rm_kisEmpty l Z a0 hw [] fa1 hp_2 (0 : Int32) (0 : Int32) (0 : Int32) (0 : Int32) (0 : Int32) (0 : Int32) (-1 : Int32) (-1 : Int32) (0 : Int32) (0 : Int32) T2.heap n0 O2 f3 Q2_7 Q2_8 Q2_17 Q2_21 own_ki0) hZH (wd 55 rfl) (wd 2 rfl) (by decide) (by decide)) q4a q4c (g := (mkF m 12 #[.val (.int p0), .val (.int p1), .val (.long p2), .second, .val (.long p3), .second, .val (.ref fa1), .unset, .unset, .unset, .unset, .unset, .unset, .unset, .unset, .unset, .unset, .unset, .unset, .unset, .unset, .unset, .unset] [(.ref fa1)])) rfl (by rw [hml]; rfl) (Steps.refl _) (argsL := []) (rest := []) (lenOf pd_6 rfl) rfl (by show 2 * 0 + _ ≤ _; exact Nat.le_of_eq rfl) (D at_12) (fun _ _ => ⟨rfl, rfl, (by decide : 12 + 0 ≤ _), (by decide : 66603 + 0 ≤ _)⟩)
  dsimp only [Pt.U, Pt.locs, Pt.cells, Pt.slots] at X4 l4 y4 z4 st4 hQ4
  subst l4 y4 z4
  obtain ⟨rfl, N4q, e4⟩ := hQ4
  have N4 := Fr.app N2 N4q
  obtain ⟨zA, hzA⟩ : ∃ z, z = (p1 &&& (1 : Int32)) := ⟨_, rfl⟩
  obtain ⟨zB, hzB⟩ : ∃ z, z = (((p1.toUInt32 >>> ((1 : Int32) &&& 31).toUInt32).toInt32) &&& (1 : Int32)) := ⟨_, rfl⟩
  obtain ⟨zC, hzC⟩ : ∃ z, z = (((p1.toUInt32 >>> ((2 : Int32) &&& 31).toUInt32).toInt32) &&& (1 : Int32)) := ⟨_, rfl⟩
  obtain ⟨zK, hzK⟩ : ∃ z, z = (p2 &&& (9223372036854775807 : Int64)) := ⟨_, rfl⟩
  obtain ⟨zL, hzL⟩ : ∃ z, z = (p3 &&& (9223372036854775807 : Int64)) := ⟨_, rfl⟩
  obtain ⟨cq5, kq5, q5a, q5b, q5c⟩ := isOf hZ e4 f3
  obtain ⟨_, _, ⟨T5, L5, k5, n5⟩, -, X5, ⟨Lc5, hQ5, l5, y5, z5⟩, st5⟩ := X4.virtualBack hx (y := (⟨cQ, "put", "(IJ)V"⟩ : MethodName)) (z := (⟨cQ, "put", "(IJ)V"⟩ : MethodName)) hown (mvT hZ (wd 66 rfl)) (mvT hZ (wd 67 rfl)) (notFace_of_selects (args := #[]) (mvT hZ (wd 69 rfl))) (mvT hZ (wd 69 rfl)) (mvT hZ (wd 68 rfl)) (by decide) (own_backH (W := 0) (rm_kput1 l Z a0 hw [] fa1 zA zK aF_2 aO_2 aW_2 aK_2 aB_2 aA_2 aI_2 hp_2 lo_2 aE_2 aP_2 cK_2 kK_2 kB_2 kA_2 kI_2 kF_2 kO_2 kW_2 kE_2 kP_2 (0 : Int32) (0 : Int32) (0 : Int32) (0 : Int32) (0 : Int32) (0 : Int32) (0 : Int32) (0 : Int32) (0 : Int32) (0 : Int32) (-1 : Int32) (-1 : Int32) (0 : Int32) (0 : Int32) (0 : Int64) (0 : Int64) (fun _ => (-1 : Int32)) (fun _ => (0 : Int64)) (fun _ => (0 : Int64)) T2.heap n0 O2 f3 Q2_0 Q2_1 Q2_2 Q2_3 Q2_4 Q2_5 Q2_6 Q2_7 Q2_8 Q2_9 Q2_10 Q2_11 Q2_12 Q2_13 Q2_17 Q2_18 Q2_19 Q2_20 Q2_21 Q2_22 Q2_23 Q2_26 Q2_25 gn_fa1 gn_aB_2 gn_aA_2 gn_aI_2 gn_aF_2 gn_aO_2 gn_aW_2 gn_hp_2 gn_aE_2 gn_aP_2 gn_aK_2 own_ki0 li_start okb_start own_pv0 (own_so0 (by rw [hzA]; exact own_and1 _)) ((by rw [hzA]; exact own_and1 _)) (by rw [hzK]; exact own_max _) Q2_24 Q2_14 Q2_15 Q2_16) hZH (wd 70 rfl) (wd 2 rfl) (by decide) (by decide)) q5a q5c (g := (mkF m 69 #[.val (.int p0), .val (.int p1), .val (.long p2), .second, .val (.long p3), .second, .val (.ref fa1), .val (.int (EM (0 : Int32) (0 : Int32))), .val (.int zA), .val (.int zB), .val (.int zC), .val (.long zK), .second, .val (.long zL), .second, .val (.int (0 : Int32)), .val (.int (0 : Int32)), .val (.long (0 : Int64)), .second, .val (.long (0 : Int64)), .second, .unset, .unset] [(.long zK), (.int zA), (.ref fa1)])) rfl (by rw [hml]; rfl) (Steps.refl _) (argsL := [(.int zA), (.long zK)]) (rest := []) (lenOf pd_12 rfl) rfl (by show 2 * 0 + _ ≤ _; exact Nat.le_of_eq rfl) (D at_69) (fun _ _ => ⟨rfl, e4, (by decide : 12 + 0 ≤ _), (by decide : 66603 + 0 ≤ _)⟩)
  dsimp only [Pt.U, Pt.locs, Pt.cells, Pt.slots] at X5 l5 y5 z5 st5 hQ5
  subst l5 y5 z5
  obtain ⟨ve0_5, ve1_5, vp0_5, vp1_5, vz__5, vb__5, vi0_5, vi1_5, vF_5, vO_5, vW_5, vbf0_5, vbf1_5, vaf0_5, vaf1_5, rfl, N5q, K5, Q5_0, Q5_1, Q5_2, Q5_3, Q5_4, Q5_5, Q5_6, Q5_7, Q5_8, Q5_9, Q5_10, Q5_11, Q5_12, Q5_13, Q5_14, Q5_15, Q5_16, Q5_17, Q5_18, Q5_19, Q5_20, Q5_21, Q5_22, Q5_23, Q5_24⟩ := hQ5
  have O5 := O2.keep K5 (allS gn_fa1 (allS gn_aB_2 (allS gn_aA_2 (allS gn_aI_2 (allS gn_aF_2 (allS gn_aO_2 (allS gn_aW_2 (allS gn_hp_2 (allS gn_aE_2 (allS gn_aP_2 (allS gn_aK_2 all0)))))))))))
  have KK5 : Keep h0 T5.heap [] := KK2.trans K5 (allS (Or.inr gh_fa1) (allS (Or.inr gh_aB_2) (allS (Or.inr gh_aA_2) (allS (Or.inr gh_aI_2) (allS (Or.inr gh_aF_2) (allS (Or.inr gh_aO_2) (allS (Or.inr gh_aW_2) (allS (Or.inr gh_hp_2) (allS (Or.inr gh_aE_2) (allS (Or.inr gh_aP_2) (allS (Or.inr gh_aK_2) all0)))))))))))
  have N5 := Fr.app N4 N5q
  have cs7 : Steps p.tables e below (s₁.setTop (mkF m 0 #[.val (.int p0), .val (.int p1), .val (.long p2), .second, .val (.long p3), .second, .unset, .unset, .unset, .unset, .unset, .unset, .unset, .unset, .unset, .unset, .unset, .unset, .unset, .unset, .unset, .unset, .unset] [])) (T5.setTop (mkF m 74 #[.val (.int p0), .val (.int p1), .val (.long p2), .second, .val (.long p3), .second, .val (.ref fa1), .val (.int (EM (0 : Int32) (0 : Int32))), .val (.int zA), .val (.int zB), .val (.int zC), .val (.long zK), .second, .val (.long zL), .second, .val (.int (0 : Int32)), .val (.int (0 : Int32)), .val (.long (0 : Int64)), .second, .val (.long (0 : Int64)), .second, .unset, .unset] [(.int zA)])) := (by
    refine st1 _ ?_
    refine s_dup X1 hx (D at_3) rfl ?_
    refine s_iconst X1 hx (2 : Int32) (D at_4) rfl ?_
    refine st2.trans ?_
    refine s_astore X2 hx (D at_8) rfl (l' := #[.val (.int p0), .val (.int p1), .val (.long p2), .second, .val (.long p3), .second, .val (.ref fa1), .unset, .unset, .unset, .unset, .unset, .unset, .unset, .unset, .unset, .unset, .unset, .unset, .unset, .unset, .unset, .unset]) rfl ?_
    refine s_aload X2 hx (D at_10) rfl rfl ?_
    refine st4.trans ?_
    refine s_istore X4 hx (D at_15) (l' := #[.val (.int p0), .val (.int p1), .val (.long p2), .second, .val (.long p3), .second, .val (.ref fa1), .val (.int (EM (0 : Int32) (0 : Int32))), .unset, .unset, .unset, .unset, .unset, .unset, .unset, .unset, .unset, .unset, .unset, .unset, .unset, .unset, .unset]) rfl ?_
    refine s_iloadN X4 hx (D at_17) rfl ?_
    refine s_iconst X4 hx (1 : Int32) (D at_18) rfl ?_
    refine s_iand X4 hx (D at_19) (r := zA) hzA.symm ?_
    refine s_istore X4 hx (D at_20) (l' := #[.val (.int p0), .val (.int p1), .val (.long p2), .second, .val (.long p3), .second, .val (.ref fa1), .val (.int (EM (0 : Int32) (0 : Int32))), .val (.int zA), .unset, .unset, .unset, .unset, .unset, .unset, .unset, .unset, .unset, .unset, .unset, .unset, .unset, .unset]) rfl ?_
    refine s_iloadN X4 hx (D at_22) rfl ?_
    refine s_iconst X4 hx (1 : Int32) (D at_23) rfl ?_
    refine s_iushr X4 hx (D at_24) rfl ?_
    refine s_iconst X4 hx (1 : Int32) (D at_25) rfl ?_
    refine s_iand X4 hx (D at_26) (r := zB) hzB.symm ?_
    refine s_istore X4 hx (D at_27) (l' := #[.val (.int p0), .val (.int p1), .val (.long p2), .second, .val (.long p3), .second, .val (.ref fa1), .val (.int (EM (0 : Int32) (0 : Int32))), .val (.int zA), .val (.int zB), .unset, .unset, .unset, .unset, .unset, .unset, .unset, .unset, .unset, .unset, .unset, .unset, .unset]) rfl ?_
    refine s_iloadN X4 hx (D at_29) rfl ?_
    refine s_iconst X4 hx (2 : Int32) (D at_30) rfl ?_
    refine s_iushr X4 hx (D at_31) rfl ?_
    refine s_iconst X4 hx (1 : Int32) (D at_32) rfl ?_
    refine s_iand X4 hx (D at_33) (r := zC) hzC.symm ?_
    refine s_istore X4 hx (D at_34) (l' := #[.val (.int p0), .val (.int p1), .val (.long p2), .second, .val (.long p3), .second, .val (.ref fa1), .val (.int (EM (0 : Int32) (0 : Int32))), .val (.int zA), .val (.int zB), .val (.int zC), .unset, .unset, .unset, .unset, .unset, .unset, .unset, .unset, .unset, .unset, .unset, .unset]) rfl ?_
    refine s_lloadN X4 hx (D at_36) rfl ?_
    refine X4.ldc2Long hx hown (mvT hZ (wd 65 rfl)) (g := (mkF m 37 #[.val (.int p0), .val (.int p1), .val (.long p2), .second, .val (.long p3), .second, .val (.ref fa1), .val (.int (EM (0 : Int32) (0 : Int32))), .val (.int zA), .val (.int zB), .val (.int zC), .unset, .unset, .unset, .unset, .unset, .unset, .unset, .unset, .unset, .unset, .unset, .unset] [(.long p2)])) rfl (D at_37) _ ?_
    refine s_land X4 hx (D at_40) (r := zK) hzK.symm ?_
    refine s_lstore X4 hx (D at_41) (l' := #[.val (.int p0), .val (.int p1), .val (.long p2), .second, .val (.long p3), .second, .val (.ref fa1), .val (.int (EM (0 : Int32) (0 : Int32))), .val (.int zA), .val (.int zB), .val (.int zC), .val (.long zK), .second, .unset, .unset, .unset, .unset, .unset, .unset, .unset, .unset, .unset, .unset]) rfl ?_
    refine s_lload X4 hx (D at_43) rfl ?_
    refine X4.ldc2Long hx hown (mvT hZ (wd 65 rfl)) (g := (mkF m 45 #[.val (.int p0), .val (.int p1), .val (.long p2), .second, .val (.long p3), .second, .val (.ref fa1), .val (.int (EM (0 : Int32) (0 : Int32))), .val (.int zA), .val (.int zB), .val (.int zC), .val (.long zK), .second, .unset, .unset, .unset, .unset, .unset, .unset, .unset, .unset, .unset, .unset] [(.long p3)])) rfl (D at_45) _ ?_
    refine s_land X4 hx (D at_48) (r := zL) hzL.symm ?_
    refine s_lstore X4 hx (D at_49) (l' := #[.val (.int p0), .val (.int p1), .val (.long p2), .second, .val (.long p3), .second, .val (.ref fa1), .val (.int (EM (0 : Int32) (0 : Int32))), .val (.int zA), .val (.int zB), .val (.int zC), .val (.long zK), .second, .val (.long zL), .second, .unset, .unset, .unset, .unset, .unset, .unset, .unset, .unset]) rfl ?_
    refine s_iconst X4 hx (0 : Int32) (D at_51) rfl ?_
    refine s_istore X4 hx (D at_52) (l' := #[.val (.int p0), .val (.int p1), .val (.long p2), .second, .val (.long p3), .second, .val (.ref fa1), .val (.int (EM (0 : Int32) (0 : Int32))), .val (.int zA), .val (.int zB), .val (.int zC), .val (.long zK), .second, .val (.long zL), .second, .val (.int (0 : Int32)), .unset, .unset, .unset, .unset, .unset, .unset, .unset]) rfl ?_
    refine s_iconst X4 hx (0 : Int32) (D at_54) rfl ?_
    refine s_istore X4 hx (D at_55) (l' := #[.val (.int p0), .val (.int p1), .val (.long p2), .second, .val (.long p3), .second, .val (.ref fa1), .val (.int (EM (0 : Int32) (0 : Int32))), .val (.int zA), .val (.int zB), .val (.int zC), .val (.long zK), .second, .val (.long zL), .second, .val (.int (0 : Int32)), .val (.int (0 : Int32)), .unset, .unset, .unset, .unset, .unset, .unset]) rfl ?_
    refine s_lconst X4 hx (0 : Int64) (D at_57) rfl ?_
    refine s_lstore X4 hx (D at_58) (l' := #[.val (.int p0), .val (.int p1), .val (.long p2), .second, .val (.long p3), .second, .val (.ref fa1), .val (.int (EM (0 : Int32) (0 : Int32))), .val (.int zA), .val (.int zB), .val (.int zC), .val (.long zK), .second, .val (.long zL), .second, .val (.int (0 : Int32)), .val (.int (0 : Int32)), .val (.long (0 : Int64)), .second, .unset, .unset, .unset, .unset]) rfl ?_
    refine s_lconst X4 hx (0 : Int64) (D at_60) rfl ?_
    refine s_lstore X4 hx (D at_61) (l' := #[.val (.int p0), .val (.int p1), .val (.long p2), .second, .val (.long p3), .second, .val (.ref fa1), .val (.int (EM (0 : Int32) (0 : Int32))), .val (.int zA), .val (.int zB), .val (.int zC), .val (.long zK), .second, .val (.long zL), .second, .val (.int (0 : Int32)), .val (.int (0 : Int32)), .val (.long (0 : Int64)), .second, .val (.long (0 : Int64)), .second, .unset, .unset]) rfl ?_
    refine s_aload X4 hx (D at_63) rfl rfl ?_
    refine s_iload X4 hx (D at_65) rfl ?_
    refine s_lload X4 hx (D at_67) rfl ?_
    refine st5.trans ?_
    refine s_iload X5 hx (D at_72) rfl ?_
    exact Steps.refl _)
  have jn6 : ∃ (jb_6 : Int32) (jz_6 : Int32) (je0_6 : Int32) (je1_6 : Int32) (jp0_6 : Int32) (jp1_6 : Int32) (ji0_6 : Int32) (ji1_6 : Int32) (jx0_6 : Int32) (jx1_6 : Int32) (jy0_6 : Int32) (jy1_6 : Int32) (jm0_6 : Int32) (jm1_6 : Int32) (jk0_6 : Int64) (jk1_6 : Int64) (jq0_6 : Int64) (jq1_6 : Int64) (jF_6 : Nat → Int32) (jO_6 : Nat → Int64) (jW_6 : Nat → Int64) (T : State) (L : List Loc) (h : Heap), Stand p l e room_1 s m #[(.int p0), (.int p1), (.long p2), (.long p3)] below meth c T L 12 66603 ∧ T.heap = h ∧ Fr n0 L ∧ Keep h0 h [] ∧ Old Z n0 h ∧ Exa Z h fa1 cQ ∧ Exa Z h hp_2 cH ∧ LamO h lo_2 cK_2 fa1 ∧ Fld Z h fa1 cQ "keys" "[J" (.ref aK_2) ∧ Fld Z h fa1 cQ "before" "[I" (.ref aB_2) ∧ Fld Z h fa1 cQ "after" "[I" (.ref aA_2) ∧ Fld Z h fa1 cQ "inBucket" "[Z" (.ref aI_2) ∧ Fld Z h fa1 cQ "firsts" "[I" (.ref aF_2) ∧ Fld Z h fa1 cQ "occupied" "[J" (.ref aO_2) ∧ Fld Z h fa1 cQ "occupiedWords" "[J" (.ref aW_2) ∧ Fld Z h fa1 cQ "further" "Lcom/example/leasewise/leasewise/IndexedHeap;" (.ref hp_2) ∧ Fld Z h fa1 cQ "bucketed" "I" (.int jb_6) ∧ Fld Z h fa1 cQ "floor" "J" (.long (0 : Int64)) ∧ Arv Z h aK_2 kK_2 .long (2 : Int32) [(.long jk0_6), (.long jk1_6)] (.long (0 : Int64)) ∧ Arv Z h aB_2 kB_2 .int (2 : Int32) [(.int jx0_6), (.int jx1_6)] (.int (0 : Int32)) ∧ Arv Z h aA_2 kA_2 .int (2 : Int32) [(.int jy0_6), (.int jy1_6)] (.int (0 : Int32)) ∧ Arv Z h aI_2 kI_2 .boolean (2 : Int32) [(.int ji0_6), (.int ji1_6)] (.int (0 : Int32)) ∧ ArfI Z h aF_2 kF_2 (65536 : Int32) jF_6 ∧ ArfJ Z h aO_2 kO_2 (1024 : Int32) jO_6 ∧ ArfJ Z h aW_2 kW_2 (16 : Int32) jW_6 ∧ Fld Z h hp_2 cH "order" "Lcom/example/leasewise/leasewise/IndexedHeap$Order;" (.ref lo_2) ∧ Fld Z h hp_2 cH "entries" "[I" (.ref aE_2) ∧ Fld Z h hp_2 cH "positions" "[I" (.ref aP_2) ∧ Fld Z h hp_2 cH "size" "I" (.int jz_6) ∧ Arv Z h aE_2 kE_2 .int (2 : Int32) [(.int je0_6), (.int je1_6)] (.int (0 : Int32)) ∧ Arv Z h aP_2 kP_2 .int (2 : Int32) [(.int jp0_6), (.int jp1_6)] (.int (-1 : Int32)) ∧ KI jb_6 jz_6 je0_6 je1_6 jp0_6 jp1_6 ji0_6 ji1_6 jm0_6 jm1_6 ∧ (LI jF_6 ji0_6 ji1_6 jk0_6 jk1_6 jx0_6 jx1_6 jy0_6 jy1_6 ∧ OKB jF_6 jO_6 jW_6 ∧ PV4 jx0_6 jx1_6 jy0_6 jy1_6) ∧ MK jm0_6 jm1_6 jk0_6 jk1_6 jq0_6 jq1_6 ∧ (jm0_6 = 0 ∨ jm1_6 = 0) ∧ (jm0_6 = 1 ∨ jm1_6 = 1) ∧ Steps p.tables e below (s₁.setTop (mkF m 0 #[.val (.int p0), .val (.int p1), .val (.long p2), .second, .val (.long p3), .second, .unset, .unset, .unset, .unset, .unset, .unset, .unset, .unset, .unset, .unset, .unset, .unset, .unset, .unset, .unset, .unset, .unset] [])) (T.setTop (mkF m 94 #[.val (.int p0), .val (.int p1), .val (.long p2), .second, .val (.long p3), .second, .val (.ref fa1), .val (.int (EM (0 : Int32) (0 : Int32))), .val (.int zA), .val (.int zB), .val (.int zC), .val (.long zK), .second, .val (.long zL), .second, .val (.int jm0_6), .val (.int jm1_6), .val (.long jq0_6), .second, .val (.long jq1_6), .second, .unset, .unset] [])) := by
    by_cases hc8 : zA = (0 : Int32)
    · have cs9 : Steps p.tables e below (s₁.setTop (mkF m 0 #[.val (.int p0), .val (.int p1), .val (.long p2), .second, .val (.long p3), .second, .unset, .unset, .unset, .unset, .unset, .unset, .unset, .unset, .unset, .unset, .unset, .unset, .unset, .unset, .unset, .unset, .unset] [])) (T5.setTop (mkF m 94 #[.val (.int p0), .val (.int p1), .val (.long p2), .second, .val (.long p3), .second, .val (.ref fa1), .val (.int (EM (0 : Int32) (0 : Int32))), .val (.int zA), .val (.int zB), .val (.int zC), .val (.long zK), .second, .val (.long zL), .second, .val (.int (1 : Int32)), .val (.int (0 : Int32)), .val (.long zK), .second, .val (.long (0 : Int64)), .second, .unset, .unset] [])) := cs7.trans (by
        refine s_ifNo X5 hx (D at_74) ((if0 _ _).trans (teq hc8).2) ?_
        refine s_iconst X5 hx (1 : Int32) (D at_77) rfl ?_
        refine s_istore X5 hx (D at_78) (l' := #[.val (.int p0), .val (.int p1), .val (.long p2), .second, .val (.long p3), .second, .val (.ref fa1), .val (.int (EM (0 : Int32) (0 : Int32))), .val (.int zA), .val (.int zB), .val (.int zC), .val (.long zK), .second, .val (.long zL), .second, .val (.int (1 : Int32)), .val (.int (0 : Int32)), .val (.long (0 : Int64)), .second, .val (.long (0 : Int64)), .second, .unset, .unset]) rfl ?_
        refine s_lload X5 hx (D at_80) rfl ?_
        refine s_lstore X5 hx (D at_82) (l' := #[.val (.int p0), .val (.int p1), .val (.long p2), .second, .val (.long p3), .second, .val (.ref fa1), .val (.int (EM (0 : Int32) (0 : Int32))), .val (.int zA), .val (.int zB), .val (.int zC), .val (.long zK), .second, .val (.long zL), .second, .val (.int (1 : Int32)), .val (.int (0 : Int32)), .val (.long zK), .second, .val (.long (0 : Int64)), .second, .unset, .unset]) rfl ?_
        refine s_goto X5 hx 94 (D at_84) (of_decide_eq_true rfl) rfl ?_
        exact Steps.refl _)
      have kc10 := own_c0 Q5_23 hc8
      have mk10 := own_mk0 (en := zA) (y := zK) own_mks hc8
      have f11 := (f3.keep K5)
      have f12 := (Q2_17.keep K5)
      have f13 := (Q2_24.keep K5 (nn103 Q2_25))
      exact ⟨vb__5, vz__5, ve0_5, ve1_5, vp0_5, vp1_5, vi0_5, vi1_5, vbf0_5, vbf1_5, vaf0_5, vaf1_5, (1 : Int32), (0 : Int32), (s2 zA 0 zK (0 : Int64)), (s2 zA 1 zK (0 : Int64)), zK, (0 : Int64), vF_5, vO_5, vW_5, T5, _, _, X5, rfl, N5, KK5, O5, f11, f12, f13, Q5_0, Q5_1, Q5_2, Q5_3, Q5_4, Q5_5, Q5_6, Q5_7, Q5_8, Q5_9, Q5_10, Q5_11, Q5_12, Q5_13, Q5_14, Q5_15, Q5_16, Q5_17, Q5_18, Q5_19, Q5_20, Q5_21, Q5_22, kc10, ⟨Q5_24.1, Q5_24.2.1, Q5_24.2.2⟩, mk10, (Or.inr rfl), (Or.inl rfl), cs9⟩
    · have cs14 : Steps p.tables e below (s₁.setTop (mkF m 0 #[.val (.int p0), .val (.int p1), .val (.long p2), .second, .val (.long p3), .second, .unset, .unset, .unset, .unset, .unset, .unset, .unset, .unset, .unset, .unset, .unset, .unset, .unset, .unset, .unset, .unset, .unset] [])) (T5.setTop (mkF m 94 #[.val (.int p0), .val (.int p1), .val (.long p2), .second, .val (.long p3), .second, .val (.ref fa1), .val (.int (EM (0 : Int32) (0 : Int32))), .val (.int zA), .val (.int zB), .val (.int zC), .val (.long zK), .second, .val (.long zL), .second, .val (.int (0 : Int32)), .val (.int (1 : Int32)), .val (.long (0 : Int64)), .second, .val (.long zK), .second, .unset, .unset] [])) := cs7.trans (by
        refine s_ifYes X5 hx 87 (D at_74) ((if0 _ _).trans (feq hc8).2) (of_decide_eq_true rfl) rfl ?_
        refine s_iconst X5 hx (1 : Int32) (D at_87) rfl ?_
        refine s_istore X5 hx (D at_88) (l' := #[.val (.int p0), .val (.int p1), .val (.long p2), .second, .val (.long p3), .second, .val (.ref fa1), .val (.int (EM (0 : Int32) (0 : Int32))), .val (.int zA), .val (.int zB), .val (.int zC), .val (.long zK), .second, .val (.long zL), .second, .val (.int (0 : Int32)), .val (.int (1 : Int32)), .val (.long (0 : Int64)), .second, .val (.long (0 : Int64)), .second, .unset, .unset]) rfl ?_
        refine s_lload X5 hx (D at_90) rfl ?_
        refine s_lstore X5 hx (D at_92) (l' := #[.val (.int p0), .val (.int p1), .val (.long p2), .second, .val (.long p3), .second, .val (.ref fa1), .val (.int (EM (0 : Int32) (0 : Int32))), .val (.int zA), .val (.int zB), .val (.int zC), .val (.long zK), .second, .val (.long zL), .second, .val (.int (0 : Int32)), .val (.int (1 : Int32)), .val (.long (0 : Int64)), .second, .val (.long zK), .second, .unset, .unset]) rfl ?_
        exact Steps.refl _)
      have kc15 := own_c1 (by rw [hzA]; exact own_and1 _) Q5_23 hc8
      have mk15 := own_mk1 (en := zA) (y := zK) (by rw [hzA]; exact own_and1 _) own_mks hc8
      have f16 := (f3.keep K5)
      have f17 := (Q2_17.keep K5)
      have f18 := (Q2_24.keep K5 (nn103 Q2_25))
      exact ⟨vb__5, vz__5, ve0_5, ve1_5, vp0_5, vp1_5, vi0_5, vi1_5, vbf0_5, vbf1_5, vaf0_5, vaf1_5, (0 : Int32), (1 : Int32), (s2 zA 0 zK (0 : Int64)), (s2 zA 1 zK (0 : Int64)), (0 : Int64), zK, vF_5, vO_5, vW_5, T5, _, _, X5, rfl, N5, KK5, O5, f16, f17, f18, Q5_0, Q5_1, Q5_2, Q5_3, Q5_4, Q5_5, Q5_6, Q5_7, Q5_8, Q5_9, Q5_10, Q5_11, Q5_12, Q5_13, Q5_14, Q5_15, Q5_16, Q5_17, Q5_18, Q5_19, Q5_20, Q5_21, Q5_22, kc15, ⟨Q5_24.1, Q5_24.2.1, Q5_24.2.2⟩, mk15, (Or.inl rfl), (Or.inr rfl), cs14⟩
  obtain ⟨jb_6, jz_6, je0_6, je1_6, jp0_6, jp1_6, ji0_6, ji1_6, jx0_6, jx1_6, jy0_6, jy1_6, jm0_6, jm1_6, jk0_6, jk1_6, jq0_6, jq1_6, jF_6, jO_6, jW_6, Tj6, Lj6, hj6, Xj6, ej6, Nj6, Kj6, Oj6, J6_0, J6_1, J6_2, J6_3, J6_4, J6_5, J6_6, J6_7, J6_8, J6_9, J6_10, J6_11, J6_12, J6_13, J6_14, J6_15, J6_16, J6_17, J6_18, J6_19, J6_20, J6_21, J6_22, J6_23, J6_24, J6_25, Jp6_0, Jp6_1, Jp6_2, Jp6_3, Jp6_4, cj6⟩ := jn6
  obtain ⟨cq19, kq19, q19a, q19b, q19c⟩ := isOf hZ ej6 J6_0
  obtain ⟨_, _, ⟨T19, L19, k19, n19⟩, -, X19, ⟨Lc19, hQ19, l19, y19, z19⟩, st19⟩ := Xj6.virtualBack hx (y := (⟨cQ, "isEmpty", "()Z"⟩ : MethodName)) (z := (⟨cQ, "isEmpty", "()Z"⟩ : MethodName)) hown (mvT hZ (wd 51 rfl)) (mvT hZ (wd 52 rfl)) (notFace_of_selects (args := #[]) (mvT hZ (wd 54 rfl))) (mvT hZ (wd 54 rfl)) (mvT hZ (wd 53 rfl)) (by decide) (own_backH (W := 0) (rm_kisEmpty l Z a0 hw [] fa1 hp_2 jb_6 ji0_6 ji1_6 jz_6 je0_6 je1_6 jp0_6 jp1_6 jm0_6 jm1_6 hj6 n0 Oj6 J6_0 J6_10 J6_11 J6_1 J6_23 Jp6_0) hZH (wd 55 rfl) (wd 2 rfl) (by decide) (by decide)) q19a q19c (g := (mkF m 101 #[.val (.int p0), .val (.int p1), .val (.long p2), .second, .val (.long p3), .second, .val (.ref fa1), .val (.int (EM (0 : Int32) (0 : Int32))), .val (.int zA), .val (.int zB), .val (.int zC), .val (.long zK), .second, .val (.long zL), .second, .val (.int jm0_6), .val (.int jm1_6), .val (.long jq0_6), .second, .val (.long jq1_6), .second, .unset, .unset] [(.ref fa1)])) rfl (by rw [hml]; rfl) (Steps.refl _) (argsL := []) (rest := []) (lenOf pd_6 rfl) rfl (by show 2 * 0 + _ ≤ _; exact Nat.le_of_eq rfl) (D at_101) (fun _ _ => ⟨rfl, ej6, (by decide : 12 + 0 ≤ _), (by decide : 66603 + 0 ≤ _)⟩)
  dsimp only [Pt.U, Pt.locs, Pt.cells, Pt.slots] at X19 l19 y19 z19 st19 hQ19
  subst l19 y19 z19
  obtain ⟨rfl, N19q, e19⟩ := hQ19
  have N19 := Fr.app Nj6 N19q
  have cs21 : Steps p.tables e below (s₁.setTop (mkF m 0 #[.val (.int p0), .val (.int p1), .val (.long p2), .second, .val (.long p3), .second, .unset, .unset, .unset, .unset, .unset, .unset, .unset, .unset, .unset, .unset, .unset, .unset, .unset, .unset, .unset, .unset, .unset] [])) (T19.setTop (mkF m 117 #[.val (.int p0), .val (.int p1), .val (.long p2), .second, .val (.long p3), .second, .val (.ref fa1), .val (.int (1 : Int32)), .val (.int zA), .val (.int zB), .val (.int zC), .val (.long zK), .second, .val (.long zL), .second, .val (.int jm0_6), .val (.int jm1_6), .val (.long jq0_6), .second, .val (.long jq1_6), .second, .unset, .unset] [(.int (p0 &&& (1 : Int32)))])) := cj6.trans (by
    refine s_iload Xj6 hx (D at_94) rfl ?_
    refine s_ifNo Xj6 hx (D at_96) ((if0 _ _).trans (feq (by decide : ¬ ((EM (0 : Int32) (0 : Int32)) = (0 : Int32)))).1) ?_
    refine s_aload Xj6 hx (D at_99) rfl rfl ?_
    refine st19.trans ?_
    refine s_ifNo X19 hx (D at_104) ((if0 _ _).trans (teq (own_e1 Jp6_4 : (EM jm0_6 jm1_6) = (0 : Int32))).2) ?_
    refine s_iconst X19 hx (1 : Int32) (D at_107) rfl ?_
    refine s_goto X19 hx 112 (D at_108) (of_decide_eq_true rfl) rfl ?_
    refine s_istore X19 hx (D at_112) (l' := #[.val (.int p0), .val (.int p1), .val (.long p2), .second, .val (.long p3), .second, .val (.ref fa1), .val (.int (1 : Int32)), .val (.int zA), .val (.int zB), .val (.int zC), .val (.long zK), .second, .val (.long zL), .second, .val (.int jm0_6), .val (.int jm1_6), .val (.long jq0_6), .second, .val (.long jq1_6), .second, .unset, .unset]) rfl ?_
    refine s_iloadN X19 hx (D at_114) rfl ?_
    refine s_iconst X19 hx (1 : Int32) (D at_115) rfl ?_
    refine s_iand X19 hx (D at_116) rfl ?_
    exact Steps.refl _)
  have jn20 : ∃ (jb_20 : Int32) (jz_20 : Int32) (je0_20 : Int32) (je1_20 : Int32) (jp0_20 : Int32) (jp1_20 : Int32) (ji0_20 : Int32) (ji1_20 : Int32) (jx0_20 : Int32) (jx1_20 : Int32) (jy0_20 : Int32) (jy1_20 : Int32) (jm0_20 : Int32) (jm1_20 : Int32) (jk0_20 : Int64) (jk1_20 : Int64) (jq0_20 : Int64) (jq1_20 : Int64) (jF_20 : Nat → Int32) (jO_20 : Nat → Int64) (jW_20 : Nat → Int64) (T : State) (L : List Loc) (h : Heap), Stand p l e room_1 s m #[(.int p0), (.int p1), (.long p2), (.long p3)] below meth c T L 12 66603 ∧ T.heap = h ∧ Fr n0 L ∧ Keep h0 h [] ∧ Old Z n0 h ∧ Exa Z h fa1 cQ ∧ Exa Z h hp_2 cH ∧ LamO h lo_2 cK_2 fa1 ∧ Fld Z h fa1 cQ "keys" "[J" (.ref aK_2) ∧ Fld Z h fa1 cQ "before" "[I" (.ref aB_2) ∧ Fld Z h fa1 cQ "after" "[I" (.ref aA_2) ∧ Fld Z h fa1 cQ "inBucket" "[Z" (.ref aI_2) ∧ Fld Z h fa1 cQ "firsts" "[I" (.ref aF_2) ∧ Fld Z h fa1 cQ "occupied" "[J" (.ref aO_2) ∧ Fld Z h fa1 cQ "occupiedWords" "[J" (.ref aW_2) ∧ Fld Z h fa1 cQ "further" "Lcom/example/leasewise/leasewise/IndexedHeap;" (.ref hp_2) ∧ Fld Z h fa1 cQ "bucketed" "I" (.int jb_20) ∧ Fld Z h fa1 cQ "floor" "J" (.long (0 : Int64)) ∧ Arv Z h aK_2 kK_2 .long (2 : Int32) [(.long jk0_20), (.long jk1_20)] (.long (0 : Int64)) ∧ Arv Z h aB_2 kB_2 .int (2 : Int32) [(.int jx0_20), (.int jx1_20)] (.int (0 : Int32)) ∧ Arv Z h aA_2 kA_2 .int (2 : Int32) [(.int jy0_20), (.int jy1_20)] (.int (0 : Int32)) ∧ Arv Z h aI_2 kI_2 .boolean (2 : Int32) [(.int ji0_20), (.int ji1_20)] (.int (0 : Int32)) ∧ ArfI Z h aF_2 kF_2 (65536 : Int32) jF_20 ∧ ArfJ Z h aO_2 kO_2 (1024 : Int32) jO_20 ∧ ArfJ Z h aW_2 kW_2 (16 : Int32) jW_20 ∧ Fld Z h hp_2 cH "order" "Lcom/example/leasewise/leasewise/IndexedHeap$Order;" (.ref lo_2) ∧ Fld Z h hp_2 cH "entries" "[I" (.ref aE_2) ∧ Fld Z h hp_2 cH "positions" "[I" (.ref aP_2) ∧ Fld Z h hp_2 cH "size" "I" (.int jz_20) ∧ Arv Z h aE_2 kE_2 .int (2 : Int32) [(.int je0_20), (.int je1_20)] (.int (0 : Int32)) ∧ Arv Z h aP_2 kP_2 .int (2 : Int32) [(.int jp0_20), (.int jp1_20)] (.int (-1 : Int32)) ∧ KI jb_20 jz_20 je0_20 je1_20 jp0_20 jp1_20 ji0_20 ji1_20 jm0_20 jm1_20 ∧ (LI jF_20 ji0_20 ji1_20 jk0_20 jk1_20 jx0_20 jx1_20 jy0_20 jy1_20 ∧ OKB jF_20 jO_20 jW_20 ∧ PV4 jx0_20 jx1_20 jy0_20 jy1_20) ∧ MK jm0_20 jm1_20 jk0_20 jk1_20 jq0_20 jq1_20 ∧ (jm0_20 = 1 ∨ jm1_20 = 1) ∧ Steps p.tables e below (s₁.setTop (mkF m 0 #[.val (.int p0), .val (.int p1), .val (.long p2), .second, .val (.long p3), .second, .unset, .unset, .unset, .unset, .unset, .unset, .unset, .unset, .unset, .unset, .unset, .unset, .unset, .unset, .unset, .unset, .unset] [])) (T.setTop (mkF m 171 #[.val (.int p0), .val (.int p1), .val (.long p2), .second, .val (.long p3), .second, .val (.ref fa1), .val (.int (1 : Int32)), .val (.int zA), .val (.int zB), .val (.int zC), .val (.long zK), .second, .val (.long zL), .second, .val (.int jm0_20), .val (.int jm1_20), .val (.long jq0_20), .second, .val (.long jq1_20), .second, .unset, .unset] [])) := by
    by_cases hc22 : (p0 &&& (1 : Int32)) = (0 : Int32)
    · have cs23 : Steps p.tables e below (s₁.setTop (mkF m 0 #[.val (.int p0), .val (.int p1), .val (.long p2), .second, .val (.long p3), .second, .unset, .unset, .unset, .unset, .unset, .unset, .unset, .unset, .unset, .unset, .unset, .unset, .unset, .unset, .unset, .unset, .unset] [])) (T19.setTop (mkF m 171 #[.val (.int p0), .val (.int p1), .val (.long p2), .second, .val (.long p3), .second, .val (.ref fa1), .val (.int (1 : Int32)), .val (.int zA), .val (.int zB), .val (.int zC), .val (.long zK), .second, .val (.long zL), .second, .val (.int jm0_6), .val (.int jm1_6), .val (.long jq0_6), .second, .val (.long jq1_6), .second, .unset, .unset] [])) := cs21.trans (by
        refine s_ifYes X19 hx 171 (D at_117) ((if0 _ _).trans (teq hc22).1) (of_decide_eq_true rfl) rfl ?_
        exact Steps.refl _)
      exact ⟨jb_6, jz_6, je0_6, je1_6, jp0_6, jp1_6, ji0_6, ji1_6, jx0_6, jx1_6, jy0_6, jy1_6, jm0_6, jm1_6, jk0_6, jk1_6, jq0_6, jq1_6, jF_6, jO_6, jW_6, T19, _, _, X19, e19, N19, Kj6, Oj6, J6_0, J6_1, J6_2, J6_3, J6_4, J6_5, J6_6, J6_7, J6_8, J6_9, J6_10, J6_11, J6_12, J6_13, J6_14, J6_15, J6_16, J6_17, J6_18, J6_19, J6_20, J6_21, J6_22, J6_23, J6_24, J6_25, Jp6_0, ⟨Jp6_1.1, Jp6_1.2.1, Jp6_1.2.2⟩, Jp6_2, Jp6_4, cs23⟩
    · obtain ⟨cq24, kq24, q24a, q24b, q24c⟩ := isOf hZ e19 J6_0
      obtain ⟨_, _, ⟨T24, L24, k24, n24⟩, -, X24, ⟨Lc24, hQ24, l24, y24, z24⟩, st24⟩ := X19.virtualBack hx (y := (⟨cQ, "put", "(IJ)V"⟩ : MethodName)) (z := (⟨cQ, "put", "(IJ)V"⟩ : MethodName)) hown (mvT hZ (wd 66 rfl)) (mvT hZ (wd 67 rfl)) (notFace_of_selects (args := #[]) (mvT hZ (wd 69 rfl))) (mvT hZ (wd 69 rfl)) (mvT hZ (wd 68 rfl)) (by decide) (own_backH (W := 0) (rm_kput1 l Z a0 hw [] fa1 zB zL aF_2 aO_2 aW_2 aK_2 aB_2 aA_2 aI_2 hp_2 lo_2 aE_2 aP_2 cK_2 kK_2 kB_2 kA_2 kI_2 kF_2 kO_2 kW_2 kE_2 kP_2 jb_6 ji0_6 ji1_6 jx0_6 jx1_6 jy0_6 jy1_6 jz_6 je0_6 je1_6 jp0_6 jp1_6 jm0_6 jm1_6 jk0_6 jk1_6 jF_6 jO_6 jW_6 hj6 n0 Oj6 J6_0 J6_3 J6_4 J6_5 J6_6 J6_7 J6_8 J6_9 J6_10 J6_11 J6_12 J6_13 J6_14 J6_15 J6_16 J6_1 J6_20 J6_21 J6_22 J6_23 J6_24 J6_25 Q2_26 Q2_25 gn_fa1 gn_aB_2 gn_aA_2 gn_aI_2 gn_aF_2 gn_aO_2 gn_aW_2 gn_hp_2 gn_aE_2 gn_aP_2 gn_aK_2 Jp6_0 Jp6_1.1 Jp6_1.2.1 Jp6_1.2.2 (own_so Jp6_0 Jp6_3 (by rw [hzB]; exact own_and1 _)) ((by rw [hzB]; exact own_and1 _)) (by rw [hzL]; exact own_max _) J6_2 J6_17 J6_18 J6_19) hZH (wd 70 rfl) (wd 2 rfl) (by decide) (by decide)) q24a q24c (g := (mkF m 126 #[.val (.int p0), .val (.int p1), .val (.long p2), .second, .val (.long p3), .second, .val (.ref fa1), .val (.int (1 : Int32)), .val (.int zA), .val (.int zB), .val (.int zC), .val (.long zK), .second, .val (.long zL), .second, .val (.int jm0_6), .val (.int jm1_6), .val (.long jq0_6), .second, .val (.long jq1_6), .second, .unset, .unset] [(.long zL), (.int zB), (.ref fa1)])) rfl (by rw [hml]; rfl) (Steps.refl _) (argsL := [(.int zB), (.long zL)]) (rest := []) (lenOf pd_12 rfl) rfl (by show 2 * 0 + _ ≤ _; exact Nat.le_of_eq rfl) (D at_126) (fun _ _ => ⟨rfl, e19, (by decide : 12 + 0 ≤ _), (by decide : 66603 + 0 ≤ _)⟩)
      dsimp only [Pt.U, Pt.locs, Pt.cells, Pt.slots] at X24 l24 y24 z24 st24 hQ24
      subst l24 y24 z24
      obtain ⟨ve0_24, ve1_24, vp0_24, vp1_24, vz__24, vb__24, vi0_24, vi1_24, vF_24, vO_24, vW_24, vbf0_24, vbf1_24, vaf0_24, vaf1_24, rfl, N24q, K24, Q24_0, Q24_1, Q24_2, Q24_3, Q24_4, Q24_5, Q24_6, Q24_7, Q24_8, Q24_9, Q24_10, Q24_11, Q24_12, Q24_13, Q24_14, Q24_15, Q24_16, Q24_17, Q24_18, Q24_19, Q24_20, Q24_21, Q24_22, Q24_23, Q24_24⟩ := hQ24
      have O24 := Oj6.keep K24 (allS gn_fa1 (allS gn_aB_2 (allS gn_aA_2 (allS gn_aI_2 (allS gn_aF_2 (allS gn_aO_2 (allS gn_aW_2 (allS gn_hp_2 (allS gn_aE_2 (allS gn_aP_2 (allS gn_aK_2 all0)))))))))))
      have KK24 : Keep h0 T24.heap [] := Kj6.trans K24 (allS (Or.inr gh_fa1) (allS (Or.inr gh_aB_2) (allS (Or.inr gh_aA_2) (allS (Or.inr gh_aI_2) (allS (Or.inr gh_aF_2) (allS (Or.inr gh_aO_2) (allS (Or.inr gh_aW_2) (allS (Or.inr gh_hp_2) (allS (Or.inr gh_aE_2) (allS (Or.inr gh_aP_2) (allS (Or.inr gh_aK_2) all0)))))))))))
      have N24 := Fr.app N19 N24q
      have cs25 : Steps p.tables e below (s₁.setTop (mkF m 0 #[.val (.int p0), .val (.int p1), .val (.long p2), .second, .val (.long p3), .second, .unset, .unset, .unset, .unset, .unset, .unset, .unset, .unset, .unset, .unset, .unset, .unset, .unset, .unset, .unset, .unset, .unset] [])) (T24.setTop (mkF m 131 #[.val (.int p0), .val (.int p1), .val (.long p2), .second, .val (.long p3), .second, .val (.ref fa1), .val (.int (1 : Int32)), .val (.int zA), .val (.int zB), .val (.int zC), .val (.long zK), .second, .val (.long zL), .second, .val (.int jm0_6), .val (.int jm1_6), .val (.long jq0_6), .second, .val (.long jq1_6), .second, .unset, .unset] [(.int zB)])) := cs21.trans (by
        refine s_ifNo X19 hx (D at_117) ((if0 _ _).trans (feq hc22).1) ?_
        refine s_aload X19 hx (D at_120) rfl rfl ?_
        refine s_iload X19 hx (D at_122) rfl ?_
        refine s_lload X19 hx (D at_124) rfl ?_
        refine st24.trans ?_
        refine s_iload X24 hx (D at_129) rfl ?_
        exact Steps.refl _)
      by_cases hc26 : zB = (0 : Int32)
      · have kc27 := own_c0 Q24_23 hc26
        have mk27 := own_mk0 (en := zB) (y := zL) Jp6_2 hc26
        have f28 := (J6_0.keep K24)
        have f29 := (J6_1.keep K24)
        obtain ⟨cq30, kq30, q30a, q30b, q30c⟩ := isOf hZ rfl f28
        obtain ⟨_, _, ⟨T30, L30, k30, n30⟩, -, X30, ⟨Lc30, hQ30, l30, y30, z30⟩, st30⟩ := X24.virtualBack hx (y := (⟨cQ, "isEmpty", "()Z"⟩ : MethodName)) (z := (⟨cQ, "isEmpty", "()Z"⟩ : MethodName)) hown (mvT hZ (wd 51 rfl)) (mvT hZ (wd 52 rfl)) (notFace_of_selects (args := #[]) (mvT hZ (wd 54 rfl))) (mvT hZ (wd 54 rfl)) (mvT hZ (wd 53 rfl)) (by decide) (own_backH (W := 0) (rm_kisEmpty l Z a0 hw [] fa1 hp_2 vb__24 vi0_24 vi1_24 vz__24 ve0_24 ve1_24 vp0_24 vp1_24 (1 : Int32) jm1_6 T24.heap n0 O24 f28 Q24_7 Q24_8 f29 Q24_20 kc27) hZH (wd 55 rfl) (wd 2 rfl) (by decide) (by decide)) q30a q30c (g := (mkF m 158 #[.val (.int p0), .val (.int p1), .val (.long p2), .second, .val (.long p3), .second, .val (.ref fa1), .val (.int (1 : Int32)), .val (.int zA), .val (.int zB), .val (.int zC), .val (.long zK), .second, .val (.long zL), .second, .val (.int (1 : Int32)), .val (.int jm1_6), .val (.long zL), .second, .val (.long jq1_6), .second, .unset, .unset] [(.ref fa1)])) rfl (by rw [hml]; rfl) (Steps.refl _) (argsL := []) (rest := []) (lenOf pd_6 rfl) rfl (by show 2 * 0 + _ ≤ _; exact Nat.le_of_eq rfl) (D at_158) (fun _ _ => ⟨rfl, rfl, (by decide : 12 + 0 ≤ _), (by decide : 66603 + 0 ≤ _)⟩)
        dsimp only [Pt.U, Pt.locs, Pt.cells, Pt.slots] at X30 l30 y30 z30 st30 hQ30
        subst l30 y30 z30
        obtain ⟨rfl, N30q, e30⟩ := hQ30
        have N30 := Fr.app N24 N30q
        have cs31 : Steps p.tables e below (s₁.setTop (mkF m 0 #[.val (.int p0), .val (.int p1), .val (.long p2), .second, .val (.long p3), .second, .unset, .unset, .unset, .unset, .unset, .unset, .unset, .unset, .unset, .unset, .unset, .unset, .unset, .unset, .unset, .unset, .unset] [])) (T30.setTop (mkF m 171 #[.val (.int p0), .val (.int p1), .val (.long p2), .second, .val (.long p3), .second, .val (.ref fa1), .val (.int (1 : Int32)), .val (.int zA), .val (.int zB), .val (.int zC), .val (.long zK), .second, .val (.long zL), .second, .val (.int (1 : Int32)), .val (.int jm1_6), .val (.long zL), .second, .val (.long jq1_6), .second, .unset, .unset] [])) := cs25.trans (by
          refine s_ifNo X24 hx (D at_131) ((if0 _ _).trans (teq hc26).2) ?_
          refine s_iconst X24 hx (1 : Int32) (D at_134) rfl ?_
          refine s_istore X24 hx (D at_135) (l' := #[.val (.int p0), .val (.int p1), .val (.long p2), .second, .val (.long p3), .second, .val (.ref fa1), .val (.int (1 : Int32)), .val (.int zA), .val (.int zB), .val (.int zC), .val (.long zK), .second, .val (.long zL), .second, .val (.int (1 : Int32)), .val (.int jm1_6), .val (.long jq0_6), .second, .val (.long jq1_6), .second, .unset, .unset]) rfl ?_
          refine s_lload X24 hx (D at_137) rfl ?_
          refine s_lstore X24 hx (D at_139) (l' := #[.val (.int p0), .val (.int p1), .val (.long p2), .second, .val (.long p3), .second, .val (.ref fa1), .val (.int (1 : Int32)), .val (.int zA), .val (.int zB), .val (.int zC), .val (.long zK), .second, .val (.long zL), .second, .val (.int (1 : Int32)), .val (.int jm1_6), .val (.long zL), .second, .val (.long jq1_6), .second, .unset, .unset]) rfl ?_
          refine s_goto X24 hx 151 (D at_141) (of_decide_eq_true rfl) rfl ?_
          refine s_iload X24 hx (D at_151) rfl ?_
          refine s_ifNo X24 hx (D at_153) ((if0 _ _).trans (feq (by decide : ¬ ((1 : Int32) = (0 : Int32)))).1) ?_
          refine s_aload X24 hx (D at_156) rfl rfl ?_
          refine st30.trans ?_
          refine s_ifNo X30 hx (D at_161) ((if0 _ _).trans (teq (own_e1 (Or.inl rfl) : (EM (1 : Int32) jm1_6) = (0 : Int32))).2) ?_
          refine s_iconst X30 hx (1 : Int32) (D at_164) rfl ?_
          refine s_goto X30 hx 169 (D at_165) (of_decide_eq_true rfl) rfl ?_
          refine s_istore X30 hx (D at_169) (l' := #[.val (.int p0), .val (.int p1), .val (.long p2), .second, .val (.long p3), .second, .val (.ref fa1), .val (.int (1 : Int32)), .val (.int zA), .val (.int zB), .val (.int zC), .val (.long zK), .second, .val (.long zL), .second, .val (.int (1 : Int32)), .val (.int jm1_6), .val (.long zL), .second, .val (.long jq1_6), .second, .unset, .unset]) rfl ?_
          exact Steps.refl _)
        have f32 := (J6_2.keep K24 (nn103 Q2_25))
        exact ⟨vb__24, vz__24, ve0_24, ve1_24, vp0_24, vp1_24, vi0_24, vi1_24, vbf0_24, vbf1_24, vaf0_24, vaf1_24, (1 : Int32), jm1_6, (s2 zB 0 zL jk0_6), (s2 zB 1 zL jk1_6), zL, jq1_6, vF_24, vO_24, vW_24, T30, _, _, X30, e30, N30, KK24, O24, f28, f29, f32, Q24_0, Q24_1, Q24_2, Q24_3, Q24_4, Q24_5, Q24_6, Q24_7, Q24_8, Q24_9, Q24_10, Q24_11, Q24_12, Q24_13, Q24_14, Q24_15, Q24_16, Q24_17, Q24_18, Q24_19, Q24_20, Q24_21, Q24_22, kc27, ⟨Q24_24.1, Q24_24.2.1, Q24_24.2.2⟩, mk27, (Or.inl rfl), cs31⟩
      · have kc33 := own_c1 (by rw [hzB]; exact own_and1 _) Q24_23 hc26
        have mk33 := own_mk1 (en := zB) (y := zL) (by rw [hzB]; exact own_and1 _) Jp6_2 hc26
        have f34 := (J6_0.keep K24)
        have f35 := (J6_1.keep K24)
        obtain ⟨cq36, kq36, q36a, q36b, q36c⟩ := isOf hZ rfl f34
        obtain ⟨_, _, ⟨T36, L36, k36, n36⟩, -, X36, ⟨Lc36, hQ36, l36, y36, z36⟩, st36⟩ := X24.virtualBack hx (y := (⟨cQ, "isEmpty", "()Z"⟩ : MethodName)) (z := (⟨cQ, "isEmpty", "()Z"⟩ : MethodName)) hown (mvT hZ (wd 51 rfl)) (mvT hZ (wd 52 rfl)) (notFace_of_selects (args := #[]) (mvT hZ (wd 54 rfl))) (mvT hZ (wd 54 rfl)) (mvT hZ (wd 53 rfl)) (by decide) (own_backH (W := 0) (rm_kisEmpty l Z a0 hw [] fa1 hp_2 vb__24 vi0_24 vi1_24 vz__24 ve0_24 ve1_24 vp0_24 vp1_24 jm0_6 (1 : Int32) T24.heap n0 O24 f34 Q24_7 Q24_8 f35 Q24_20 kc33) hZH (wd 55 rfl) (wd 2 rfl) (by decide) (by decide)) q36a q36c (g := (mkF m 158 #[.val (.int p0), .val (.int p1), .val (.long p2), .second, .val (.long p3), .second, .val (.ref fa1), .val (.int (1 : Int32)), .val (.int zA), .val (.int zB), .val (.int zC), .val (.long zK), .second, .val (.long zL), .second, .val (.int jm0_6), .val (.int (1 : Int32)), .val (.long jq0_6), .second, .val (.long zL), .second, .unset, .unset] [(.ref fa1)])) rfl (by rw [hml]; rfl) (Steps.refl _) (argsL := []) (rest := []) (lenOf pd_6 rfl) rfl (by show 2 * 0 + _ ≤ _; exact Nat.le_of_eq rfl) (D at_158) (fun _ _ => ⟨rfl, rfl, (by decide : 12 + 0 ≤ _), (by decide : 66603 + 0 ≤ _)⟩)
        dsimp only [Pt.U, Pt.locs, Pt.cells, Pt.slots] at X36 l36 y36 z36 st36 hQ36
        subst l36 y36 z36
        obtain ⟨rfl, N36q, e36⟩ := hQ36
        have N36 := Fr.app N24 N36q
        have cs37 : Steps p.tables e below (s₁.setTop (mkF m 0 #[.val (.int p0), .val (.int p1), .val (.long p2), .second, .val (.long p3), .second, .unset, .unset, .unset, .unset, .unset, .unset, .unset, .unset, .unset, .unset, .unset, .unset, .unset, .unset, .unset, .unset, .unset] [])) (T36.setTop (mkF m 171 #[.val (.int p0), .val (.int p1), .val (.long p2), .second, .val (.long p3), .second, .val (.ref fa1), .val (.int (1 : Int32)), .val (.int zA), .val (.int zB), .val (.int zC), .val (.long zK), .second, .val (.long zL), .second, .val (.int jm0_6), .val (.int (1 : Int32)), .val (.long jq0_6), .second, .val (.long zL), .second, .unset, .unset] [])) := cs25.trans (by
          refine s_ifYes X24 hx 144 (D at_131) ((if0 _ _).trans (feq hc26).2) (of_decide_eq_true rfl) rfl ?_
          refine s_iconst X24 hx (1 : Int32) (D at_144) rfl ?_
          refine s_istore X24 hx (D at_145) (l' := #[.val (.int p0), .val (.int p1), .val (.long p2), .second, .val (.long p3), .second, .val (.ref fa1), .val (.int (1 : Int32)), .val (.int zA), .val (.int zB), .val (.int zC), .val (.long zK), .second, .val (.long zL), .second, .val (.int jm0_6), .val (.int (1 : Int32)), .val (.long jq0_6), .second, .val (.long jq1_6), .second, .unset, .unset]) rfl ?_
          refine s_lload X24 hx (D at_147) rfl ?_
          refine s_lstore X24 hx (D at_149) (l' := #[.val (.int p0), .val (.int p1), .val (.long p2), .second, .val (.long p3), .second, .val (.ref fa1), .val (.int (1 : Int32)), .val (.int zA), .val (.int zB), .val (.int zC), .val (.long zK), .second, .val (.long zL), .second, .val (.int jm0_6), .val (.int (1 : Int32)), .val (.long jq0_6), .second, .val (.long zL), .second, .unset, .unset]) rfl ?_
          refine s_iload X24 hx (D at_151) rfl ?_
          refine s_ifNo X24 hx (D at_153) ((if0 _ _).trans (feq (by decide : ¬ ((1 : Int32) = (0 : Int32)))).1) ?_
          refine s_aload X24 hx (D at_156) rfl rfl ?_
          refine st36.trans ?_
          refine s_ifNo X36 hx (D at_161) ((if0 _ _).trans (teq (own_e1 (Or.inr rfl) : (EM jm0_6 (1 : Int32)) = (0 : Int32))).2) ?_
          refine s_iconst X36 hx (1 : Int32) (D at_164) rfl ?_
          refine s_goto X36 hx 169 (D at_165) (of_decide_eq_true rfl) rfl ?_
          refine s_istore X36 hx (D at_169) (l' := #[.val (.int p0), .val (.int p1), .val (.long p2), .second, .val (.long p3), .second, .val (.ref fa1), .val (.int (1 : Int32)), .val (.int zA), .val (.int zB), .val (.int zC), .val (.long zK), .second, .val (.long zL), .second, .val (.int jm0_6), .val (.int (1 : Int32)), .val (.long jq0_6), .second, .val (.long zL), .second, .unset, .unset]) rfl ?_
          exact Steps.refl _)
        have f38 := (J6_2.keep K24 (nn103 Q2_25))
        exact ⟨vb__24, vz__24, ve0_24, ve1_24, vp0_24, vp1_24, vi0_24, vi1_24, vbf0_24, vbf1_24, vaf0_24, vaf1_24, jm0_6, (1 : Int32), (s2 zB 0 zL jk0_6), (s2 zB 1 zL jk1_6), jq0_6, zL, vF_24, vO_24, vW_24, T36, _, _, X36, e36, N36, KK24, O24, f34, f35, f38, Q24_0, Q24_1, Q24_2, Q24_3, Q24_4, Q24_5, Q24_6, Q24_7, Q24_8, Q24_9, Q24_10, Q24_11, Q24_12, Q24_13, Q24_14, Q24_15, Q24_16, Q24_17, Q24_18, Q24_19, Q24_20, Q24_21, Q24_22, kc33, ⟨Q24_24.1, Q24_24.2.1, Q24_24.2.2⟩, mk33, (Or.inr rfl), cs37⟩
  obtain ⟨jb_20, jz_20, je0_20, je1_20, jp0_20, jp1_20, ji0_20, ji1_20, jx0_20, jx1_20, jy0_20, jy1_20, jm0_20, jm1_20, jk0_20, jk1_20, jq0_20, jq1_20, jF_20, jO_20, jW_20, Tj20, Lj20, hj20, Xj20, ej20, Nj20, Kj20, Oj20, J20_0, J20_1, J20_2, J20_3, J20_4, J20_5, J20_6, J20_7, J20_8, J20_9, J20_10, J20_11, J20_12, J20_13, J20_14, J20_15, J20_16, J20_17, J20_18, J20_19, J20_20, J20_21, J20_22, J20_23, J20_24, J20_25, Jp20_0, Jp20_1, Jp20_2, Jp20_3, cj20⟩ := jn20
  have cs40 : Steps p.tables e below (s₁.setTop (mkF m 0 #[.val (.int p0), .val (.int p1), .val (.long p2), .second, .val (.long p3), .second, .unset, .unset, .unset, .unset, .unset, .unset, .unset, .unset, .unset, .unset, .unset, .unset, .unset, .unset, .unset, .unset, .unset] [])) (Tj20.setTop (mkF m 174 #[.val (.int p0), .val (.int p1), .val (.long p2), .second, .val (.long p3), .second, .val (.ref fa1), .val (.int (1 : Int32)), .val (.int zA), .val (.int zB), .val (.int zC), .val (.long zK), .second, .val (.long zL), .second, .val (.int jm0_20), .val (.int jm1_20), .val (.long jq0_20), .second, .val (.long jq1_20), .second, .unset, .unset] [(.int (p0 &&& (2 : Int32)))])) := cj20.trans (by
    refine s_iloadN Xj20 hx (D at_171) rfl ?_
    refine s_iconst Xj20 hx (2 : Int32) (D at_172) rfl ?_
    refine s_iand Xj20 hx (D at_173) rfl ?_
    exact Steps.refl _)
  have jn39 : ∃ (jb_39 : Int32) (jz_39 : Int32) (je0_39 : Int32) (je1_39 : Int32) (jp0_39 : Int32) (jp1_39 : Int32) (ji0_39 : Int32) (ji1_39 : Int32) (jm0_39 : Int32) (jm1_39 : Int32) (jl_39 : Int64) (zs21_39 : Slot) (zs22_39 : Slot) (T : State) (L : List Loc) (h : Heap), Stand p l e room_1 s m #[(.int p0), (.int p1), (.long p2), (.long p3)] below meth c T L 12 66603 ∧ T.heap = h ∧ Fr n0 L ∧ Keep h0 h [] ∧ Old Z n0 h ∧ Exa Z h fa1 cQ ∧ Exa Z h hp_2 cH ∧ LamO h lo_2 cK_2 fa1 ∧ Fld Z h fa1 cQ "keys" "[J" (.ref aK_2) ∧ Fld Z h fa1 cQ "before" "[I" (.ref aB_2) ∧ Fld Z h fa1 cQ "after" "[I" (.ref aA_2) ∧ Fld Z h fa1 cQ "inBucket" "[Z" (.ref aI_2) ∧ Fld Z h fa1 cQ "firsts" "[I" (.ref aF_2) ∧ Fld Z h fa1 cQ "occupied" "[J" (.ref aO_2) ∧ Fld Z h fa1 cQ "occupiedWords" "[J" (.ref aW_2) ∧ Fld Z h fa1 cQ "further" "Lcom/example/leasewise/leasewise/IndexedHeap;" (.ref hp_2) ∧ Fld Z h fa1 cQ "bucketed" "I" (.int jb_39) ∧ Fld Z h fa1 cQ "floor" "J" (.long jl_39) ∧ Arp Z h aK_2 kK_2 .long (2 : Int32) PJ ∧ Arp Z h aB_2 kB_2 .int (2 : Int32) PI ∧ Arp Z h aA_2 kA_2 .int (2 : Int32) PI ∧ Arv Z h aI_2 kI_2 .boolean (2 : Int32) [(.int ji0_39), (.int ji1_39)] (.int (0 : Int32)) ∧ Arp Z h aF_2 kF_2 .int (65536 : Int32) PI ∧ Arp Z h aO_2 kO_2 .long (1024 : Int32) PJ ∧ Arp Z h aW_2 kW_2 .long (16 : Int32) PJ ∧ Fld Z h hp_2 cH "order" "Lcom/example/leasewise/leasewise/IndexedHeap$Order;" (.ref lo_2) ∧ Fld Z h hp_2 cH "entries" "[I" (.ref aE_2) ∧ Fld Z h hp_2 cH "positions" "[I" (.ref aP_2) ∧ Fld Z h hp_2 cH "size" "I" (.int jz_39) ∧ Arv Z h aE_2 kE_2 .int (2 : Int32) [(.int je0_39), (.int je1_39)] (.int (0 : Int32)) ∧ Arv Z h aP_2 kP_2 .int (2 : Int32) [(.int jp0_39), (.int jp1_39)] (.int (-1 : Int32)) ∧ KI jb_39 jz_39 je0_39 je1_39 jp0_39 jp1_39 ji0_39 ji1_39 jm0_39 jm1_39 ∧ ((zs21_39 = .unset ∧ zs22_39 = .unset) ∨ ∃ a : Int64, zs21_39 = .val (.long a) ∧ zs22_39 = .second) ∧ Steps p.tables e below (s₁.setTop (mkF m 0 #[.val (.int p0), .val (.int p1), .val (.long p2), .second, .val (.long p3), .second, .unset, .unset, .unset, .unset, .unset, .unset, .unset, .unset, .unset, .unset, .unset, .unset, .unset, .unset, .unset, .unset, .unset] [])) (T.setTop (mkF m 242 #[.val (.int p0), .val (.int p1), .val (.long p2), .second, .val (.long p3), .second, .val (.ref fa1), .val (.int (1 : Int32)), .val (.int zA), .val (.int zB), .val (.int zC), .val (.long zK), .second, .val (.long zL), .second, .val (.int jm0_39), .val (.int jm1_39), .val (.long jq0_20), .second, .val (.long jq1_20), .second, zs21_39, zs22_39] [])) := by
    by_cases hc41 : (p0 &&& (2 : Int32)) = (0 : Int32)
    · have cs42 : Steps p.tables e below (s₁.setTop (mkF m 0 #[.val (.int p0), .val (.int p1), .val (.long p2), .second, .val (.long p3), .second, .unset, .unset, .unset, .unset, .unset, .unset, .unset, .unset, .unset, .unset, .unset, .unset, .unset, .unset, .unset, .unset, .unset] [])) (Tj20.setTop (mkF m 242 #[.val (.int p0), .val (.int p1), .val (.long p2), .second, .val (.long p3), .second, .val (.ref fa1), .val (.int (1 : Int32)), .val (.int zA), .val (.int zB), .val (.int zC), .val (.long zK), .second, .val (.long zL), .second, .val (.int jm0_20), .val (.int jm1_20), .val (.long jq0_20), .second, .val (.long jq1_20), .second, .unset, .unset] [])) := cs40.trans (by
        refine s_ifYes Xj20 hx 242 (D at_174) ((if0 _ _).trans (teq hc41).1) (of_decide_eq_true rfl) rfl ?_
        exact Steps.refl _)
      have Vp43 : Arp Z hj20 aK_2 kK_2 .long (2 : Int32) PJ := Arp.of J20_13 (own_pj2J (own_PJ _) (own_PJ _) (own_PJ _))
      have Vp44 : Arp Z hj20 aB_2 kB_2 .int (2 : Int32) PI := Arp.of J20_14 (own_pj2I (own_PI Jp20_1.2.2.1) (own_PI Jp20_1.2.2.2.1) (own_PI (by decide)))
      have Vp45 : Arp Z hj20 aA_2 kA_2 .int (2 : Int32) PI := Arp.of J20_15 (own_pj2I (own_PI Jp20_1.2.2.2.2.1) (own_PI Jp20_1.2.2.2.2.2) (own_PI (by decide)))
      have Vp46 : Arp Z hj20 aF_2 kF_2 .int (65536 : Int32) PI := J20_17.prop (fun i => own_PI (own_liv Jp20_1.1 i))
      have Vp47 : Arp Z hj20 aO_2 kO_2 .long (1024 : Int32) PJ := J20_18.prop (fun i => own_PJ _)
      have Vp48 : Arp Z hj20 aW_2 kW_2 .long (16 : Int32) PJ := J20_19.prop (fun i => own_PJ _)
      exact ⟨jb_20, jz_20, je0_20, je1_20, jp0_20, jp1_20, ji0_20, ji1_20, jm0_20, jm1_20, (0 : Int64), _, _, Tj20, _, _, Xj20, ej20, Nj20, Kj20, Oj20, J20_0, J20_1, J20_2, J20_3, J20_4, J20_5, J20_6, J20_7, J20_8, J20_9, J20_10, J20_11, J20_12, Vp43, Vp44, Vp45, J20_16, Vp46, Vp47, Vp48, J20_20, J20_21, J20_22, J20_23, J20_24, J20_25, Jp20_0, (Or.inl ⟨rfl, rfl⟩), cs42⟩
    · have cs50 : Steps p.tables e below (s₁.setTop (mkF m 0 #[.val (.int p0), .val (.int p1), .val (.long p2), .second, .val (.long p3), .second, .unset, .unset, .unset, .unset, .unset, .unset, .unset, .unset, .unset, .unset, .unset, .unset, .unset, .unset, .unset, .unset, .unset] [])) (Tj20.setTop (mkF m 179 #[.val (.int p0), .val (.int p1), .val (.long p2), .second, .val (.long p3), .second, .val (.ref fa1), .val (.int (1 : Int32)), .val (.int zA), .val (.int zB), .val (.int zC), .val (.long zK), .second, .val (.long zL), .second, .val (.int jm0_20), .val (.int jm1_20), .val (.long jq0_20), .second, .val (.long jq1_20), .second, .unset, .unset] [(.int jm0_20)])) := cs40.trans (by
        refine s_ifNo Xj20 hx (D at_174) ((if0 _ _).trans (feq hc41).1) ?_
        refine s_iload Xj20 hx (D at_177) rfl ?_
        exact Steps.refl _)
      have jn49 : ∃ (jf_49 : Int64) (T : State) (L : List Loc) (h : Heap), Stand p l e room_1 s m #[(.int p0), (.int p1), (.long p2), (.long p3)] below meth c T L 12 66603 ∧ T.heap = h ∧ Fr n0 L ∧ Keep h0 h [] ∧ Old Z n0 h ∧ Exa Z h fa1 cQ ∧ Exa Z h hp_2 cH ∧ LamO h lo_2 cK_2 fa1 ∧ Fld Z h fa1 cQ "keys" "[J" (.ref aK_2) ∧ Fld Z h fa1 cQ "before" "[I" (.ref aB_2) ∧ Fld Z h fa1 cQ "after" "[I" (.ref aA_2) ∧ Fld Z h fa1 cQ "inBucket" "[Z" (.ref aI_2) ∧ Fld Z h fa1 cQ "firsts" "[I" (.ref aF_2) ∧ Fld Z h fa1 cQ "occupied" "[J" (.ref aO_2) ∧ Fld Z h fa1 cQ "occupiedWords" "[J" (.ref aW_2) ∧ Fld Z h fa1 cQ "further" "Lcom/example/leasewise/leasewise/IndexedHeap;" (.ref hp_2) ∧ Fld Z h fa1 cQ "bucketed" "I" (.int jb_20) ∧ Fld Z h fa1 cQ "floor" "J" (.long (0 : Int64)) ∧ Arv Z h aK_2 kK_2 .long (2 : Int32) [(.long jk0_20), (.long jk1_20)] (.long (0 : Int64)) ∧ Arv Z h aB_2 kB_2 .int (2 : Int32) [(.int jx0_20), (.int jx1_20)] (.int (0 : Int32)) ∧ Arv Z h aA_2 kA_2 .int (2 : Int32) [(.int jy0_20), (.int jy1_20)] (.int (0 : Int32)) ∧ Arv Z h aI_2 kI_2 .boolean (2 : Int32) [(.int ji0_20), (.int ji1_20)] (.int (0 : Int32)) ∧ ArfI Z h aF_2 kF_2 (65536 : Int32) jF_20 ∧ ArfJ Z h aO_2 kO_2 (1024 : Int32) jO_20 ∧ ArfJ Z h aW_2 kW_2 (16 : Int32) jW_20 ∧ Fld Z h hp_2 cH "order" "Lcom/example/leasewise/leasewise/IndexedHeap$Order;" (.ref lo_2) ∧ Fld Z h hp_2 cH "entries" "[I" (.ref aE_2) ∧ Fld Z h hp_2 cH "positions" "[I" (.ref aP_2) ∧ Fld Z h hp_2 cH "size" "I" (.int jz_20) ∧ Arv Z h aE_2 kE_2 .int (2 : Int32) [(.int je0_20), (.int je1_20)] (.int (0 : Int32)) ∧ Arv Z h aP_2 kP_2 .int (2 : Int32) [(.int jp0_20), (.int jp1_20)] (.int (-1 : Int32)) ∧ ((jm0_20 = 1 → ¬ jk0_20 < jf_49) ∧ (jm1_20 = 1 → ¬ jk1_20 < jf_49)) ∧ Steps p.tables e below (s₁.setTop (mkF m 0 #[.val (.int p0), .val (.int p1), .val (.long p2), .second, .val (.long p3), .second, .unset, .unset, .unset, .unset, .unset, .unset, .unset, .unset, .unset, .unset, .unset, .unset, .unset, .unset, .unset, .unset, .unset] [])) (T.setTop (mkF m 215 #[.val (.int p0), .val (.int p1), .val (.long p2), .second, .val (.long p3), .second, .val (.ref fa1), .val (.int (1 : Int32)), .val (.int zA), .val (.int zB), .val (.int zC), .val (.long zK), .second, .val (.long zL), .second, .val (.int jm0_20), .val (.int jm1_20), .val (.long jq0_20), .second, .val (.long jq1_20), .second, .val (.long jf_49), .second] [])) := by
        by_cases hc51 : jm0_20 = (0 : Int32)
        · have cs52 : Steps p.tables e below (s₁.setTop (mkF m 0 #[.val (.int p0), .val (.int p1), .val (.long p2), .second, .val (.long p3), .second, .unset, .unset, .unset, .unset, .unset, .unset, .unset, .unset, .unset, .unset, .unset, .unset, .unset, .unset, .unset, .unset, .unset] [])) (Tj20.setTop (mkF m 215 #[.val (.int p0), .val (.int p1), .val (.long p2), .second, .val (.long p3), .second, .val (.ref fa1), .val (.int (1 : Int32)), .val (.int zA), .val (.int zB), .val (.int zC), .val (.long zK), .second, .val (.long zL), .second, .val (.int jm0_20), .val (.int jm1_20), .val (.long jq0_20), .second, .val (.long jq1_20), .second, .val (.long jq1_20), .second] [])) := cs50.trans (by
            refine s_ifYes Xj20 hx 199 (D at_179) ((if0 _ _).trans (teq hc51).1) (of_decide_eq_true rfl) rfl ?_
            refine s_iload Xj20 hx (D at_199) rfl ?_
            refine s_ifYes Xj20 hx 211 (D at_201) ((if0 _ _).trans (teq hc51).1) (of_decide_eq_true rfl) rfl ?_
            refine s_lload Xj20 hx (D at_211) rfl ?_
            refine s_lstore Xj20 hx (D at_213) (l' := #[.val (.int p0), .val (.int p1), .val (.long p2), .second, .val (.long p3), .second, .val (.ref fa1), .val (.int (1 : Int32)), .val (.int zA), .val (.int zB), .val (.int zC), .val (.long zK), .second, .val (.long zL), .second, .val (.int jm0_20), .val (.int jm1_20), .val (.long jq0_20), .second, .val (.long jq1_20), .second, .val (.long jq1_20), .second]) rfl ?_
            exact Steps.refl _)
          exact ⟨jq1_20, Tj20, _, _, Xj20, ej20, Nj20, Kj20, Oj20, J20_0, J20_1, J20_2, J20_3, J20_4, J20_5, J20_6, J20_7, J20_8, J20_9, J20_10, J20_11, J20_12, J20_13, J20_14, J20_15, J20_16, J20_17, J20_18, J20_19, J20_20, J20_21, J20_22, J20_23, J20_24, J20_25, (own_lo2 Jp20_2 hc51), cs52⟩
        · have cs53 : Steps p.tables e below (s₁.setTop (mkF m 0 #[.val (.int p0), .val (.int p1), .val (.long p2), .second, .val (.long p3), .second, .unset, .unset, .unset, .unset, .unset, .unset, .unset, .unset, .unset, .unset, .unset, .unset, .unset, .unset, .unset, .unset, .unset] [])) (Tj20.setTop (mkF m 184 #[.val (.int p0), .val (.int p1), .val (.long p2), .second, .val (.long p3), .second, .val (.ref fa1), .val (.int (1 : Int32)), .val (.int zA), .val (.int zB), .val (.int zC), .val (.long zK), .second, .val (.long zL), .second, .val (.int jm0_20), .val (.int jm1_20), .val (.long jq0_20), .second, .val (.long jq1_20), .second, .unset, .unset] [(.int jm1_20)])) := cs50.trans (by
            refine s_ifNo Xj20 hx (D at_179) ((if0 _ _).trans (feq hc51).1) ?_
            refine s_iload Xj20 hx (D at_182) rfl ?_
            exact Steps.refl _)
          by_cases hc54 : jm1_20 = (0 : Int32)
          · have cs55 : Steps p.tables e below (s₁.setTop (mkF m 0 #[.val (.int p0), .val (.int p1), .val (.long p2), .second, .val (.long p3), .second, .unset, .unset, .unset, .unset, .unset, .unset, .unset, .unset, .unset, .unset, .unset, .unset, .unset, .unset, .unset, .unset, .unset] [])) (Tj20.setTop (mkF m 215 #[.val (.int p0), .val (.int p1), .val (.long p2), .second, .val (.long p3), .second, .val (.ref fa1), .val (.int (1 : Int32)), .val (.int zA), .val (.int zB), .val (.int zC), .val (.long zK), .second, .val (.long zL), .second, .val (.int jm0_20), .val (.int jm1_20), .val (.long jq0_20), .second, .val (.long jq1_20), .second, .val (.long jq0_20), .second] [])) := cs53.trans (by
              refine s_ifYes Xj20 hx 199 (D at_184) ((if0 _ _).trans (teq hc54).1) (of_decide_eq_true rfl) rfl ?_
              refine s_iload Xj20 hx (D at_199) rfl ?_
              refine s_ifNo Xj20 hx (D at_201) ((if0 _ _).trans (feq hc51).1) ?_
              refine s_lload Xj20 hx (D at_204) rfl ?_
              refine s_lstore Xj20 hx (D at_206) (l' := #[.val (.int p0), .val (.int p1), .val (.long p2), .second, .val (.long p3), .second, .val (.ref fa1), .val (.int (1 : Int32)), .val (.int zA), .val (.int zB), .val (.int zC), .val (.long zK), .second, .val (.long zL), .second, .val (.int jm0_20), .val (.int jm1_20), .val (.long jq0_20), .second, .val (.long jq1_20), .second, .val (.long jq0_20), .second]) rfl ?_
              refine s_goto Xj20 hx 215 (D at_208) (of_decide_eq_true rfl) rfl ?_
              exact Steps.refl _)
            exact ⟨jq0_20, Tj20, _, _, Xj20, ej20, Nj20, Kj20, Oj20, J20_0, J20_1, J20_2, J20_3, J20_4, J20_5, J20_6, J20_7, J20_8, J20_9, J20_10, J20_11, J20_12, J20_13, J20_14, J20_15, J20_16, J20_17, J20_18, J20_19, J20_20, J20_21, J20_22, J20_23, J20_24, J20_25, (own_lo1 Jp20_2 hc54), cs55⟩
          · obtain ⟨_, _, ⟨T56, L56, k56, n56⟩, -, X56, ⟨Lc56, hQ56, l56, y56, z56⟩, st56⟩ := Jvm.LawKit.callS Xj20 hx (y := (⟨"java/lang/Math", "min", "(JJ)J"⟩ : MethodName)) hown (mvT hZ (wd 161 rfl)) (mvT hZ (wd 162 rfl)) (mvT hZ (wd 120 rfl)) (mvT hZ (wd 163 rfl)) (by decide) (own_backH (W := 0) (rm_min l Z a0 hw [] jq0_20 jq1_20 hj20 n0 Oj20) hZH (wd 163 rfl) (wd 120 rfl) (by decide) (by decide)) (g := (mkF m 191 #[.val (.int p0), .val (.int p1), .val (.long p2), .second, .val (.long p3), .second, .val (.ref fa1), .val (.int (1 : Int32)), .val (.int zA), .val (.int zB), .val (.int zC), .val (.long zK), .second, .val (.long zL), .second, .val (.int jm0_20), .val (.int jm1_20), .val (.long jq0_20), .second, .val (.long jq1_20), .second, .unset, .unset] [(.long jq1_20), (.long jq0_20)])) rfl (by rw [hml]; rfl) (argsL := [(.long jq0_20), (.long jq1_20)]) (rest := []) (lenOf pd_9 rfl) rfl (by show 2 * 0 + _ ≤ _; exact Nat.le_of_eq rfl) (D at_191) (fun _ _ => ⟨rfl, ej20, (by decide : 12 + 0 ≤ _), (by decide : 66603 + 0 ≤ _)⟩)
            dsimp only [Pt.U, Pt.locs, Pt.cells, Pt.slots] at X56 l56 y56 z56 st56 hQ56
            subst l56 y56 z56
            obtain ⟨rfl, N56q, e56⟩ := hQ56
            have N56 := Fr.app Nj20 N56q
            have cs57 : Steps p.tables e below (s₁.setTop (mkF m 0 #[.val (.int p0), .val (.int p1), .val (.long p2), .second, .val (.long p3), .second, .unset, .unset, .unset, .unset, .unset, .unset, .unset, .unset, .unset, .unset, .unset, .unset, .unset, .unset, .unset, .unset, .unset] [])) (T56.setTop (mkF m 215 #[.val (.int p0), .val (.int p1), .val (.long p2), .second, .val (.long p3), .second, .val (.ref fa1), .val (.int (1 : Int32)), .val (.int zA), .val (.int zB), .val (.int zC), .val (.long zK), .second, .val (.long zL), .second, .val (.int jm0_20), .val (.int jm1_20), .val (.long jq0_20), .second, .val (.long jq1_20), .second, .val (.long (if 0 < lcmpW jq0_20 jq1_20 then jq1_20 else jq0_20)), .second] [])) := cs53.trans (by
              refine s_ifNo Xj20 hx (D at_184) ((if0 _ _).trans (feq hc54).1) ?_
              refine s_lload Xj20 hx (D at_187) rfl ?_
              refine s_lload Xj20 hx (D at_189) rfl ?_
              refine st56 _ ?_
              refine s_lstore X56 hx (D at_194) (l' := #[.val (.int p0), .val (.int p1), .val (.long p2), .second, .val (.long p3), .second, .val (.ref fa1), .val (.int (1 : Int32)), .val (.int zA), .val (.int zB), .val (.int zC), .val (.long zK), .second, .val (.long zL), .second, .val (.int jm0_20), .val (.int jm1_20), .val (.long jq0_20), .second, .val (.long jq1_20), .second, .val (.long (if 0 < lcmpW jq0_20 jq1_20 then jq1_20 else jq0_20)), .second]) rfl ?_
              refine s_goto X56 hx 215 (D at_196) (of_decide_eq_true rfl) rfl ?_
              exact Steps.refl _)
            exact ⟨(if 0 < lcmpW jq0_20 jq1_20 then jq1_20 else jq0_20), T56, _, _, X56, e56, N56, Kj20, Oj20, J20_0, J20_1, J20_2, J20_3, J20_4, J20_5, J20_6, J20_7, J20_8, J20_9, J20_10, J20_11, J20_12, J20_13, J20_14, J20_15, J20_16, J20_17, J20_18, J20_19, J20_20, J20_21, J20_22, J20_23, J20_24, J20_25, (own_lo3 Jp20_2), cs57⟩
      obtain ⟨jf_49, Tj49, Lj49, hj49, Xj49, ej49, Nj49, Kj49, Oj49, J49_0, J49_1, J49_2, J49_3, J49_4, J49_5, J49_6, J49_7, J49_8, J49_9, J49_10, J49_11, J49_12, J49_13, J49_14, J49_15, J49_16, J49_17, J49_18, J49_19, J49_20, J49_21, J49_22, J49_23, J49_24, J49_25, Jp49_0, cj49⟩ := jn49
      obtain ⟨cq58, kq58, q58a, q58b, q58c⟩ := isOf hZ ej49 J49_0
      obtain ⟨_, _, ⟨T58, L58, k58, n58⟩, -, X58, ⟨Lc58, hQ58, l58, y58, z58⟩, st58⟩ := Xj49.virtualBack hx (y := (⟨cQ, "raiseFloor", "(J)V"⟩ : MethodName)) (z := (⟨cQ, "raiseFloor", "(J)V"⟩ : MethodName)) hown (mvT hZ (wd 89 rfl)) (mvT hZ (wd 90 rfl)) (notFace_of_selects (args := #[]) (mvT hZ (wd 92 rfl))) (mvT hZ (wd 92 rfl)) (mvT hZ (wd 91 rfl)) (by decide) (own_backH (W := 0) (rm_kraiseFloor l Z a0 hw [] fa1 jf_49 aF_2 aO_2 aW_2 aK_2 aB_2 aA_2 aI_2 hp_2 lo_2 aE_2 aP_2 cK_2 kK_2 kB_2 kA_2 kI_2 kF_2 kO_2 kW_2 kE_2 kP_2 jb_20 ji0_20 ji1_20 jx0_20 jx1_20 jy0_20 jy1_20 jz_20 je0_20 je1_20 jp0_20 jp1_20 jm0_20 jm1_20 jk0_20 jk1_20 jF_20 jO_20 jW_20 hj49 n0 Oj49 J49_0 J49_3 J49_4 J49_5 J49_6 J49_7 J49_8 J49_9 J49_10 J49_11 J49_12 J49_13 J49_14 J49_15 J49_16 J49_1 J49_20 J49_21 J49_22 J49_23 J49_24 J49_25 Q2_26 Q2_25 gn_fa1 gn_aB_2 gn_aA_2 gn_aI_2 gn_aF_2 gn_aO_2 gn_aW_2 gn_hp_2 gn_aE_2 gn_aP_2 Jp20_0 Jp20_1.1 Jp20_1.2.1 Jp20_1.2.2 Jp49_0 J49_2 J49_17 J49_18 J49_19) hZH (wd 93 rfl) (wd 2 rfl) (by decide) (by decide)) q58a q58c (g := (mkF m 219 #[.val (.int p0), .val (.int p1), .val (.long p2), .second, .val (.long p3), .second, .val (.ref fa1), .val (.int (1 : Int32)), .val (.int zA), .val (.int zB), .val (.int zC), .val (.long zK), .second, .val (.long zL), .second, .val (.int jm0_20), .val (.int jm1_20), .val (.long jq0_20), .second, .val (.long jq1_20), .second, .val (.long jf_49), .second] [(.long jf_49), (.ref fa1)])) rfl (by rw [hml]; rfl) (Steps.refl _) (argsL := [(.long jf_49)]) (rest := []) (lenOf pd_13 rfl) rfl (by show 2 * 0 + _ ≤ _; exact Nat.le_of_eq rfl) (D at_219) (fun _ _ => ⟨rfl, ej49, (by decide : 12 + 0 ≤ _), (by decide : 66603 + 0 ≤ _)⟩)
      dsimp only [Pt.U, Pt.locs, Pt.cells, Pt.slots] at X58 l58 y58 z58 st58 hQ58
      subst l58 y58 z58
      obtain ⟨ve0_58, ve1_58, vp0_58, vp1_58, vz__58, vb__58, vi0_58, vi1_58, vl__58, rfl, N58q, K58, Q58_0, Q58_1, Q58_2, Q58_3, Q58_4, Q58_5, Q58_6, Q58_7, Q58_8, Q58_9, Q58_10, Q58_11, Q58_12, Q58_13, Q58_14, Q58_15, Q58_16, Q58_17, Q58_18, Q58_19, Q58_20, Q58_21, Q58_22, Q58_23⟩ := hQ58
      have O58 := Oj49.keep K58 (allS gn_fa1 (allS gn_aB_2 (allS gn_aA_2 (allS gn_aI_2 (allS gn_aF_2 (allS gn_aO_2 (allS gn_aW_2 (allS gn_hp_2 (allS gn_aE_2 (allS gn_aP_2 all0))))))))))
      have KK58 : Keep h0 T58.heap [] := Kj49.trans K58 (allS (Or.inr gh_fa1) (allS (Or.inr gh_aB_2) (allS (Or.inr gh_aA_2) (allS (Or.inr gh_aI_2) (allS (Or.inr gh_aF_2) (allS (Or.inr gh_aO_2) (allS (Or.inr gh_aW_2) (allS (Or.inr gh_hp_2) (allS (Or.inr gh_aE_2) (allS (Or.inr gh_aP_2) all0))))))))))
      have N58 := Fr.app Nj49 N58q
      have f59 := (J49_0.keep K58)
      have f60 := (J49_1.keep K58)
      obtain ⟨cq61, kq61, q61a, q61b, q61c⟩ := isOf hZ rfl f59
      obtain ⟨_, _, ⟨T61, L61, k61, n61⟩, -, X61, ⟨Lc61, hQ61, l61, y61, z61⟩, st61⟩ := X58.virtualBack hx (y := (⟨cQ, "isEmpty", "()Z"⟩ : MethodName)) (z := (⟨cQ, "isEmpty", "()Z"⟩ : MethodName)) hown (mvT hZ (wd 51 rfl)) (mvT hZ (wd 52 rfl)) (notFace_of_selects (args := #[]) (mvT hZ (wd 54 rfl))) (mvT hZ (wd 54 rfl)) (mvT hZ (wd 53 rfl)) (by decide) (own_backH (W := 0) (rm_kisEmpty l Z a0 hw [] fa1 hp_2 vb__58 vi0_58 vi1_58 vz__58 ve0_58 ve1_58 vp0_58 vp1_58 jm0_20 jm1_20 T58.heap n0 O58 f59 Q58_7 Q58_8 f60 Q58_20 Q58_23) hZH (wd 55 rfl) (wd 2 rfl) (by decide) (by decide)) q61a q61c (g := (mkF m 229 #[.val (.int p0), .val (.int p1), .val (.long p2), .second, .val (.long p3), .second, .val (.ref fa1), .val (.int (1 : Int32)), .val (.int zA), .val (.int zB), .val (.int zC), .val (.long zK), .second, .val (.long zL), .second, .val (.int jm0_20), .val (.int jm1_20), .val (.long jq0_20), .second, .val (.long jq1_20), .second, .val (.long jf_49), .second] [(.ref fa1)])) rfl (by rw [hml]; rfl) (Steps.refl _) (argsL := []) (rest := []) (lenOf pd_6 rfl) rfl (by show 2 * 0 + _ ≤ _; exact Nat.le_of_eq rfl) (D at_229) (fun _ _ => ⟨rfl, rfl, (by decide : 12 + 0 ≤ _), (by decide : 66603 + 0 ≤ _)⟩)
      dsimp only [Pt.U, Pt.locs, Pt.cells, Pt.slots] at X61 l61 y61 z61 st61 hQ61
      subst l61 y61 z61
      obtain ⟨rfl, N61q, e61⟩ := hQ61
      have N61 := Fr.app N58 N61q
      have cs62 : Steps p.tables e below (s₁.setTop (mkF m 0 #[.val (.int p0), .val (.int p1), .val (.long p2), .second, .val (.long p3), .second, .unset, .unset, .unset, .unset, .unset, .unset, .unset, .unset, .unset, .unset, .unset, .unset, .unset, .unset, .unset, .unset, .unset] [])) (T61.setTop (mkF m 242 #[.val (.int p0), .val (.int p1), .val (.long p2), .second, .val (.long p3), .second, .val (.ref fa1), .val (.int (1 : Int32)), .val (.int zA), .val (.int zB), .val (.int zC), .val (.long zK), .second, .val (.long zL), .second, .val (.int jm0_20), .val (.int jm1_20), .val (.long jq0_20), .second, .val (.long jq1_20), .second, .val (.long jf_49), .second] [])) := cj49.trans (by
        refine s_aload Xj49 hx (D at_215) rfl rfl ?_
        refine s_lload Xj49 hx (D at_217) rfl ?_
        refine st58.trans ?_
        refine s_iload X58 hx (D at_222) rfl ?_
        refine s_ifNo X58 hx (D at_224) ((if0 _ _).trans (feq (by decide : ¬ ((1 : Int32) = (0 : Int32)))).1) ?_
        refine s_aload X58 hx (D at_227) rfl rfl ?_
        refine st61.trans ?_
        refine s_ifNo X61 hx (D at_232) ((if0 _ _).trans (teq (own_e1 Jp20_3 : (EM jm0_20 jm1_20) = (0 : Int32))).2) ?_
        refine s_iconst X61 hx (1 : Int32) (D at_235) rfl ?_
        refine s_goto X61 hx 240 (D at_236) (of_decide_eq_true rfl) rfl ?_
        refine s_istore X61 hx (D at_240) (l' := #[.val (.int p0), .val (.int p1), .val (.long p2), .second, .val (.long p3), .second, .val (.ref fa1), .val (.int (1 : Int32)), .val (.int zA), .val (.int zB), .val (.int zC), .val (.long zK), .second, .val (.long zL), .second, .val (.int jm0_20), .val (.int jm1_20), .val (.long jq0_20), .second, .val (.long jq1_20), .second, .val (.long jf_49), .second]) rfl ?_
        exact Steps.refl _)
      have f63 := (J49_2.keep K58 (nn104 Q2_25))
      exact ⟨vb__58, vz__58, ve0_58, ve1_58, vp0_58, vp1_58, vi0_58, vi1_58, jm0_20, jm1_20, vl__58, _, _, T61, _, _, X61, e61, N61, KK58, O58, f59, f60, f63, Q58_0, Q58_1, Q58_2, Q58_3, Q58_4, Q58_5, Q58_6, Q58_7, Q58_8, Q58_9, Q58_10, Q58_11, Q58_12, Q58_13, Q58_14, Q58_15, Q58_16, Q58_17, Q58_18, Q58_19, Q58_20, Q58_21, Q58_22, Q58_23, (Or.inr ⟨_, rfl, rfl⟩), cs62⟩
  obtain ⟨jb_39, jz_39, je0_39, je1_39, jp0_39, jp1_39, ji0_39, ji1_39, jm0_39, jm1_39, jl_39, zs21_39, zs22_39, Tj39, Lj39, hj39, Xj39, ej39, Nj39, Kj39, Oj39, J39_0, J39_1, J39_2, J39_3, J39_4, J39_5, J39_6, J39_7, J39_8, J39_9, J39_10, J39_11, J39_12, J39_13, J39_14, J39_15, J39_16, J39_17, J39_18, J39_19, J39_20, J39_21, J39_22, J39_23, J39_24, J39_25, Jp39_0, Jp39_1, cj39⟩ := jn39
  have cs65 : Steps p.tables e below (s₁.setTop (mkF m 0 #[.val (.int p0), .val (.int p1), .val (.long p2), .second, .val (.long p3), .second, .unset, .unset, .unset, .unset, .unset, .unset, .unset, .unset, .unset, .unset, .unset, .unset, .unset, .unset, .unset, .unset, .unset] [])) (Tj39.setTop (mkF m 245 #[.val (.int p0), .val (.int p1), .val (.long p2), .second, .val (.long p3), .second, .val (.ref fa1), .val (.int (1 : Int32)), .val (.int zA), .val (.int zB), .val (.int zC), .val (.long zK), .second, .val (.long zL), .second, .val (.int jm0_39), .val (.int jm1_39), .val (.long jq0_20), .second, .val (.long jq1_20), .second, zs21_39, zs22_39] [(.int (p0 &&& (4 : Int32)))])) := cj39.trans (by
    refine s_iloadN Xj39 hx (D at_242) rfl ?_
    refine s_iconst Xj39 hx (4 : Int32) (D at_243) rfl ?_
    refine s_iand Xj39 hx (D at_244) rfl ?_
    exact Steps.refl _)
  have jn64 : ∃ (jb_64 : Int32) (jz_64 : Int32) (je0_64 : Int32) (je1_64 : Int32) (jp0_64 : Int32) (jp1_64 : Int32) (ji0_64 : Int32) (ji1_64 : Int32) (jm0_64 : Int32) (jm1_64 : Int32) (jl_64 : Int64) (T : State) (L : List Loc) (h : Heap), Stand p l e room_1 s m #[(.int p0), (.int p1), (.long p2), (.long p3)] below meth c T L 12 66603 ∧ T.heap = h ∧ Fr n0 L ∧ Keep h0 h [] ∧ Old Z n0 h ∧ Exa Z h fa1 cQ ∧ Exa Z h hp_2 cH ∧ LamO h lo_2 cK_2 fa1 ∧ Fld Z h fa1 cQ "keys" "[J" (.ref aK_2) ∧ Fld Z h fa1 cQ "before" "[I" (.ref aB_2) ∧ Fld Z h fa1 cQ "after" "[I" (.ref aA_2) ∧ Fld Z h fa1 cQ "inBucket" "[Z" (.ref aI_2) ∧ Fld Z h fa1 cQ "firsts" "[I" (.ref aF_2) ∧ Fld Z h fa1 cQ "occupied" "[J" (.ref aO_2) ∧ Fld Z h fa1 cQ "occupiedWords" "[J" (.ref aW_2) ∧ Fld Z h fa1 cQ "further" "Lcom/example/leasewise/leasewise/IndexedHeap;" (.ref hp_2) ∧ Fld Z h fa1 cQ "bucketed" "I" (.int jb_64) ∧ Fld Z h fa1 cQ "floor" "J" (.long jl_64) ∧ Arp Z h aK_2 kK_2 .long (2 : Int32) PJ ∧ Arp Z h aB_2 kB_2 .int (2 : Int32) PI ∧ Arp Z h aA_2 kA_2 .int (2 : Int32) PI ∧ Arv Z h aI_2 kI_2 .boolean (2 : Int32) [(.int ji0_64), (.int ji1_64)] (.int (0 : Int32)) ∧ Arp Z h aF_2 kF_2 .int (65536 : Int32) PI ∧ Arp Z h aO_2 kO_2 .long (1024 : Int32) PJ ∧ Arp Z h aW_2 kW_2 .long (16 : Int32) PJ ∧ Fld Z h hp_2 cH "order" "Lcom/example/leasewise/leasewise/IndexedHeap$Order;" (.ref lo_2) ∧ Fld Z h hp_2 cH "entries" "[I" (.ref aE_2) ∧ Fld Z h hp_2 cH "positions" "[I" (.ref aP_2) ∧ Fld Z h hp_2 cH "size" "I" (.int jz_64) ∧ Arv Z h aE_2 kE_2 .int (2 : Int32) [(.int je0_64), (.int je1_64)] (.int (0 : Int32)) ∧ Arv Z h aP_2 kP_2 .int (2 : Int32) [(.int jp0_64), (.int jp1_64)] (.int (-1 : Int32)) ∧ KI jb_64 jz_64 je0_64 je1_64 jp0_64 jp1_64 ji0_64 ji1_64 jm0_64 jm1_64 ∧ Steps p.tables e below (s₁.setTop (mkF m 0 #[.val (.int p0), .val (.int p1), .val (.long p2), .second, .val (.long p3), .second, .unset, .unset, .unset, .unset, .unset, .unset, .unset, .unset, .unset, .unset, .unset, .unset, .unset, .unset, .unset, .unset, .unset] [])) (T.setTop (mkF m 304 #[.val (.int p0), .val (.int p1), .val (.long p2), .second, .val (.long p3), .second, .val (.ref fa1), .val (.int (1 : Int32)), .val (.int zA), .val (.int zB), .val (.int zC), .val (.long zK), .second, .val (.long zL), .second, .val (.int jm0_64), .val (.int jm1_64), .val (.long jq0_20), .second, .val (.long jq1_20), .second, zs21_39, zs22_39] [])) := by
    by_cases hc66 : (p0 &&& (4 : Int32)) = (0 : Int32)
    · have cs67 : Steps p.tables e below (s₁.setTop (mkF m 0 #[.val (.int p0), .val (.int p1), .val (.long p2), .second, .val (.long p3), .second, .unset, .unset, .unset, .unset, .unset, .unset, .unset, .unset, .unset, .unset, .unset, .unset, .unset, .unset, .unset, .unset, .unset] [])) (Tj39.setTop (mkF m 304 #[.val (.int p0), .val (.int p1), .val (.long p2), .second, .val (.long p3), .second, .val (.ref fa1), .val (.int (1 : Int32)), .val (.int zA), .val (.int zB), .val (.int zC), .val (.long zK), .second, .val (.long zL), .second, .val (.int jm0_39), .val (.int jm1_39), .val (.long jq0_20), .second, .val (.long jq1_20), .second, zs21_39, zs22_39] [])) := cs65.trans (by
        refine s_ifYes Xj39 hx 304 (D at_245) ((if0 _ _).trans (teq hc66).1) (of_decide_eq_true rfl) rfl ?_
        exact Steps.refl _)
      exact ⟨jb_39, jz_39, je0_39, je1_39, jp0_39, jp1_39, ji0_39, ji1_39, jm0_39, jm1_39, jl_39, Tj39, _, _, Xj39, ej39, Nj39, Kj39, Oj39, J39_0, J39_1, J39_2, J39_3, J39_4, J39_5, J39_6, J39_7, J39_8, J39_9, J39_10, J39_11, J39_12, J39_13, J39_14, J39_15, J39_16, J39_17, J39_18, J39_19, J39_20, J39_21, J39_22, J39_23, J39_24, J39_25, Jp39_0, cs67⟩
    · obtain ⟨cq68, kq68, q68a, q68b, q68c⟩ := isOf hZ ej39 J39_0
      obtain ⟨_, _, ⟨T68, L68, k68, n68⟩, -, X68, ⟨Lc68, hQ68, l68, y68, z68⟩, st68⟩ := Xj39.virtualBack hx (y := (⟨cQ, "remove", "(I)V"⟩ : MethodName)) (z := (⟨cQ, "remove", "(I)V"⟩ : MethodName)) hown (mvT hZ (wd 122 rfl)) (mvT hZ (wd 74 rfl)) (notFace_of_selects (args := #[]) (mvT hZ (wd 76 rfl))) (mvT hZ (wd 76 rfl)) (mvT hZ (wd 75 rfl)) (by decide) (own_backH (W := 0) (rm_kremove2 l Z a0 hw [] fa1 zC aF_2 aO_2 aW_2 aK_2 aB_2 aA_2 aI_2 hp_2 lo_2 aE_2 aP_2 cK_2 kK_2 kB_2 kA_2 kI_2 kF_2 kO_2 kW_2 kE_2 kP_2 jb_39 ji0_39 ji1_39 jz_39 je0_39 je1_39 jp0_39 jp1_39 jm0_39 jm1_39 jl_39 hj39 n0 Oj39 J39_0 J39_3 J39_4 J39_5 J39_6 J39_7 J39_8 J39_9 J39_10 J39_11 J39_12 J39_16 J39_1 J39_20 J39_21 J39_22 J39_23 J39_24 J39_25 Q2_26 Q2_25 gn_fa1 gn_aB_2 gn_aA_2 gn_aI_2 gn_aF_2 gn_aO_2 gn_aW_2 gn_hp_2 gn_aE_2 gn_aP_2 Jp39_0 ((by rw [hzC]; exact own_and1 _)) J39_13 J39_14 J39_15 J39_17 J39_18 J39_19 J39_2) hZH (wd 77 rfl) (wd 2 rfl) (by decide) (by decide)) q68a q68c (g := (mkF m 252 #[.val (.int p0), .val (.int p1), .val (.long p2), .second, .val (.long p3), .second, .val (.ref fa1), .val (.int (1 : Int32)), .val (.int zA), .val (.int zB), .val (.int zC), .val (.long zK), .second, .val (.long zL), .second, .val (.int jm0_39), .val (.int jm1_39), .val (.long jq0_20), .second, .val (.long jq1_20), .second, zs21_39, zs22_39] [(.int zC), (.ref fa1)])) rfl (by rw [hml]; rfl) (Steps.refl _) (argsL := [(.int zC)]) (rest := []) (lenOf pd_4 rfl) rfl (by show 2 * 0 + _ ≤ _; exact Nat.le_of_eq rfl) (D at_252) (fun _ _ => ⟨rfl, ej39, (by decide : 12 + 0 ≤ _), (by decide : 66603 + 0 ≤ _)⟩)
      dsimp only [Pt.U, Pt.locs, Pt.cells, Pt.slots] at X68 l68 y68 z68 st68 hQ68
      subst l68 y68 z68
      obtain ⟨ve0_68, ve1_68, vp0_68, vp1_68, vz__68, vb__68, vi0_68, vi1_68, rfl, N68q, K68, Q68_0, Q68_1, Q68_2, Q68_3, Q68_4, Q68_5, Q68_6, Q68_7, Q68_8, Q68_9, Q68_10, Q68_11, Q68_12, Q68_13, Q68_14, Q68_15, Q68_16, Q68_17, Q68_18, Q68_19, Q68_20, Q68_21, Q68_22⟩ := hQ68
      have O68 := Oj39.keep K68 (allS gn_fa1 (allS gn_aB_2 (allS gn_aA_2 (allS gn_aI_2 (allS gn_aF_2 (allS gn_aO_2 (allS gn_aW_2 (allS gn_hp_2 (allS gn_aE_2 (allS gn_aP_2 all0))))))))))
      have KK68 : Keep h0 T68.heap [] := Kj39.trans K68 (allS (Or.inr gh_fa1) (allS (Or.inr gh_aB_2) (allS (Or.inr gh_aA_2) (allS (Or.inr gh_aI_2) (allS (Or.inr gh_aF_2) (allS (Or.inr gh_aO_2) (allS (Or.inr gh_aW_2) (allS (Or.inr gh_hp_2) (allS (Or.inr gh_aE_2) (allS (Or.inr gh_aP_2) all0))))))))))
      have N68 := Fr.app Nj39 N68q
      have cs69 : Steps p.tables e below (s₁.setTop (mkF m 0 #[.val (.int p0), .val (.int p1), .val (.long p2), .second, .val (.long p3), .second, .unset, .unset, .unset, .unset, .unset, .unset, .unset, .unset, .unset, .unset, .unset, .unset, .unset, .unset, .unset, .unset, .unset] [])) (T68.setTop (mkF m 257 #[.val (.int p0), .val (.int p1), .val (.long p2), .second, .val (.long p3), .second, .val (.ref fa1), .val (.int (1 : Int32)), .val (.int zA), .val (.int zB), .val (.int zC), .val (.long zK), .second, .val (.long zL), .second, .val (.int jm0_39), .val (.int jm1_39), .val (.long jq0_20), .second, .val (.long jq1_20), .second, zs21_39, zs22_39] [(.int zC)])) := cs65.trans (by
        refine s_ifNo Xj39 hx (D at_245) ((if0 _ _).trans (feq hc66).1) ?_
        refine s_aload Xj39 hx (D at_248) rfl rfl ?_
        refine s_iload Xj39 hx (D at_250) rfl ?_
        refine st68.trans ?_
        refine s_iload X68 hx (D at_255) rfl ?_
        exact Steps.refl _)
      by_cases hc70 : zC = (0 : Int32)
      · have kc71 := own_c0 Q68_22 hc70
        have f72 := (J39_0.keep K68)
        have f73 := (J39_1.keep K68)
        obtain ⟨cq74, kq74, q74a, q74b, q74c⟩ := isOf hZ rfl f72
        obtain ⟨_, _, ⟨T74, L74, k74, n74⟩, -, X74, ⟨Lc74, hQ74, l74, y74, z74⟩, st74⟩ := X68.virtualBack hx (y := (⟨cQ, "isEmpty", "()Z"⟩ : MethodName)) (z := (⟨cQ, "isEmpty", "()Z"⟩ : MethodName)) hown (mvT hZ (wd 51 rfl)) (mvT hZ (wd 52 rfl)) (notFace_of_selects (args := #[]) (mvT hZ (wd 54 rfl))) (mvT hZ (wd 54 rfl)) (mvT hZ (wd 53 rfl)) (by decide) (own_backH (W := 0) (rm_kisEmpty l Z a0 hw [] fa1 hp_2 vb__68 vi0_68 vi1_68 vz__68 ve0_68 ve1_68 vp0_68 vp1_68 (0 : Int32) jm1_39 T68.heap n0 O68 f72 Q68_7 Q68_8 f73 Q68_19 kc71) hZH (wd 55 rfl) (wd 2 rfl) (by decide) (by decide)) q74a q74c (g := (mkF m 276 #[.val (.int p0), .val (.int p1), .val (.long p2), .second, .val (.long p3), .second, .val (.ref fa1), .val (.int (1 : Int32)), .val (.int zA), .val (.int zB), .val (.int zC), .val (.long zK), .second, .val (.long zL), .second, .val (.int (0 : Int32)), .val (.int jm1_39), .val (.long jq0_20), .second, .val (.long jq1_20), .second, zs21_39, zs22_39] [(.ref fa1)])) rfl (by rw [hml]; rfl) (Steps.refl _) (argsL := []) (rest := []) (lenOf pd_6 rfl) rfl (by show 2 * 0 + _ ≤ _; exact Nat.le_of_eq rfl) (D at_276) (fun _ _ => ⟨rfl, rfl, (by decide : 12 + 0 ≤ _), (by decide : 66603 + 0 ≤ _)⟩)
        dsimp only [Pt.U, Pt.locs, Pt.cells, Pt.slots] at X74 l74 y74 z74 st74 hQ74
        subst l74 y74 z74
        obtain ⟨rfl, N74q, e74⟩ := hQ74
        have N74 := Fr.app N68 N74q
        have cs75 : Steps p.tables e below (s₁.setTop (mkF m 0 #[.val (.int p0), .val (.int p1), .val (.long p2), .second, .val (.long p3), .second, .unset, .unset, .unset, .unset, .unset, .unset, .unset, .unset, .unset, .unset, .unset, .unset, .unset, .unset, .unset, .unset, .unset] [])) (T74.setTop (mkF m 286 #[.val (.int p0), .val (.int p1), .val (.long p2), .second, .val (.long p3), .second, .val (.ref fa1), .val (.int (1 : Int32)), .val (.int zA), .val (.int zB), .val (.int zC), .val (.long zK), .second, .val (.long zL), .second, .val (.int (0 : Int32)), .val (.int jm1_39), .val (.long jq0_20), .second, .val (.long jq1_20), .second, zs21_39, zs22_39] [(.int jm1_39), (.int (EM (0 : Int32) jm1_39))])) := cs69.trans (by
          refine s_ifNo X68 hx (D at_257) ((if0 _ _).trans (teq hc70).2) ?_
          refine s_iconst X68 hx (0 : Int32) (D at_260) rfl ?_
          refine s_istore X68 hx (D at_261) (l' := #[.val (.int p0), .val (.int p1), .val (.long p2), .second, .val (.long p3), .second, .val (.ref fa1), .val (.int (1 : Int32)), .val (.int zA), .val (.int zB), .val (.int zC), .val (.long zK), .second, .val (.long zL), .second, .val (.int (0 : Int32)), .val (.int jm1_39), .val (.long jq0_20), .second, .val (.long jq1_20), .second, zs21_39, zs22_39]) rfl ?_
          refine s_goto X68 hx 269 (D at_263) (of_decide_eq_true rfl) rfl ?_
          refine s_iload X68 hx (D at_269) rfl ?_
          refine s_ifNo X68 hx (D at_271) ((if0 _ _).trans (feq (by decide : ¬ ((1 : Int32) = (0 : Int32)))).1) ?_
          refine s_aload X68 hx (D at_274) rfl rfl ?_
          refine st74.trans ?_
          refine s_iload X74 hx (D at_279) rfl ?_
          refine s_ifNo X74 hx (D at_281) ((if0 _ _).trans (teq (by decide : (0 : Int32) = (0 : Int32))).2) ?_
          refine s_iload X74 hx (D at_284) rfl ?_
          exact Steps.refl _)
        by_cases hc76 : jm1_39 = (0 : Int32)
        · have cs77 : Steps p.tables e below (s₁.setTop (mkF m 0 #[.val (.int p0), .val (.int p1), .val (.long p2), .second, .val (.long p3), .second, .unset, .unset, .unset, .unset, .unset, .unset, .unset, .unset, .unset, .unset, .unset, .unset, .unset, .unset, .unset, .unset, .unset] [])) (T74.setTop (mkF m 304 #[.val (.int p0), .val (.int p1), .val (.long p2), .second, .val (.long p3), .second, .val (.ref fa1), .val (.int (1 : Int32)), .val (.int zA), .val (.int zB), .val (.int zC), .val (.long zK), .second, .val (.long zL), .second, .val (.int (0 : Int32)), .val (.int jm1_39), .val (.long jq0_20), .second, .val (.long jq1_20), .second, zs21_39, zs22_39] [])) := cs75.trans (by
            refine s_ifNo X74 hx (D at_286) ((if0 _ _).trans (teq hc76).2) ?_
            refine s_iconst X74 hx (1 : Int32) (D at_289) rfl ?_
            refine s_goto X74 hx 294 (D at_290) (of_decide_eq_true rfl) rfl ?_
            refine s_icmpNo X74 hx (D at_294) (teq (own_em0 rfl hc76 : (EM (0 : Int32) jm1_39) = (1 : Int32))).2 ?_
            refine s_iconst X74 hx (1 : Int32) (D at_297) rfl ?_
            refine s_goto X74 hx 302 (D at_298) (of_decide_eq_true rfl) rfl ?_
            refine s_istore X74 hx (D at_302) (l' := #[.val (.int p0), .val (.int p1), .val (.long p2), .second, .val (.long p3), .second, .val (.ref fa1), .val (.int (1 : Int32)), .val (.int zA), .val (.int zB), .val (.int zC), .val (.long zK), .second, .val (.long zL), .second, .val (.int (0 : Int32)), .val (.int jm1_39), .val (.long jq0_20), .second, .val (.long jq1_20), .second, zs21_39, zs22_39]) rfl ?_
            exact Steps.refl _)
          have f78 := (J39_2.keep K68 (nn104 Q2_25))
          have f79 := (J39_13.keep K68 (nn105 Q2_25))
          exact ⟨vb__68, vz__68, ve0_68, ve1_68, vp0_68, vp1_68, vi0_68, vi1_68, (0 : Int32), jm1_39, jl_39, T74, _, _, X74, e74, N74, KK68, O68, f72, f73, f78, Q68_0, Q68_1, Q68_2, Q68_3, Q68_4, Q68_5, Q68_6, Q68_7, Q68_8, Q68_9, f79, Q68_10, Q68_11, Q68_12, Q68_13, Q68_14, Q68_15, Q68_16, Q68_17, Q68_18, Q68_19, Q68_20, Q68_21, kc71, cs77⟩
        · have cs80 : Steps p.tables e below (s₁.setTop (mkF m 0 #[.val (.int p0), .val (.int p1), .val (.long p2), .second, .val (.long p3), .second, .unset, .unset, .unset, .unset, .unset, .unset, .unset, .unset, .unset, .unset, .unset, .unset, .unset, .unset, .unset, .unset, .unset] [])) (T74.setTop (mkF m 304 #[.val (.int p0), .val (.int p1), .val (.long p2), .second, .val (.long p3), .second, .val (.ref fa1), .val (.int (1 : Int32)), .val (.int zA), .val (.int zB), .val (.int zC), .val (.long zK), .second, .val (.long zL), .second, .val (.int (0 : Int32)), .val (.int jm1_39), .val (.long jq0_20), .second, .val (.long jq1_20), .second, zs21_39, zs22_39] [])) := cs75.trans (by
            refine s_ifYes X74 hx 293 (D at_286) ((if0 _ _).trans (feq hc76).2) (of_decide_eq_true rfl) rfl ?_
            refine s_iconst X74 hx (0 : Int32) (D at_293) rfl ?_
            refine s_icmpNo X74 hx (D at_294) (teq (own_em1 (fun q => hc76 q.2) : (EM (0 : Int32) jm1_39) = (0 : Int32))).2 ?_
            refine s_iconst X74 hx (1 : Int32) (D at_297) rfl ?_
            refine s_goto X74 hx 302 (D at_298) (of_decide_eq_true rfl) rfl ?_
            refine s_istore X74 hx (D at_302) (l' := #[.val (.int p0), .val (.int p1), .val (.long p2), .second, .val (.long p3), .second, .val (.ref fa1), .val (.int (1 : Int32)), .val (.int zA), .val (.int zB), .val (.int zC), .val (.long zK), .second, .val (.long zL), .second, .val (.int (0 : Int32)), .val (.int jm1_39), .val (.long jq0_20), .second, .val (.long jq1_20), .second, zs21_39, zs22_39]) rfl ?_
            exact Steps.refl _)
          have f81 := (J39_2.keep K68 (nn104 Q2_25))
          have f82 := (J39_13.keep K68 (nn105 Q2_25))
          exact ⟨vb__68, vz__68, ve0_68, ve1_68, vp0_68, vp1_68, vi0_68, vi1_68, (0 : Int32), jm1_39, jl_39, T74, _, _, X74, e74, N74, KK68, O68, f72, f73, f81, Q68_0, Q68_1, Q68_2, Q68_3, Q68_4, Q68_5, Q68_6, Q68_7, Q68_8, Q68_9, f82, Q68_10, Q68_11, Q68_12, Q68_13, Q68_14, Q68_15, Q68_16, Q68_17, Q68_18, Q68_19, Q68_20, Q68_21, kc71, cs80⟩
      · have kc83 := own_c1 (by rw [hzC]; exact own_and1 _) Q68_22 hc70
        have f84 := (J39_0.keep K68)
        have f85 := (J39_1.keep K68)
        obtain ⟨cq86, kq86, q86a, q86b, q86c⟩ := isOf hZ rfl f84
        obtain ⟨_, _, ⟨T86, L86, k86, n86⟩, -, X86, ⟨Lc86, hQ86, l86, y86, z86⟩, st86⟩ := X68.virtualBack hx (y := (⟨cQ, "isEmpty", "()Z"⟩ : MethodName)) (z := (⟨cQ, "isEmpty", "()Z"⟩ : MethodName)) hown (mvT hZ (wd 51 rfl)) (mvT hZ (wd 52 rfl)) (notFace_of_selects (args := #[]) (mvT hZ (wd 54 rfl))) (mvT hZ (wd 54 rfl)) (mvT hZ (wd 53 rfl)) (by decide) (own_backH (W := 0) (rm_kisEmpty l Z a0 hw [] fa1 hp_2 vb__68 vi0_68 vi1_68 vz__68 ve0_68 ve1_68 vp0_68 vp1_68 jm0_39 (0 : Int32) T68.heap n0 O68 f84 Q68_7 Q68_8 f85 Q68_19 kc83) hZH (wd 55 rfl) (wd 2 rfl) (by decide) (by decide)) q86a q86c (g := (mkF m 276 #[.val (.int p0), .val (.int p1), .val (.long p2), .second, .val (.long p3), .second, .val (.ref fa1), .val (.int (1 : Int32)), .val (.int zA), .val (.int zB), .val (.int zC), .val (.long zK), .second, .val (.long zL), .second, .val (.int jm0_39), .val (.int (0 : Int32)), .val (.long jq0_20), .second, .val (.long jq1_20), .second, zs21_39, zs22_39] [(.ref fa1)])) rfl (by rw [hml]; rfl) (Steps.refl _) (argsL := []) (rest := []) (lenOf pd_6 rfl) rfl (by show 2 * 0 + _ ≤ _; exact Nat.le_of_eq rfl) (D at_276) (fun _ _ => ⟨rfl, rfl, (by decide : 12 + 0 ≤ _), (by decide : 66603 + 0 ≤ _)⟩)
        dsimp only [Pt.U, Pt.locs, Pt.cells, Pt.slots] at X86 l86 y86 z86 st86 hQ86
        subst l86 y86 z86
        obtain ⟨rfl, N86q, e86⟩ := hQ86
        have N86 := Fr.app N68 N86q
        have cs87 : Steps p.tables e below (s₁.setTop (mkF m 0 #[.val (.int p0), .val (.int p1), .val (.long p2), .second, .val (.long p3), .second, .unset, .unset, .unset, .unset, .unset, .unset, .unset, .unset, .unset, .unset, .unset, .unset, .unset, .unset, .unset, .unset, .unset] [])) (T86.setTop (mkF m 281 #[.val (.int p0), .val (.int p1), .val (.long p2), .second, .val (.long p3), .second, .val (.ref fa1), .val (.int (1 : Int32)), .val (.int zA), .val (.int zB), .val (.int zC), .val (.long zK), .second, .val (.long zL), .second, .val (.int jm0_39), .val (.int (0 : Int32)), .val (.long jq0_20), .second, .val (.long jq1_20), .second, zs21_39, zs22_39] [(.int jm0_39), (.int (EM jm0_39 (0 : Int32)))])) := cs69.trans (by
          refine s_ifYes X68 hx 266 (D at_257) ((if0 _ _).trans (feq hc70).2) (of_decide_eq_true rfl) rfl ?_
          refine s_iconst X68 hx (0 : Int32) (D at_266) rfl ?_
          refine s_istore X68 hx (D at_267) (l' := #[.val (.int p0), .val (.int p1), .val (.long p2), .second, .val (.long p3), .second, .val (.ref fa1), .val (.int (1 : Int32)), .val (.int zA), .val (.int zB), .val (.int zC), .val (.long zK), .second, .val (.long zL), .second, .val (.int jm0_39), .val (.int (0 : Int32)), .val (.long jq0_20), .second, .val (.long jq1_20), .second, zs21_39, zs22_39]) rfl ?_
          refine s_iload X68 hx (D at_269) rfl ?_
          refine s_ifNo X68 hx (D at_271) ((if0 _ _).trans (feq (by decide : ¬ ((1 : Int32) = (0 : Int32)))).1) ?_
          refine s_aload X68 hx (D at_274) rfl rfl ?_
          refine st86.trans ?_
          refine s_iload X86 hx (D at_279) rfl ?_
          exact Steps.refl _)
        by_cases hc88 : jm0_39 = (0 : Int32)
        · have cs89 : Steps p.tables e below (s₁.setTop (mkF m 0 #[.val (.int p0), .val (.int p1), .val (.long p2), .second, .val (.long p3), .second, .unset, .unset, .unset, .unset, .unset, .unset, .unset, .unset, .unset, .unset, .unset, .unset, .unset, .unset, .unset, .unset, .unset] [])) (T86.setTop (mkF m 304 #[.val (.int p0), .val (.int p1), .val (.long p2), .second, .val (.long p3), .second, .val (.ref fa1), .val (.int (1 : Int32)), .val (.int zA), .val (.int zB), .val (.int zC), .val (.long zK), .second, .val (.long zL), .second, .val (.int jm0_39), .val (.int (0 : Int32)), .val (.long jq0_20), .second, .val (.long jq1_20), .second, zs21_39, zs22_39] [])) := cs87.trans (by
            refine s_ifNo X86 hx (D at_281) ((if0 _ _).trans (teq hc88).2) ?_
            refine s_iload X86 hx (D at_284) rfl ?_
            refine s_ifNo X86 hx (D at_286) ((if0 _ _).trans (teq (by decide : (0 : Int32) = (0 : Int32))).2) ?_
            refine s_iconst X86 hx (1 : Int32) (D at_289) rfl ?_
            refine s_goto X86 hx 294 (D at_290) (of_decide_eq_true rfl) rfl ?_
            refine s_icmpNo X86 hx (D at_294) (teq (own_em0 hc88 rfl : (EM jm0_39 (0 : Int32)) = (1 : Int32))).2 ?_
            refine s_iconst X86 hx (1 : Int32) (D at_297) rfl ?_
            refine s_goto X86 hx 302 (D at_298) (of_decide_eq_true rfl) rfl ?_
            refine s_istore X86 hx (D at_302) (l' := #[.val (.int p0), .val (.int p1), .val (.long p2), .second, .val (.long p3), .second, .val (.ref fa1), .val (.int (1 : Int32)), .val (.int zA), .val (.int zB), .val (.int zC), .val (.long zK), .second, .val (.long zL), .second, .val (.int jm0_39), .val (.int (0 : Int32)), .val (.long jq0_20), .second, .val (.long jq1_20), .second, zs21_39, zs22_39]) rfl ?_
            exact Steps.refl _)
          have f90 := (J39_2.keep K68 (nn104 Q2_25))
          have f91 := (J39_13.keep K68 (nn105 Q2_25))
          exact ⟨vb__68, vz__68, ve0_68, ve1_68, vp0_68, vp1_68, vi0_68, vi1_68, jm0_39, (0 : Int32), jl_39, T86, _, _, X86, e86, N86, KK68, O68, f84, f85, f90, Q68_0, Q68_1, Q68_2, Q68_3, Q68_4, Q68_5, Q68_6, Q68_7, Q68_8, Q68_9, f91, Q68_10, Q68_11, Q68_12, Q68_13, Q68_14, Q68_15, Q68_16, Q68_17, Q68_18, Q68_19, Q68_20, Q68_21, kc83, cs89⟩
        · have cs92 : Steps p.tables e below (s₁.setTop (mkF m 0 #[.val (.int p0), .val (.int p1), .val (.long p2), .second, .val (.long p3), .second, .unset, .unset, .unset, .unset, .unset, .unset, .unset, .unset, .unset, .unset, .unset, .unset, .unset, .unset, .unset, .unset, .unset] [])) (T86.setTop (mkF m 304 #[.val (.int p0), .val (.int p1), .val (.long p2), .second, .val (.long p3), .second, .val (.ref fa1), .val (.int (1 : Int32)), .val (.int zA), .val (.int zB), .val (.int zC), .val (.long zK), .second, .val (.long zL), .second, .val (.int jm0_39), .val (.int (0 : Int32)), .val (.long jq0_20), .second, .val (.long jq1_20), .second, zs21_39, zs22_39] [])) := cs87.trans (by
            refine s_ifYes X86 hx 293 (D at_281) ((if0 _ _).trans (feq hc88).2) (of_decide_eq_true rfl) rfl ?_
            refine s_iconst X86 hx (0 : Int32) (D at_293) rfl ?_
            refine s_icmpNo X86 hx (D at_294) (teq (own_em1 (fun q => hc88 q.1) : (EM jm0_39 (0 : Int32)) = (0 : Int32))).2 ?_
            refine s_iconst X86 hx (1 : Int32) (D at_297) rfl ?_
            refine s_goto X86 hx 302 (D at_298) (of_decide_eq_true rfl) rfl ?_
            refine s_istore X86 hx (D at_302) (l' := #[.val (.int p0), .val (.int p1), .val (.long p2), .second, .val (.long p3), .second, .val (.ref fa1), .val (.int (1 : Int32)), .val (.int zA), .val (.int zB), .val (.int zC), .val (.long zK), .second, .val (.long zL), .second, .val (.int jm0_39), .val (.int (0 : Int32)), .val (.long jq0_20), .second, .val (.long jq1_20), .second, zs21_39, zs22_39]) rfl ?_
            exact Steps.refl _)
          have f93 := (J39_2.keep K68 (nn104 Q2_25))
          have f94 := (J39_13.keep K68 (nn105 Q2_25))
          exact ⟨vb__68, vz__68, ve0_68, ve1_68, vp0_68, vp1_68, vi0_68, vi1_68, jm0_39, (0 : Int32), jl_39, T86, _, _, X86, e86, N86, KK68, O68, f84, f85, f93, Q68_0, Q68_1, Q68_2, Q68_3, Q68_4, Q68_5, Q68_6, Q68_7, Q68_8, Q68_9, f94, Q68_10, Q68_11, Q68_12, Q68_13, Q68_14, Q68_15, Q68_16, Q68_17, Q68_18, Q68_19, Q68_20, Q68_21, kc83, cs92⟩
  obtain ⟨jb_64, jz_64, je0_64, je1_64, jp0_64, jp1_64, ji0_64, ji1_64, jm0_64, jm1_64, jl_64, Tj64, Lj64, hj64, Xj64, ej64, Nj64, Kj64, Oj64, J64_0, J64_1, J64_2, J64_3, J64_4, J64_5, J64_6, J64_7, J64_8, J64_9, J64_10, J64_11, J64_12, J64_13, J64_14, J64_15, J64_16, J64_17, J64_18, J64_19, J64_20, J64_21, J64_22, J64_23, J64_24, J64_25, Jp64_0, cj64⟩ := jn64
  have cs95 : Steps p.tables e below (s₁.setTop (mkF m 0 #[.val (.int p0), .val (.int p1), .val (.long p2), .second, .val (.long p3), .second, .unset, .unset, .unset, .unset, .unset, .unset, .unset, .unset, .unset, .unset, .unset, .unset, .unset, .unset, .unset, .unset, .unset] [])) (Tj64.setTop (mkF m 308 #[.val (.int p0), .val (.int p1), .val (.long p2), .second, .val (.long p3), .second, .val (.ref fa1), .val (.int (1 : Int32)), .val (.int zA), .val (.int zB), .val (.int zC), .val (.long zK), .second, .val (.long zL), .second, .val (.int jm0_64), .val (.int jm1_64), .val (.long jq0_20), .second, .val (.long jq1_20), .second, zs21_39, zs22_39] [(.int (p0 &&& (8 : Int32)))])) := cj64.trans (by
    refine s_iloadN Xj64 hx (D at_304) rfl ?_
    refine s_bipush Xj64 hx (8 : Int32) (D at_305) rfl ?_
    refine s_iand Xj64 hx (D at_307) rfl ?_
    exact Steps.refl _)
  by_cases hc96 : (p0 &&& (8 : Int32)) = (0 : Int32)
  · obtain ⟨fs, hr, hrun, hended, hW, hsame⟩ := Xj64.leave (v := some (.int (1 : Int32))) (fun h => by rw [Bd.returns] at h; cases h)
    refine ⟨_, _, pre0 _ ?_, hrun, hended, _, _, rfl, ?_, ⟨_, rfl⟩, hW, hsame.mono (by decide) (by decide)⟩
    · refine cs95.trans ?_
      refine s_ifYes Xj64 hx 373 (D at_308) ((if0 _ _).trans (teq hc96).1) (of_decide_eq_true rfl) rfl ?_
      refine s_iload Xj64 hx (D at_373) rfl ?_
      exact retN Xj64 hx (t := .boolean) Bd.returns (by simp) (D at_375) hr
    · show Q_rm0 Z p0 p1 p2 p3 h0 n0 _ Tj64.heap _
      rw [ej64]
      exact ⟨rfl, Nj64, Kj64⟩
  · obtain ⟨zD, hzD⟩ : ∃ z, z = ((1 : Int32) - zC) := ⟨_, rfl⟩
    obtain ⟨cq97, kq97, q97a, q97b, q97c⟩ := isOf hZ ej64 J64_0
    obtain ⟨_, _, ⟨T97, L97, k97, n97⟩, -, X97, ⟨Lc97, hQ97, l97, y97, z97⟩, st97⟩ := Xj64.virtualBack hx (y := (⟨cQ, "remove", "(I)V"⟩ : MethodName)) (z := (⟨cQ, "remove", "(I)V"⟩ : MethodName)) hown (mvT hZ (wd 122 rfl)) (mvT hZ (wd 74 rfl)) (notFace_of_selects (args := #[]) (mvT hZ (wd 76 rfl))) (mvT hZ (wd 76 rfl)) (mvT hZ (wd 75 rfl)) (by decide) (own_backH (W := 0) (rm_kremove2 l Z a0 hw [] fa1 zD aF_2 aO_2 aW_2 aK_2 aB_2 aA_2 aI_2 hp_2 lo_2 aE_2 aP_2 cK_2 kK_2 kB_2 kA_2 kI_2 kF_2 kO_2 kW_2 kE_2 kP_2 jb_64 ji0_64 ji1_64 jz_64 je0_64 je1_64 jp0_64 jp1_64 jm0_64 jm1_64 jl_64 hj64 n0 Oj64 J64_0 J64_3 J64_4 J64_5 J64_6 J64_7 J64_8 J64_9 J64_10 J64_11 J64_12 J64_16 J64_1 J64_20 J64_21 J64_22 J64_23 J64_24 J64_25 Q2_26 Q2_25 gn_fa1 gn_aB_2 gn_aA_2 gn_aI_2 gn_aF_2 gn_aO_2 gn_aW_2 gn_hp_2 gn_aE_2 gn_aP_2 Jp64_0 ((by rw [hzD, hzC]; exact own_sub1 (own_and1 _))) J64_13 J64_14 J64_15 J64_17 J64_18 J64_19 J64_2) hZH (wd 77 rfl) (wd 2 rfl) (by decide) (by decide)) q97a q97c (g := (mkF m 321 #[.val (.int p0), .val (.int p1), .val (.long p2), .second, .val (.long p3), .second, .val (.ref fa1), .val (.int (1 : Int32)), .val (.int zA), .val (.int zB), .val (.int zC), .val (.long zK), .second, .val (.long zL), .second, .val (.int jm0_64), .val (.int jm1_64), .val (.long jq0_20), .second, .val (.long jq1_20), .second, .val (.int zD), .unset] [(.int zD), (.ref fa1)])) rfl (by rw [hml]; rfl) (Steps.refl _) (argsL := [(.int zD)]) (rest := []) (lenOf pd_4 rfl) rfl (by show 2 * 0 + _ ≤ _; exact Nat.le_of_eq rfl) (D at_321) (fun _ _ => ⟨rfl, ej64, (by decide : 12 + 0 ≤ _), (by decide : 66603 + 0 ≤ _)⟩)
    dsimp only [Pt.U, Pt.locs, Pt.cells, Pt.slots] at X97 l97 y97 z97 st97 hQ97
    subst l97 y97 z97
    obtain ⟨ve0_97, ve1_97, vp0_97, vp1_97, vz__97, vb__97, vi0_97, vi1_97, rfl, N97q, K97, Q97_0, Q97_1, Q97_2, Q97_3, Q97_4, Q97_5, Q97_6, Q97_7, Q97_8, Q97_9, Q97_10, Q97_11, Q97_12, Q97_13, Q97_14, Q97_15, Q97_16, Q97_17, Q97_18, Q97_19, Q97_20, Q97_21, Q97_22⟩ := hQ97
    have O97 := Oj64.keep K97 (allS gn_fa1 (allS gn_aB_2 (allS gn_aA_2 (allS gn_aI_2 (allS gn_aF_2 (allS gn_aO_2 (allS gn_aW_2 (allS gn_hp_2 (allS gn_aE_2 (allS gn_aP_2 all0))))))))))
    have KK97 : Keep h0 T97.heap [] := Kj64.trans K97 (allS (Or.inr gh_fa1) (allS (Or.inr gh_aB_2) (allS (Or.inr gh_aA_2) (allS (Or.inr gh_aI_2) (allS (Or.inr gh_aF_2) (allS (Or.inr gh_aO_2) (allS (Or.inr gh_aW_2) (allS (Or.inr gh_hp_2) (allS (Or.inr gh_aE_2) (allS (Or.inr gh_aP_2) all0))))))))))
    have N97 := Fr.app Nj64 N97q
    have cs98 : Steps p.tables e below (s₁.setTop (mkF m 0 #[.val (.int p0), .val (.int p1), .val (.long p2), .second, .val (.long p3), .second, .unset, .unset, .unset, .unset, .unset, .unset, .unset, .unset, .unset, .unset, .unset, .unset, .unset, .unset, .unset, .unset, .unset] [])) (T97.setTop (mkF m 326 #[.val (.int p0), .val (.int p1), .val (.long p2), .second, .val (.long p3), .second, .val (.ref fa1), .val (.int (1 : Int32)), .val (.int zA), .val (.int zB), .val (.int zC), .val (.long zK), .second, .val (.long zL), .second, .val (.int jm0_64), .val (.int jm1_64), .val (.long jq0_20), .second, .val (.long jq1_20), .second, .val (.int zD), .unset] [(.int zD)])) := cs95.trans (by
      refine s_ifNo Xj64 hx (D at_308) ((if0 _ _).trans (feq hc96).1) ?_
      refine s_iconst Xj64 hx (1 : Int32) (D at_311) rfl ?_
      refine s_iload Xj64 hx (D at_312) rfl ?_
      refine s_isub Xj64 hx (D at_314) (r := zD) hzD.symm ?_
      refine s_istore Xj64 hx (D at_315) (l' := #[.val (.int p0), .val (.int p1), .val (.long p2), .second, .val (.long p3), .second, .val (.ref fa1), .val (.int (1 : Int32)), .val (.int zA), .val (.int zB), .val (.int zC), .val (.long zK), .second, .val (.long zL), .second, .val (.int jm0_64), .val (.int jm1_64), .val (.long jq0_20), .second, .val (.long jq1_20), .second, .val (.int zD), .unset]) (by rcases Jp39_1 with ⟨h, h'⟩ | ⟨a, h, h'⟩ <;> subst h h' <;> rfl) ?_
      refine s_aload Xj64 hx (D at_317) rfl rfl ?_
      refine s_iload Xj64 hx (D at_319) rfl ?_
      refine st97.trans ?_
      refine s_iload X97 hx (D at_324) rfl ?_
      exact Steps.refl _)
    by_cases hc99 : zD = (0 : Int32)
    · have kc100 := own_c0 Q97_22 hc99
      have f101 := (J64_0.keep K97)
      have f102 := (J64_1.keep K97)
      obtain ⟨cq103, kq103, q103a, q103b, q103c⟩ := isOf hZ rfl f101
      obtain ⟨_, _, ⟨T103, L103, k103, n103⟩, -, X103, ⟨Lc103, hQ103, l103, y103, z103⟩, st103⟩ := X97.virtualBack hx (y := (⟨cQ, "isEmpty", "()Z"⟩ : MethodName)) (z := (⟨cQ, "isEmpty", "()Z"⟩ : MethodName)) hown (mvT hZ (wd 51 rfl)) (mvT hZ (wd 52 rfl)) (notFace_of_selects (args := #[]) (mvT hZ (wd 54 rfl))) (mvT hZ (wd 54 rfl)) (mvT hZ (wd 53 rfl)) (by decide) (own_backH (W := 0) (rm_kisEmpty l Z a0 hw [] fa1 hp_2 vb__97 vi0_97 vi1_97 vz__97 ve0_97 ve1_97 vp0_97 vp1_97 (0 : Int32) jm1_64 T97.heap n0 O97 f101 Q97_7 Q97_8 f102 Q97_19 kc100) hZH (wd 55 rfl) (wd 2 rfl) (by decide) (by decide)) q103a q103c (g := (mkF m 345 #[.val (.int p0), .val (.int p1), .val (.long p2), .second, .val (.long p3), .second, .val (.ref fa1), .val (.int (1 : Int32)), .val (.int zA), .val (.int zB), .val (.int zC), .val (.long zK), .second, .val (.long zL), .second, .val (.int (0 : Int32)), .val (.int jm1_64), .val (.long jq0_20), .second, .val (.long jq1_20), .second, .val (.int zD), .unset] [(.ref fa1)])) rfl (by rw [hml]; rfl) (Steps.refl _) (argsL := []) (rest := []) (lenOf pd_6 rfl) rfl (by show 2 * 0 + _ ≤ _; exact Nat.le_of_eq rfl) (D at_345) (fun _ _ => ⟨rfl, rfl, (by decide : 12 + 0 ≤ _), (by decide : 66603 + 0 ≤ _)⟩)
      dsimp only [Pt.U, Pt.locs, Pt.cells, Pt.slots] at X103 l103 y103 z103 st103 hQ103
      subst l103 y103 z103
      obtain ⟨rfl, N103q, e103⟩ := hQ103
      have N103 := Fr.app N97 N103q
      have cs104 : Steps p.tables e below (s₁.setTop (mkF m 0 #[.val (.int p0), .val (.int p1), .val (.long p2), .second, .val (.long p3), .second, .unset, .unset, .unset, .unset, .unset, .unset, .unset, .unset, .unset, .unset, .unset, .unset, .unset, .unset, .unset, .unset, .unset] [])) (T103.setTop (mkF m 355 #[.val (.int p0), .val (.int p1), .val (.long p2), .second, .val (.long p3), .second, .val (.ref fa1), .val (.int (1 : Int32)), .val (.int zA), .val (.int zB), .val (.int zC), .val (.long zK), .second, .val (.long zL), .second, .val (.int (0 : Int32)), .val (.int jm1_64), .val (.long jq0_20), .second, .val (.long jq1_20), .second, .val (.int zD), .unset] [(.int jm1_64), (.int (EM (0 : Int32) jm1_64))])) := cs98.trans (by
        refine s_ifNo X97 hx (D at_326) ((if0 _ _).trans (teq hc99).2) ?_
        refine s_iconst X97 hx (0 : Int32) (D at_329) rfl ?_
        refine s_istore X97 hx (D at_330) (l' := #[.val (.int p0), .val (.int p1), .val (.long p2), .second, .val (.long p3), .second, .val (.ref fa1), .val (.int (1 : Int32)), .val (.int zA), .val (.int zB), .val (.int zC), .val (.long zK), .second, .val (.long zL), .second, .val (.int (0 : Int32)), .val (.int jm1_64), .val (.long jq0_20), .second, .val (.long jq1_20), .second, .val (.int zD), .unset]) rfl ?_
        refine s_goto X97 hx 338 (D at_332) (of_decide_eq_true rfl) rfl ?_
        refine s_iload X97 hx (D at_338) rfl ?_
        refine s_ifNo X97 hx (D at_340) ((if0 _ _).trans (feq (by decide : ¬ ((1 : Int32) = (0 : Int32)))).1) ?_
        refine s_aload X97 hx (D at_343) rfl rfl ?_
        refine st103.trans ?_
        refine s_iload X103 hx (D at_348) rfl ?_
        refine s_ifNo X103 hx (D at_350) ((if0 _ _).trans (teq (by decide : (0 : Int32) = (0 : Int32))).2) ?_
        refine s_iload X103 hx (D at_353) rfl ?_
        exact Steps.refl _)
      by_cases hc105 : jm1_64 = (0 : Int32)
      · obtain ⟨fs, hr, hrun, hended, hW, hsame⟩ := X103.leave (v := some (.int (1 : Int32))) (fun h => by rw [Bd.returns] at h; cases h)
        refine ⟨_, _, pre0 _ ?_, hrun, hended, _, _, rfl, ?_, ⟨_, rfl⟩, hW, hsame.mono (by decide) (by decide)⟩
        · refine cs104.trans ?_
          refine s_ifNo X103 hx (D at_355) ((if0 _ _).trans (teq hc105).2) ?_
          refine s_iconst X103 hx (1 : Int32) (D at_358) rfl ?_
          refine s_goto X103 hx 363 (D at_359) (of_decide_eq_true rfl) rfl ?_
          refine s_icmpNo X103 hx (D at_363) (teq (own_em0 rfl hc105 : (EM (0 : Int32) jm1_64) = (1 : Int32))).2 ?_
          refine s_iconst X103 hx (1 : Int32) (D at_366) rfl ?_
          refine s_goto X103 hx 371 (D at_367) (of_decide_eq_true rfl) rfl ?_
          refine s_istore X103 hx (D at_371) (l' := #[.val (.int p0), .val (.int p1), .val (.long p2), .second, .val (.long p3), .second, .val (.ref fa1), .val (.int (1 : Int32)), .val (.int zA), .val (.int zB), .val (.int zC), .val (.long zK), .second, .val (.long zL), .second, .val (.int (0 : Int32)), .val (.int jm1_64), .val (.long jq0_20), .second, .val (.long jq1_20), .second, .val (.int zD), .unset]) rfl ?_
          refine s_iload X103 hx (D at_373) rfl ?_
          exact retN X103 hx (t := .boolean) Bd.returns (by simp) (D at_375) hr
        · show Q_rm0 Z p0 p1 p2 p3 h0 n0 _ T103.heap _
          rw [e103]
          exact ⟨rfl, N103, KK97⟩
      · obtain ⟨fs, hr, hrun, hended, hW, hsame⟩ := X103.leave (v := some (.int (1 : Int32))) (fun h => by rw [Bd.returns] at h; cases h)
        refine ⟨_, _, pre0 _ ?_, hrun, hended, _, _, rfl, ?_, ⟨_, rfl⟩, hW, hsame.mono (by decide) (by decide)⟩
        · refine cs104.trans ?_
          refine s_ifYes X103 hx 362 (D at_355) ((if0 _ _).trans (feq hc105).2) (of_decide_eq_true rfl) rfl ?_
          refine s_iconst X103 hx (0 : Int32) (D at_362) rfl ?_
          refine s_icmpNo X103 hx (D at_363) (teq (own_em1 (fun q => hc105 q.2) : (EM (0 : Int32) jm1_64) = (0 : Int32))).2 ?_
          refine s_iconst X103 hx (1 : Int32) (D at_366) rfl ?_
          refine s_goto X103 hx 371 (D at_367) (of_decide_eq_true rfl) rfl ?_
          refine s_istore X103 hx (D at_371) (l' := #[.val (.int p0), .val (.int p1), .val (.long p2), .second, .val (.long p3), .second, .val (.ref fa1), .val (.int (1 : Int32)), .val (.int zA), .val (.int zB), .val (.int zC), .val (.long zK), .second, .val (.long zL), .second, .val (.int (0 : Int32)), .val (.int jm1_64), .val (.long jq0_20), .second, .val (.long jq1_20), .second, .val (.int zD), .unset]) rfl ?_
          refine s_iload X103 hx (D at_373) rfl ?_
          exact retN X103 hx (t := .boolean) Bd.returns (by simp) (D at_375) hr
        · show Q_rm0 Z p0 p1 p2 p3 h0 n0 _ T103.heap _
          rw [e103]
          exact ⟨rfl, N103, KK97⟩
    · have kc106 := own_c1 (by rw [hzD, hzC]; exact own_sub1 (own_and1 _)) Q97_22 hc99
      have f107 := (J64_0.keep K97)
      have f108 := (J64_1.keep K97)
      obtain ⟨cq109, kq109, q109a, q109b, q109c⟩ := isOf hZ rfl f107
      obtain ⟨_, _, ⟨T109, L109, k109, n109⟩, -, X109, ⟨Lc109, hQ109, l109, y109, z109⟩, st109⟩ := X97.virtualBack hx (y := (⟨cQ, "isEmpty", "()Z"⟩ : MethodName)) (z := (⟨cQ, "isEmpty", "()Z"⟩ : MethodName)) hown (mvT hZ (wd 51 rfl)) (mvT hZ (wd 52 rfl)) (notFace_of_selects (args := #[]) (mvT hZ (wd 54 rfl))) (mvT hZ (wd 54 rfl)) (mvT hZ (wd 53 rfl)) (by decide) (own_backH (W := 0) (rm_kisEmpty l Z a0 hw [] fa1 hp_2 vb__97 vi0_97 vi1_97 vz__97 ve0_97 ve1_97 vp0_97 vp1_97 jm0_64 (0 : Int32) T97.heap n0 O97 f107 Q97_7 Q97_8 f108 Q97_19 kc106) hZH (wd 55 rfl) (wd 2 rfl) (by decide) (by decide)) q109a q109c (g := (mkF m 345 #[.val (.int p0), .val (.int p1), .val (.long p2), .second, .val (.long p3), .second, .val (.ref fa1), .val (.int (1 : Int32)), .val (.int zA), .val (.int zB), .val (.int zC), .val (.long zK), .second, .val (.long zL), .second, .val (.int jm0_64), .val (.int (0 : Int32)), .val (.long jq0_20), .second, .val (.long jq1_20), .second, .val (.int zD), .unset] [(.ref fa1)])) rfl (by rw [hml]; rfl) (Steps.refl _) (argsL := []) (rest := []) (lenOf pd_6 rfl) rfl (by show 2 * 0 + _ ≤ _; exact Nat.le_of_eq rfl) (D at_345) (fun _ _ => ⟨rfl, rfl, (by decide : 12 + 0 ≤ _), (by decide : 66603 + 0 ≤ _)⟩)
      dsimp only [Pt.U, Pt.locs, Pt.cells, Pt.slots] at X109 l109 y109 z109 st109 hQ109
      subst l109 y109 z109
      obtain ⟨rfl, N109q, e109⟩ := hQ109
      have N109 := Fr.app N97 N109q
      have cs110 : Steps p.tables e below (s₁.setTop (mkF m 0 #[.val (.int p0), .val (.int p1), .val (.long p2), .second, .val (.long p3), .second, .unset, .unset, .unset, .unset, .unset, .unset, .unset, .unset, .unset, .unset, .unset, .unset, .unset, .unset, .unset, .unset, .unset] [])) (T109.setTop (mkF m 350 #[.val (.int p0), .val (.int p1), .val (.long p2), .second, .val (.long p3), .second, .val (.ref fa1), .val (.int (1 : Int32)), .val (.int zA), .val (.int zB), .val (.int zC), .val (.long zK), .second, .val (.long zL), .second, .val (.int jm0_64), .val (.int (0 : Int32)), .val (.long jq0_20), .second, .val (.long jq1_20), .second, .val (.int zD), .unset] [(.int jm0_64), (.int (EM jm0_64 (0 : Int32)))])) := cs98.trans (by
        refine s_ifYes X97 hx 335 (D at_326) ((if0 _ _).trans (feq hc99).2) (of_decide_eq_true rfl) rfl ?_
        refine s_iconst X97 hx (0 : Int32) (D at_335) rfl ?_
        refine s_istore X97 hx (D at_336) (l' := #[.val (.int p0), .val (.int p1), .val (.long p2), .second, .val (.long p3), .second, .val (.ref fa1), .val (.int (1 : Int32)), .val (.int zA), .val (.int zB), .val (.int zC), .val (.long zK), .second, .val (.long zL), .second, .val (.int jm0_64), .val (.int (0 : Int32)), .val (.long jq0_20), .second, .val (.long jq1_20), .second, .val (.int zD), .unset]) rfl ?_
        refine s_iload X97 hx (D at_338) rfl ?_
        refine s_ifNo X97 hx (D at_340) ((if0 _ _).trans (feq (by decide : ¬ ((1 : Int32) = (0 : Int32)))).1) ?_
        refine s_aload X97 hx (D at_343) rfl rfl ?_
        refine st109.trans ?_
        refine s_iload X109 hx (D at_348) rfl ?_
        exact Steps.refl _)
      by_cases hc111 : jm0_64 = (0 : Int32)
      · obtain ⟨fs, hr, hrun, hended, hW, hsame⟩ := X109.leave (v := some (.int (1 : Int32))) (fun h => by rw [Bd.returns] at h; cases h)
        refine ⟨_, _, pre0 _ ?_, hrun, hended, _, _, rfl, ?_, ⟨_, rfl⟩, hW, hsame.mono (by decide) (by decide)⟩
        · refine cs110.trans ?_
          refine s_ifNo X109 hx (D at_350) ((if0 _ _).trans (teq hc111).2) ?_
          refine s_iload X109 hx (D at_353) rfl ?_
          refine s_ifNo X109 hx (D at_355) ((if0 _ _).trans (teq (by decide : (0 : Int32) = (0 : Int32))).2) ?_
          refine s_iconst X109 hx (1 : Int32) (D at_358) rfl ?_
          refine s_goto X109 hx 363 (D at_359) (of_decide_eq_true rfl) rfl ?_
          refine s_icmpNo X109 hx (D at_363) (teq (own_em0 hc111 rfl : (EM jm0_64 (0 : Int32)) = (1 : Int32))).2 ?_
          refine s_iconst X109 hx (1 : Int32) (D at_366) rfl ?_
          refine s_goto X109 hx 371 (D at_367) (of_decide_eq_true rfl) rfl ?_
          refine s_istore X109 hx (D at_371) (l' := #[.val (.int p0), .val (.int p1), .val (.long p2), .second, .val (.long p3), .second, .val (.ref fa1), .val (.int (1 : Int32)), .val (.int zA), .val (.int zB), .val (.int zC), .val (.long zK), .second, .val (.long zL), .second, .val (.int jm0_64), .val (.int (0 : Int32)), .val (.long jq0_20), .second, .val (.long jq1_20), .second, .val (.int zD), .unset]) rfl ?_
          refine s_iload X109 hx (D at_373) rfl ?_
          exact retN X109 hx (t := .boolean) Bd.returns (by simp) (D at_375) hr
        · show Q_rm0 Z p0 p1 p2 p3 h0 n0 _ T109.heap _
          rw [e109]
          exact ⟨rfl, N109, KK97⟩
      · obtain ⟨fs, hr, hrun, hended, hW, hsame⟩ := X109.leave (v := some (.int (1 : Int32))) (fun h => by rw [Bd.returns] at h; cases h)
        refine ⟨_, _, pre0 _ ?_, hrun, hended, _, _, rfl, ?_, ⟨_, rfl⟩, hW, hsame.mono (by decide) (by decide)⟩
        · refine cs110.trans ?_
          refine s_ifYes X109 hx 362 (D at_350) ((if0 _ _).trans (feq hc111).2) (of_decide_eq_true rfl) rfl ?_
          refine s_iconst X109 hx (0 : Int32) (D at_362) rfl ?_
          refine s_icmpNo X109 hx (D at_363) (teq (own_em1 (fun q => hc111 q.1) : (EM jm0_64 (0 : Int32)) = (0 : Int32))).2 ?_
          refine s_iconst X109 hx (1 : Int32) (D at_366) rfl ?_
          refine s_goto X109 hx 371 (D at_367) (of_decide_eq_true rfl) rfl ?_
          refine s_istore X109 hx (D at_371) (l' := #[.val (.int p0), .val (.int p1), .val (.long p2), .second, .val (.long p3), .second, .val (.ref fa1), .val (.int (1 : Int32)), .val (.int zA), .val (.int zB), .val (.int zC), .val (.long zK), .second, .val (.long zL), .second, .val (.int jm0_64), .val (.int (0 : Int32)), .val (.long jq0_20), .second, .val (.long jq1_20), .second, .val (.int zD), .unset]) rfl ?_
          refine s_iload X109 hx (D at_373) rfl ?_
          exact retN X109 hx (t := .boolean) Bd.returns (by simp) (D at_375) hr
        · show Q_rm0 Z p0 p1 p2 p3 h0 n0 _ T109.heap _
          rw [e109]
          exact ⟨rfl, N109, KK97⟩
set_option maxRecDepth 65536 in
set_option maxHeartbeats 40000000 in
theorem comes_1 {Post : Tables → Env → Array Value → State → Outcome → State → Prop} (hpost : ∀ tb e args s v u, (limb_1_1.after args s (.returned v) u = true ∧ limb_1_2.after args s (.returned v) u = true ∧ True) → FrameEnd s (.returned v) u (Jvm.fieldLocs frame_1_writes args s ++ Jvm.arrayLocs frame_1_arrays args s ++ Jvm.staticLocs frame_1_statics s) 32 133312 → Post tb e args s (.returned v) u) :
    ArmFor flags0 classFile x code maxLocals ret World_1 tables_1 room_1 Calls_1 rest_1 Pre_1 Post := by
  intro l hfl _ _ p e ha hc hk s m args below hf hA hF happ hP
  obtain ⟨hcalls, hrest, hpre⟩ := hP
  obtain ⟨-, -, -, hnamed, -, -, -, hat⟩ := (Spec.applies_iff hf).mp happ
  obtain ⟨hg, hn⟩ := and_e (Cond.before_iff.mp (show (Jvm.Cond.and given_1 narrow_1).before args s = true from hpre))
  obtain ⟨hg1a, hg1b⟩ := and_e hg
  obtain ⟨hg2a, hg2b⟩ := and_e hg1b
  obtain ⟨hg3a, hg3b⟩ := and_e hg2b
  obtain ⟨hg4a, hg4b⟩ := and_e hg3b
  obtain ⟨w0, w1, w2, w3, rfl⟩ : ∃ w0 w1 w2 w3 : Value, args = #[w0, w1, w2, w3] := by
    have hs : args.size = 4 := by simpa [Cond.value, given_1] using hg1a
    obtain ⟨L⟩ := args
    match L, hs with
    | [w0, w1, w2, w3], _ => exact ⟨w0, w1, w2, w3, rfl⟩
  have hw := fun d (hd : d ∈ tables_1) => atoms_spec (ws := Jvm.Cond.code x code maxLocals ret :: tables_1) hat d (List.mem_cons_of_mem _ hd)
  have hfit : Fit s := fun {y c} hc i hi => by
    obtain ⟨ha, rfl⟩ := Array.getElem?_eq_some_iff.mp hc
    have q := List.all_eq_true.mp ((Array.all_eq_true_iff_forall_mem.mp hF) _ (Array.getElem_mem ha)) i (List.mem_range.mpr hi)
    simpa [Array.getElem?_eq_getElem hi] using q
  obtain ⟨i0, ei0⟩ := is_v hg2a
  obtain rfl : w0 = (.int i0) := Option.some.inj ei0
  obtain ⟨i1, ei1⟩ := is_v hg3a
  obtain rfl : w1 = (.int i1) := Option.some.inj ei1
  obtain ⟨i2, ei2⟩ := isL_v hg4a
  obtain rfl : w2 = (.long i2) := Option.some.inj ei2
  obtain ⟨i3, ei3⟩ := isL_v hg4b
  obtain rfl : w3 = (.long i3) := Option.some.inj ei3
  obtain ⟨n, o, h1, h2, h3, _, L, rfl, ⟨rfl, N, -⟩, hq⟩ := rm0 l s _ hw tables_1 i0 i1 i2 i3 s.heap s.heap.size (Old.start s) p e ha hc hk s m _ below hf ((Spec.applies_iff_loose hf).mp happ).1 ⟨rfl, State.WarmedH.refl s, rfl⟩ trivial
  refine ⟨n, _, h1, h2, h3, hpost _ _ _ _ _ _ ⟨Cond.after_iff.mpr rfl, Cond.after_iff.mpr (eq_i res_at (Term.int_eval (1)) rfl), trivial⟩ ⟨hq.1, hq.2.1, (hq.2.2.sift fun y hy => Or.inr (N y hy)).mono (by decide) (by decide)⟩⟩
theorem main_1_1 : Claimed_1_1 := comes_1 fun _ _ _ _ _ _ h hF => ⟨h.1, Jvm.LamKit.wideOf hF⟩
theorem main_1_2 : Claimed_1_2 := comes_1 fun _ _ _ _ _ _ h hF => ⟨h.2.1, Jvm.LamKit.wideOf hF⟩
end Jvm.Pilot.@@N@@
namespace Jvm.Pilot.@@N@@
open Jvm Jvm.ClassFile Sem Op Lib Jvm.Free Jvm.Stand Jvm.Pilot.@@N@@.Jvm.D
/-! MADE BY PROGRAM (witnessworld.py) out of the Statement's table words and the real class files: 24 classes; the members and pool entries that the words name. The judged class is class 1, her method 1. -/
namespace start1
open Jvm.ClassFile
def u (s : String) : CpInfo := .utf8 (stringToUtf16 s)
/-- a pool by its gaps: so many unusable entries, then the entry; so many at the end -/
def gap : Nat → List CpInfo → List CpInfo
  | 0, r => r
  | n + 1, r => .unusable :: gap n r
def poolList (es : List (Nat × CpInfo)) (last : Nat) : List CpInfo := es.foldr (fun e r => gap e.1 (e.2 :: r)) (gap last [])
def pool (es : List (Nat × CpInfo)) (last : Nat) : Array CpInfo := ⟨poolList es last⟩
def fileOf (pool : Array CpInfo) (this : Nat) (attrs : Array Attribute := #[]) (ms : Array MethodInfo := #[]) (fl : Nat := 33) (sup : Nat := 0) (ifs : Array Nat := #[]) (fds : Array FieldInfo := #[]) : ClassFile where
  minorVersion := 0
  majorVersion := 65
  constantPool := pool
  accessFlags := fl
  thisClass := this
  superClass := sup
  interfaces := ifs
  fields := fds
  methods := ms
  attributes := attrs
def plain (name : String) (sup : Option ClassId) : Class where
  name := name
  kind := .ordinary
  loader := none
  accessFlags := 33
  super := sup
  interfaces := #[]
  cf := none
  fields := #[]
  methods := #[]
  instanceTypes := #[]
  staticTypes := #[]
  resolved := #[]
  callSites := []
  init := .initialized
  statics := none
  mirror := none

def pool0 : Array CpInfo := pool [(5, u "<init>"), (0, u "()V"), (1, .class_ 10), (1, u "java/lang/Object")] 113

def k0c0 : Code := { maxStack := 0, maxLocals := 1, code := object_method_1_code, exceptionTable := #[], attributes := #[] }
def k0m0 : Method := { name := "<init>", desc := "()V", sig := { parameters := [], returnType := none }, accessFlags := 1, code := some k0c0 }
/-- java/lang/Object -/
def k0 : Class := { plain "java/lang/Object" none with
  accessFlags := 33
  interfaces := #[]
  cf := some (fileOf pool0 8 #[] #[{ accessFlags := 1, nameIndex := 5, descriptorIndex := 6, attributes := #[] }] 33 0 #[] #[])
  fields := #[]
  methods := #[k0m0]
  instanceTypes := #[]
  staticTypes := #[]
  resolved := Array.replicate 124 none
  statics := none }

def pool1 : Array CpInfo := pool [(2, .class_ 4), (1, u "java/lang/Object"), (0, u "<init>"), (0, u "()V"), (0, .class_ 8), (0, u "com/example/leasewise/leasewise/KilometreQueue"), (0, .methodref 7 10), (0, .nameAndType 5 11), (0, u "(I)V"), (0, .methodref 7 13), (0, .nameAndType 14 15), (0, u "isEmpty"), (0, u "()Z"), (2, .long 9223372036854775807), (1, .methodref 7 21), (0, .nameAndType 22 23), (0, u "put"), (0, u "(IJ)V"), (0, .methodref 25 26), (0, .class_ 27), (0, .nameAndType 28 29), (0, u "java/lang/Math"), (0, u "min"), (0, u "(JJ)J"), (0, .methodref 7 31), (0, .nameAndType 32 33), (0, u "raiseFloor"), (0, u "(J)V"), (0, .methodref 7 35), (0, .nameAndType 36 11), (0, u "remove"), (0, .class_ 38), (0, u "com/example/leasewise/leasewise/KilometreQueueIsEmptyPinLaw"), (2, u "law"), (0, u "(IIJJ)Z")] 3

def k1m0 : Method := { name := "<init>", desc := "()V", sig := { parameters := [], returnType := none }, accessFlags := 1, code := none }
def k1c1 : Code := { maxStack := 4, maxLocals := 23, code := code, exceptionTable := #[], attributes := #[] }
def k1m1 : Method := { name := "law", desc := "(IIJJ)Z", sig := { parameters := [.int, .int, .long, .long], returnType := some .boolean }, accessFlags := 9, code := some k1c1 }
/-- com/example/leasewise/leasewise/KilometreQueueIsEmptyPinLaw -/
def k1 : Class := { plain "com/example/leasewise/leasewise/KilometreQueueIsEmptyPinLaw" (some 0) with
  accessFlags := 49
  interfaces := #[]
  cf := some (fileOf pool1 37 #[] #[{ accessFlags := 1, nameIndex := 5, descriptorIndex := 6, attributes := #[] }, { accessFlags := 9, nameIndex := 41, descriptorIndex := 42, attributes := #[] }] 49 2 #[] #[])
  fields := #[]
  methods := #[k1m0, k1m1]
  instanceTypes := #[]
  staticTypes := #[]
  resolved := Array.replicate 46 none
  statics := none }

def pool2 : Array CpInfo := pool [(1, .class_ 2), (0, u "com/example/leasewise/leasewise/KilometreQueue"), (0, .methodref 4 5), (0, .class_ 6), (0, .nameAndType 7 8), (0, u "java/lang/Object"), (0, u "<init>"), (0, u "()V"), (0, .integer 65536), (0, .fieldref 1 11), (0, .nameAndType 12 13), (0, u "firsts"), (0, u "[I"), (0, .class_ 15), (0, u "java/lang/Long"), (0, .fieldref 1 17), (0, .nameAndType 18 19), (0, u "occupied"), (0, u "[J"), (0, .fieldref 1 21), (0, .nameAndType 22 19), (0, u "occupiedWords"), (0, .fieldref 1 24), (0, .nameAndType 25 19), (0, u "keys"), (0, .fieldref 1 27), (0, .nameAndType 28 13), (0, u "before"), (0, .fieldref 1 30), (0, .nameAndType 31 13), (0, u "after"), (0, .fieldref 1 33), (0, .nameAndType 34 35), (0, u "inBucket"), (0, u "[Z"), (0, .methodref 37 38), (0, .class_ 39), (0, .nameAndType 40 41), (0, u "java/util/Arrays"), (0, u "fill"), (0, u "([II)V"), (0, .class_ 43), (0, u "com/example/leasewise/leasewise/IndexedHeap"), (0, .invokeDynamic 0 45), (0, .nameAndType 28 46), (0, u "(Lcom/example/leasewise/leasewise/KilometreQueue;)Lcom/example/leasewise/leasewise/IndexedHeap$Order;"), (0, .methodref 42 48), (0, .nameAndType 7 49), (0, u "(ILcom/example/leasewise/leasewise/IndexedHeap$Order;)V"), (0, .fieldref 1 51), (0, .nameAndType 52 53), (0, u "further"), (0, u "Lcom/example/leasewise/leasewise/IndexedHeap;"), (0, .fieldref 1 55), (0, .nameAndType 56 57), (0, u "bucketed"), (0, u "I"), (0, .methodref 42 59), (0, .nameAndType 60 61), (0, u "isEmpty"), (0, u "()Z"), (4, .fieldref 1 67), (0, .nameAndType 68 69), (0, u "floor"), (0, u "J"), (9, .methodref 1 80), (0, .nameAndType 81 82), (0, u "remove"), (0, u "(I)V"), (0, .long 65536), (1, .methodref 1 86), (0, .nameAndType 87 82), (0, u "link"), (0, .methodref 42 89), (0, .nameAndType 90 82), (0, u "put"), (0, .methodref 1 92), (0, .nameAndType 93 82), (0, u "unlink"), (0, .methodref 42 80), (0, .methodref 1 96), (0, .nameAndType 97 98), (0, u "firstBucket"), (0, u "()I"), (0, .methodref 42 100), (0, .nameAndType 101 98), (0, u "first"), (0, .methodref 42 103), (0, .nameAndType 104 98), (0, u "poll"), (0, .methodref 1 59), (0, .methodref 1 107), (0, .nameAndType 108 109), (0, u "firstKey"), (0, u "()J"), (1, .methodref 112 113), (0, .class_ 114), (0, .nameAndType 115 116), (0, u "java/lang/Math"), (0, u "max"), (0, u "(JJ)J"), (0, .long 65535), (1, .methodref 1 120), (0, .nameAndType 121 122), (0, u "nextOccupied"), (0, u "(I)I"), (0, .long 18446744073709551615), (1, .methodref 14 126), (0, .nameAndType 127 128), (0, u "numberOfTrailingZeros"), (0, u "(J)I"), (0, .methodref 1 130), (0, .nameAndType 131 122), (0, u "nextOccupiedWord"), (0, u "SPAN"), (1, u "BUCKET_MASK"), (1, u "NONE"), (6, u "(IJ)V"), (0, u "raiseFloor"), (0, u "(J)V"), (0, u "lambda$new$0"), (0, u "(II)Z"), (3, .methodType 147), (0, .methodHandle 5 153), (0, .methodref 1 154), (0, .nameAndType 146 147), (4, .methodHandle 6 160), (0, .methodref 161 162), (0, .class_ 163), (0, .nameAndType 164 165), (0, u "java/lang/invoke/LambdaMetafactory"), (0, u "metafactory"), (0, u "(Ljava/lang/invoke/MethodHandles$Lookup;Ljava/lang/String;Ljava/lang/invoke/MethodType;Ljava/lang/invoke/MethodType;Ljava/lang/invoke/MethodHandle;Ljava/lang/invoke/MethodType;)Ljava/lang/invoke/CallSite;")] 15

def k2c0 : Code := { maxStack := 5, maxLocals := 2, code := prog_39_method_1_code, exceptionTable := #[], attributes := #[] }
def k2m0 : Method := { name := "<init>", desc := "(I)V", sig := { parameters := [.int], returnType := none }, accessFlags := 0, code := some k2c0 }
def k2c1 : Code := { maxStack := 1, maxLocals := 1, code := prog_39_method_2_code, exceptionTable := #[], attributes := #[] }
def k2m1 : Method := { name := "isEmpty", desc := "()Z", sig := { parameters := [], returnType := some .boolean }, accessFlags := 0, code := some k2c1 }
def k2c2 : Code := { maxStack := 6, maxLocals := 4, code := prog_39_method_5_code, exceptionTable := #[], attributes := #[] }
def k2m2 : Method := { name := "put", desc := "(IJ)V", sig := { parameters := [.int, .long], returnType := none }, accessFlags := 0, code := some k2c2 }
def k2c3 : Code := { maxStack := 2, maxLocals := 2, code := prog_39_method_6_code, exceptionTable := #[], attributes := #[] }
def k2m3 : Method := { name := "remove", desc := "(I)V", sig := { parameters := [.int], returnType := none }, accessFlags := 0, code := some k2c3 }
def k2c4 : Code := { maxStack := 3, maxLocals := 1, code := prog_39_method_7_code, exceptionTable := #[], attributes := #[] }
def k2m4 : Method := { name := "firstKey", desc := "()J", sig := { parameters := [], returnType := some .long }, accessFlags := 0, code := some k2c4 }
def k2c5 : Code := { maxStack := 6, maxLocals := 3, code := prog_39_method_9_code, exceptionTable := #[], attributes := #[] }
def k2m5 : Method := { name := "raiseFloor", desc := "(J)V", sig := { parameters := [.long], returnType := none }, accessFlags := 0, code := some k2c5 }
def k2c6 : Code := { maxStack := 4, maxLocals := 3, code := prog_39_method_10_code, exceptionTable := #[], attributes := #[] }
def k2m6 : Method := { name := "firstBucket", desc := "()I", sig := { parameters := [], returnType := some .int }, accessFlags := 2, code := some k2c6 }
def k2c7 : Code := { maxStack := 6, maxLocals := 6, code := prog_39_method_11_code, exceptionTable := #[], attributes := #[] }
def k2m7 : Method := { name := "nextOccupied", desc := "(I)I", sig := { parameters := [.int], returnType := some .int }, accessFlags := 2, code := some k2c7 }
def k2c8 : Code := { maxStack := 6, maxLocals := 5, code := prog_39_method_12_code, exceptionTable := #[], attributes := #[] }
def k2m8 : Method := { name := "nextOccupiedWord", desc := "(I)I", sig := { parameters := [.int], returnType := some .int }, accessFlags := 2, code := some k2c8 }
def k2c9 : Code := { maxStack := 8, maxLocals := 4, code := prog_39_method_13_code, exceptionTable := #[], attributes := #[] }
def k2m9 : Method := { name := "link", desc := "(I)V", sig := { parameters := [.int], returnType := none }, accessFlags := 2, code := some k2c9 }
def k2c10 : Code := { maxStack := 8, maxLocals := 4, code := prog_39_method_14_code, exceptionTable := #[], attributes := #[] }
def k2m10 : Method := { name := "unlink", desc := "(I)V", sig := { parameters := [.int], returnType := none }, accessFlags := 2, code := some k2c10 }
def k2c11 : Code := { maxStack := 4, maxLocals := 3, code := prog_39_method_15_code, exceptionTable := #[], attributes := #[] }
def k2m11 : Method := { name := "lambda$new$0", desc := "(II)Z", sig := { parameters := [.int, .int], returnType := some .boolean }, accessFlags := 4098, code := some k2c11 }
/-- com/example/leasewise/leasewise/KilometreQueue -/
def k2 : Class := { plain "com/example/leasewise/leasewise/KilometreQueue" (some 0) with
  accessFlags := 48
  interfaces := #[]
  cf := some (fileOf pool2 1 #[.bootstrapMethods #[⟨159, #[151, 152, 151]⟩, ⟨0, #[]⟩, ⟨0, #[]⟩]] #[{ accessFlags := 0, nameIndex := 7, descriptorIndex := 82, attributes := #[] }, { accessFlags := 0, nameIndex := 60, descriptorIndex := 61, attributes := #[] }, { accessFlags := 0, nameIndex := 90, descriptorIndex := 143, attributes := #[] }, { accessFlags := 0, nameIndex := 81, descriptorIndex := 82, attributes := #[] }, { accessFlags := 0, nameIndex := 108, descriptorIndex := 109, attributes := #[] }, { accessFlags := 0, nameIndex := 144, descriptorIndex := 145, attributes := #[] }, { accessFlags := 2, nameIndex := 97, descriptorIndex := 98, attributes := #[] }, { accessFlags := 2, nameIndex := 121, descriptorIndex := 122, attributes := #[] }, { accessFlags := 2, nameIndex := 131, descriptorIndex := 122, attributes := #[] }, { accessFlags := 2, nameIndex := 87, descriptorIndex := 82, attributes := #[] }, { accessFlags := 2, nameIndex := 93, descriptorIndex := 82, attributes := #[] }, { accessFlags := 4098, nameIndex := 146, descriptorIndex := 147, attributes := #[] }] 48 4 #[] #[{ accessFlags := 26, nameIndex := 132, descriptorIndex := 57, attributes := #[] }, { accessFlags := 26, nameIndex := 134, descriptorIndex := 57, attributes := #[] }, { accessFlags := 26, nameIndex := 136, descriptorIndex := 57, attributes := #[] }, { accessFlags := 18, nameIndex := 25, descriptorIndex := 19, attributes := #[] }, { accessFlags := 18, nameIndex := 28, descriptorIndex := 13, attributes := #[] }, { accessFlags := 18, nameIndex := 31, descriptorIndex := 13, attributes := #[] }, { accessFlags := 18, nameIndex := 34, descriptorIndex := 35, attributes := #[] }, { accessFlags := 18, nameIndex := 12, descriptorIndex := 13, attributes := #[] }, { accessFlags := 18, nameIndex := 18, descriptorIndex := 19, attributes := #[] }, { accessFlags := 18, nameIndex := 22, descriptorIndex := 19, attributes := #[] }, { accessFlags := 2, nameIndex := 56, descriptorIndex := 57, attributes := #[] }, { accessFlags := 18, nameIndex := 52, descriptorIndex := 53, attributes := #[] }, { accessFlags := 2, nameIndex := 68, descriptorIndex := 69, attributes := #[] }])
  fields := #[{ name := "SPAN", type := .int, accessFlags := 26, slot := 0, constantValue := 0 }, { name := "BUCKET_MASK", type := .int, accessFlags := 26, slot := 1, constantValue := 0 }, { name := "NONE", type := .int, accessFlags := 26, slot := 2, constantValue := 0 }, { name := "keys", type := (.array .long), accessFlags := 18, slot := 0, constantValue := 0 }, { name := "before", type := (.array .int), accessFlags := 18, slot := 1, constantValue := 0 }, { name := "after", type := (.array .int), accessFlags := 18, slot := 2, constantValue := 0 }, { name := "inBucket", type := (.array .boolean), accessFlags := 18, slot := 3, constantValue := 0 }, { name := "firsts", type := (.array .int), accessFlags := 18, slot := 4, constantValue := 0 }, { name := "occupied", type := (.array .long), accessFlags := 18, slot := 5, constantValue := 0 }, { name := "occupiedWords", type := (.array .long), accessFlags := 18, slot := 6, constantValue := 0 }, { name := "bucketed", type := .int, accessFlags := 2, slot := 7, constantValue := 0 }, { name := "further", type := (.object "com/example/leasewise/leasewise/IndexedHeap"), accessFlags := 18, slot := 8, constantValue := 0 }, { name := "floor", type := .long, accessFlags := 2, slot := 9, constantValue := 0 }]
  methods := #[k2m0, k2m1, k2m2, k2m3, k2m4, k2m5, k2m6, k2m7, k2m8, k2m9, k2m10, k2m11]
  instanceTypes := #[(.array .long), (.array .int), (.array .int), (.array .boolean), (.array .int), (.array .long), (.array .long), .int, (.object "com/example/leasewise/leasewise/IndexedHeap"), .long]
  staticTypes := #[.int, .int, .int]
  resolved := Array.replicate 181 none
  callSites := [(0, 72, .makes 23)]
  statics := none }

def pool3 : Array CpInfo := pool [(2, .class_ 4), (1, u "java/lang/Object"), (0, u "<init>"), (0, u "()V"), (7, .class_ 16), (1, u "java/util/Arrays"), (57, .class_ 76), (1, u "java/util/Arrays$NaturalOrder"), (36, .class_ 115), (1, u "java/util/Arrays$LegacyMergeSort"), (1, u "Z"), (257, .class_ 376), (0, u "java/util/Arrays$ArrayList"), (68, u "$assertionsDisabled"), (269, u "MIN_ARRAY_SORT_GRAN"), (0, u "I"), (2, u "INSERTIONSORT_THRESHOLD"), (120, u "fill"), (4, u "([II)V"), (129, .class_ 976), (0, u "java/util/Arrays$ArrayItr")] 52

def k3m0 : Method := { name := "<init>", desc := "()V", sig := { parameters := [], returnType := none }, accessFlags := 2, code := none }
def k3c1 : Code := { maxStack := 3, maxLocals := 4, code := jdk_65_method_103_code, exceptionTable := #[], attributes := #[] }
def k3m1 : Method := { name := "fill", desc := "([II)V", sig := { parameters := [(.array .int), .int], returnType := none }, accessFlags := 9, code := some k3c1 }
/-- java/util/Arrays -/
def k3 : Class := { plain "java/util/Arrays" (some 0) with
  accessFlags := 49
  interfaces := #[]
  cf := some (fileOf pool3 14 #[.nestMembers #[975, 375, 113, 74]] #[{ accessFlags := 2, nameIndex := 5, descriptorIndex := 6, attributes := #[] }, { accessFlags := 9, nameIndex := 840, descriptorIndex := 845, attributes := #[] }] 49 2 #[] #[{ accessFlags := 26, nameIndex := 715, descriptorIndex := 716, attributes := #[] }, { accessFlags := 26, nameIndex := 719, descriptorIndex := 716, attributes := #[] }, { accessFlags := 4120, nameIndex := 445, descriptorIndex := 117, attributes := #[] }])
  fields := #[{ name := "MIN_ARRAY_SORT_GRAN", type := .int, accessFlags := 26, slot := 0, constantValue := 0 }, { name := "INSERTIONSORT_THRESHOLD", type := .int, accessFlags := 26, slot := 1, constantValue := 0 }, { name := "$assertionsDisabled", type := .boolean, accessFlags := 4120, slot := 2, constantValue := 0 }]
  methods := #[k3m0, k3m1]
  instanceTypes := #[]
  staticTypes := #[.int, .int, .boolean]
  resolved := Array.replicate 1029 none
  statics := none }

def pool4 : Array CpInfo := pool [(1, .methodref 2 3), (0, .class_ 4), (0, .nameAndType 5 6), (0, u "java/lang/Object"), (0, u "<init>"), (0, u "()V"), (0, .fieldref 8 9), (0, .class_ 10), (0, .nameAndType 11 12), (0, u "com/example/leasewise/leasewise/IndexedHeap"), (0, u "order"), (0, u "Lcom/example/leasewise/leasewise/IndexedHeap$Order;"), (0, .fieldref 8 14), (0, .nameAndType 15 16), (0, u "entries"), (0, u "[I"), (0, .fieldref 8 18), (0, .nameAndType 19 16), (0, u "positions"), (0, .methodref 21 22), (0, .class_ 23), (0, .nameAndType 24 25), (0, u "java/util/Arrays"), (0, u "fill"), (0, u "([II)V"), (0, .fieldref 8 27), (0, .nameAndType 28 29), (0, u "size"), (0, u "I"), (7, .methodref 8 38), (0, .nameAndType 39 40), (0, u "first"), (0, u "()I"), (0, .methodref 8 42), (0, .nameAndType 43 44), (0, u "remove"), (0, u "(I)V"), (0, .methodref 8 46), (0, .nameAndType 47 48), (0, u "contains"), (0, u "(I)Z"), (0, .methodref 8 50), (0, .nameAndType 51 52), (0, u "siftUp"), (0, u "(I)I"), (0, .methodref 8 54), (0, .nameAndType 55 44), (0, u "siftDown"), (0, .interfaceMethodref 57 58), (0, .class_ 59), (0, .nameAndType 60 61), (0, u "com/example/leasewise/leasewise/IndexedHeap$Order"), (0, u "before"), (0, u "(II)Z"), (0, .methodref 8 63), (0, .nameAndType 64 65), (0, u "place"), (0, u "(II)V"), (0, u "ABSENT"), (2, u "(ILcom/example/leasewise/leasewise/IndexedHeap$Order;)V"), (2, u "isEmpty"), (0, u "()Z"), (1, u "poll"), (0, u "put")] 5

def k4c0 : Code := { maxStack := 2, maxLocals := 3, code := prog_35_method_1_code, exceptionTable := #[], attributes := #[] }
def k4m0 : Method := { name := "<init>", desc := "(ILcom/example/leasewise/leasewise/IndexedHeap$Order;)V", sig := { parameters := [.int, (.object "com/example/leasewise/leasewise/IndexedHeap$Order")], returnType := none }, accessFlags := 0, code := some k4c0 }
def k4c1 : Code := { maxStack := 1, maxLocals := 1, code := prog_35_method_2_code, exceptionTable := #[], attributes := #[] }
def k4m1 : Method := { name := "isEmpty", desc := "()Z", sig := { parameters := [], returnType := some .boolean }, accessFlags := 0, code := some k4c1 }
def k4c2 : Code := { maxStack := 2, maxLocals := 2, code := prog_35_method_3_code, exceptionTable := #[], attributes := #[] }
def k4m2 : Method := { name := "contains", desc := "(I)Z", sig := { parameters := [.int], returnType := some .boolean }, accessFlags := 0, code := some k4c2 }
def k4c3 : Code := { maxStack := 3, maxLocals := 1, code := prog_35_method_4_code, exceptionTable := #[], attributes := #[] }
def k4m3 : Method := { name := "first", desc := "()I", sig := { parameters := [], returnType := some .int }, accessFlags := 0, code := some k4c3 }
def k4c4 : Code := { maxStack := 2, maxLocals := 2, code := prog_35_method_5_code, exceptionTable := #[], attributes := #[] }
def k4m4 : Method := { name := "poll", desc := "()I", sig := { parameters := [], returnType := some .int }, accessFlags := 0, code := some k4c4 }
def k4c5 : Code := { maxStack := 3, maxLocals := 3, code := prog_35_method_6_code, exceptionTable := #[], attributes := #[] }
def k4m5 : Method := { name := "put", desc := "(I)V", sig := { parameters := [.int], returnType := none }, accessFlags := 0, code := some k4c5 }
def k4c6 : Code := { maxStack := 3, maxLocals := 4, code := prog_35_method_7_code, exceptionTable := #[], attributes := #[] }
def k4m6 : Method := { name := "remove", desc := "(I)V", sig := { parameters := [.int], returnType := none }, accessFlags := 0, code := some k4c6 }
def k4c7 : Code := { maxStack := 4, maxLocals := 5, code := prog_35_method_8_code, exceptionTable := #[], attributes := #[] }
def k4m7 : Method := { name := "siftUp", desc := "(I)I", sig := { parameters := [.int], returnType := some .int }, accessFlags := 2, code := some k4c7 }
def k4c8 : Code := { maxStack := 4, maxLocals := 5, code := prog_35_method_9_code, exceptionTable := #[], attributes := #[] }
def k4m8 : Method := { name := "siftDown", desc := "(I)V", sig := { parameters := [.int], returnType := none }, accessFlags := 2, code := some k4c8 }
def k4c9 : Code := { maxStack := 3, maxLocals := 3, code := prog_35_method_10_code, exceptionTable := #[], attributes := #[] }
def k4m9 : Method := { name := "place", desc := "(II)V", sig := { parameters := [.int, .int], returnType := none }, accessFlags := 2, code := some k4c9 }
/-- com/example/leasewise/leasewise/IndexedHeap -/
def k4 : Class := { plain "com/example/leasewise/leasewise/IndexedHeap" (some 0) with
  accessFlags := 48
  interfaces := #[]
  cf := some (fileOf pool4 8 #[.nestMembers #[57]] #[{ accessFlags := 0, nameIndex := 5, descriptorIndex := 69, attributes := #[] }, { accessFlags := 0, nameIndex := 72, descriptorIndex := 73, attributes := #[] }, { accessFlags := 0, nameIndex := 47, descriptorIndex := 48, attributes := #[] }, { accessFlags := 0, nameIndex := 39, descriptorIndex := 40, attributes := #[] }, { accessFlags := 0, nameIndex := 75, descriptorIndex := 40, attributes := #[] }, { accessFlags := 0, nameIndex := 76, descriptorIndex := 44, attributes := #[] }, { accessFlags := 0, nameIndex := 43, descriptorIndex := 44, attributes := #[] }, { accessFlags := 2, nameIndex := 51, descriptorIndex := 52, attributes := #[] }, { accessFlags := 2, nameIndex := 55, descriptorIndex := 44, attributes := #[] }, { accessFlags := 2, nameIndex := 64, descriptorIndex := 65, attributes := #[] }] 48 2 #[] #[{ accessFlags := 26, nameIndex := 66, descriptorIndex := 29, attributes := #[] }, { accessFlags := 18, nameIndex := 11, descriptorIndex := 12, attributes := #[] }, { accessFlags := 18, nameIndex := 15, descriptorIndex := 16, attributes := #[] }, { accessFlags := 18, nameIndex := 19, descriptorIndex := 16, attributes := #[] }, { accessFlags := 2, nameIndex := 28, descriptorIndex := 29, attributes := #[] }])
  fields := #[{ name := "ABSENT", type := .int, accessFlags := 26, slot := 0, constantValue := 0 }, { name := "order", type := (.object "com/example/leasewise/leasewise/IndexedHeap$Order"), accessFlags := 18, slot := 0, constantValue := 0 }, { name := "entries", type := (.array .int), accessFlags := 18, slot := 1, constantValue := 0 }, { name := "positions", type := (.array .int), accessFlags := 18, slot := 2, constantValue := 0 }, { name := "size", type := .int, accessFlags := 2, slot := 3, constantValue := 0 }]
  methods := #[k4m0, k4m1, k4m2, k4m3, k4m4, k4m5, k4m6, k4m7, k4m8, k4m9]
  instanceTypes := #[(.object "com/example/leasewise/leasewise/IndexedHeap$Order"), (.array .int), (.array .int), .int]
  staticTypes := #[.int]
  resolved := Array.replicate 82 none
  statics := none }

def pool5 : Array CpInfo := pool [(1, .class_ 2), (0, u "com/example/leasewise/leasewise/IndexedHeap$Order"), (0, .class_ 4), (0, u "java/lang/Object"), (0, u "before"), (0, u "(II)Z"), (3, .class_ 11), (0, u "com/example/leasewise/leasewise/IndexedHeap")] 2

def k5m0 : Method := { name := "before", desc := "(II)Z", sig := { parameters := [.int, .int], returnType := some .boolean }, accessFlags := 1025, code := none }
/-- com/example/leasewise/leasewise/IndexedHeap$Order -/
def k5 : Class := { plain "com/example/leasewise/leasewise/IndexedHeap$Order" (some 0) with
  accessFlags := 1536
  interfaces := #[]
  cf := some (fileOf pool5 1 #[.nestHost 10] #[{ accessFlags := 1025, nameIndex := 5, descriptorIndex := 6, attributes := #[] }] 1536 3 #[] #[])
  fields := #[]
  methods := #[k5m0]
  instanceTypes := #[]
  staticTypes := #[]
  resolved := Array.replicate 14 none
  statics := none }

def pool6 : Array CpInfo := pool [(1, .class_ 2), (0, u "java/io/Serializable"), (0, .class_ 4), (0, u "java/lang/Object")] 2

/-- java/io/Serializable -/
def k6 : Class := { plain "java/io/Serializable" (some 0) with
  accessFlags := 1537
  interfaces := #[]
  cf := some (fileOf pool6 1 #[] #[] 1537 3 #[] #[])
  fields := #[]
  methods := #[]
  instanceTypes := #[]
  staticTypes := #[]
  resolved := Array.replicate 7 none
  statics := none }

def pool7 : Array CpInfo := pool [(2, .class_ 4), (1, u "java/lang/Object"), (0, u "<init>"), (0, u "()V"), (1, .class_ 10), (1, u "java/lang/Number"), (2, .class_ 14), (0, u "java/io/Serializable"), (0, u "serialVersionUID"), (0, u "J")] 20

def k7m0 : Method := { name := "<init>", desc := "()V", sig := { parameters := [], returnType := none }, accessFlags := 1, code := none }
/-- java/lang/Number -/
def k7 : Class := { plain "java/lang/Number" (some 0) with
  accessFlags := 1057
  interfaces := #[6]
  cf := some (fileOf pool7 8 #[] #[{ accessFlags := 1, nameIndex := 5, descriptorIndex := 6, attributes := #[] }] 1057 2 #[13] #[{ accessFlags := 26, nameIndex := 15, descriptorIndex := 16, attributes := #[] }])
  fields := #[{ name := "serialVersionUID", type := .long, accessFlags := 26, slot := 0, constantValue := 0 }]
  methods := #[k7m0]
  instanceTypes := #[]
  staticTypes := #[.long]
  resolved := Array.replicate 37 none
  statics := none }

def pool8 : Array CpInfo := pool [(1, .class_ 2), (0, u "java/lang/Comparable"), (0, .class_ 4), (0, u "java/lang/Object")] 7

/-- java/lang/Comparable -/
def k8 : Class := { plain "java/lang/Comparable" (some 0) with
  accessFlags := 1537
  interfaces := #[]
  cf := some (fileOf pool8 1 #[] #[] 1537 3 #[] #[])
  fields := #[]
  methods := #[]
  instanceTypes := #[]
  staticTypes := #[]
  resolved := Array.replicate 12 none
  statics := none }

def pool9 : Array CpInfo := pool [(1, .class_ 2), (0, u "java/lang/constant/Constable"), (0, .class_ 4), (0, u "java/lang/Object")] 6

/-- java/lang/constant/Constable -/
def k9 : Class := { plain "java/lang/constant/Constable" (some 0) with
  accessFlags := 1537
  interfaces := #[]
  cf := some (fileOf pool9 1 #[] #[] 1537 3 #[] #[])
  fields := #[]
  methods := #[]
  instanceTypes := #[]
  staticTypes := #[]
  resolved := Array.replicate 11 none
  statics := none }

def pool10 : Array CpInfo := pool [(1, .class_ 2), (0, u "java/lang/constant/ConstantDesc"), (0, .class_ 4), (0, u "java/lang/Object")] 32

/-- java/lang/constant/ConstantDesc -/
def k10 : Class := { plain "java/lang/constant/ConstantDesc" (some 0) with
  accessFlags := 1537
  interfaces := #[]
  cf := some (fileOf pool10 1 #[] #[] 1537 3 #[] #[])
  fields := #[]
  methods := #[]
  instanceTypes := #[]
  staticTypes := #[]
  resolved := Array.replicate 37 none
  statics := none }

def pool11 : Array CpInfo := pool [(1, .class_ 2), (0, u "java/lang/Long"), (15, .class_ 20), (1, u "java/lang/Integer"), (80, u "(J)I"), (133, .class_ 237), (1, u "java/lang/Long$LongCache"), (33, .class_ 272), (0, u "java/lang/Number"), (2, u "value"), (0, u "J"), (33, u "(I)I"), (0, .methodref 18 312), (0, .nameAndType 313 310), (0, u "numberOfTrailingZeros"), (47, u "TYPE"), (0, u "Ljava/lang/Class;"), (0, .class_ 364), (0, u "java/lang/Comparable"), (0, .class_ 366), (0, u "java/lang/constant/Constable"), (0, .class_ 368), (0, u "java/lang/constant/ConstantDesc"), (0, u "MIN_VALUE"), (1, u "MAX_VALUE"), (4, u "SIZE"), (0, u "I"), (1, u "BYTES"), (1, u "serialVersionUID")] 142

def k11c0 : Code := { maxStack := 4, maxLocals := 3, code := jdk_35_method_49_code, exceptionTable := #[], attributes := #[] }
def k11m0 : Method := { name := "numberOfTrailingZeros", desc := "(J)I", sig := { parameters := [.long], returnType := some .int }, accessFlags := 9, code := some k11c0 }
/-- java/lang/Long -/
def k11 : Class := { plain "java/lang/Long" (some 7) with
  accessFlags := 49
  interfaces := #[8, 9, 10]
  cf := some (fileOf pool11 1 #[.nestMembers #[235]] #[{ accessFlags := 9, nameIndex := 313, descriptorIndex := 101, attributes := #[] }] 49 271 #[363, 365, 367] #[{ accessFlags := 25, nameIndex := 369, descriptorIndex := 276, attributes := #[] }, { accessFlags := 25, nameIndex := 371, descriptorIndex := 276, attributes := #[] }, { accessFlags := 25, nameIndex := 361, descriptorIndex := 362, attributes := #[] }, { accessFlags := 18, nameIndex := 275, descriptorIndex := 276, attributes := #[] }, { accessFlags := 25, nameIndex := 376, descriptorIndex := 377, attributes := #[] }, { accessFlags := 25, nameIndex := 379, descriptorIndex := 377, attributes := #[] }, { accessFlags := 26, nameIndex := 381, descriptorIndex := 276, attributes := #[] }])
  fields := #[{ name := "MIN_VALUE", type := .long, accessFlags := 25, slot := 0, constantValue := 0 }, { name := "MAX_VALUE", type := .long, accessFlags := 25, slot := 1, constantValue := 0 }, { name := "TYPE", type := (.object "java/lang/Class"), accessFlags := 25, slot := 2, constantValue := 0 }, { name := "value", type := .long, accessFlags := 18, slot := 0, constantValue := 0 }, { name := "SIZE", type := .int, accessFlags := 25, slot := 3, constantValue := 0 }, { name := "BYTES", type := .int, accessFlags := 25, slot := 4, constantValue := 0 }, { name := "serialVersionUID", type := .long, accessFlags := 26, slot := 5, constantValue := 0 }]
  methods := #[k11m0]
  instanceTypes := #[.long]
  staticTypes := #[.long, .long, (.object "java/lang/Class"), .int, .int, .long]
  resolved := Array.replicate 524 none
  statics := none }

def pool12 : Array CpInfo := pool [(1, .class_ 2), (0, u "java/lang/Integer"), (16, u "digits"), (0, u "[C"), (33, u "(I)I"), (30, u "DigitOnes"), (0, u "[B"), (2, u "DigitTens"), (99, .class_ 190), (0, u "java/lang/Integer$IntegerCache"), (3, u "I"), (8, .class_ 204), (0, u "java/lang/Number"), (2, u "value"), (56, .integer 65536), (37, u "TYPE"), (0, u "Ljava/lang/Class;"), (0, .class_ 305), (0, u "java/lang/Comparable"), (0, .class_ 307), (0, u "java/lang/constant/Constable"), (0, .class_ 309), (0, u "java/lang/constant/ConstantDesc"), (0, u "MIN_VALUE"), (1, u "MAX_VALUE"), (3, u "SIZE"), (1, u "BYTES"), (1, u "serialVersionUID"), (0, u "J"), (84, u "numberOfTrailingZeros")] 46

def k12c0 : Code := { maxStack := 3, maxLocals := 2, code := jdk_33_method_48_code, exceptionTable := #[], attributes := #[] }
def k12m0 : Method := { name := "numberOfTrailingZeros", desc := "(I)I", sig := { parameters := [.int], returnType := some .int }, accessFlags := 9, code := some k12c0 }
/-- java/lang/Integer -/
def k12 : Class := { plain "java/lang/Integer" (some 7) with
  accessFlags := 49
  interfaces := #[8, 9, 10]
  cf := some (fileOf pool12 1 #[.nestMembers #[189]] #[{ accessFlags := 9, nameIndex := 406, descriptorIndex := 54, attributes := #[] }] 49 203 #[304, 306, 308] #[{ accessFlags := 25, nameIndex := 310, descriptorIndex := 194, attributes := #[] }, { accessFlags := 25, nameIndex := 312, descriptorIndex := 194, attributes := #[] }, { accessFlags := 25, nameIndex := 302, descriptorIndex := 303, attributes := #[] }, { accessFlags := 24, nameIndex := 19, descriptorIndex := 20, attributes := #[] }, { accessFlags := 24, nameIndex := 89, descriptorIndex := 86, attributes := #[] }, { accessFlags := 24, nameIndex := 85, descriptorIndex := 86, attributes := #[] }, { accessFlags := 18, nameIndex := 207, descriptorIndex := 194, attributes := #[] }, { accessFlags := 25, nameIndex := 316, descriptorIndex := 194, attributes := #[] }, { accessFlags := 25, nameIndex := 318, descriptorIndex := 194, attributes := #[] }, { accessFlags := 26, nameIndex := 320, descriptorIndex := 321, attributes := #[] }])
  fields := #[{ name := "MIN_VALUE", type := .int, accessFlags := 25, slot := 0, constantValue := 0 }, { name := "MAX_VALUE", type := .int, accessFlags := 25, slot := 1, constantValue := 0 }, { name := "TYPE", type := (.object "java/lang/Class"), accessFlags := 25, slot := 2, constantValue := 0 }, { name := "digits", type := (.array .char), accessFlags := 24, slot := 3, constantValue := 0 }, { name := "DigitTens", type := (.array .byte), accessFlags := 24, slot := 4, constantValue := 0 }, { name := "DigitOnes", type := (.array .byte), accessFlags := 24, slot := 5, constantValue := 0 }, { name := "value", type := .int, accessFlags := 18, slot := 0, constantValue := 0 }, { name := "SIZE", type := .int, accessFlags := 25, slot := 6, constantValue := 0 }, { name := "BYTES", type := .int, accessFlags := 25, slot := 7, constantValue := 0 }, { name := "serialVersionUID", type := .long, accessFlags := 26, slot := 8, constantValue := 0 }]
  methods := #[k12m0]
  instanceTypes := #[.int]
  staticTypes := #[.int, .int, (.object "java/lang/Class"), (.array .char), (.array .byte), (.array .byte), .int, .int, .long]
  resolved := Array.replicate 453 none
  statics := none }

def pool13 : Array CpInfo := pool [(1, .class_ 2), (0, u "java/lang/Math"), (1, .class_ 6), (1, u "java/lang/Object"), (0, u "<init>"), (0, u "()V"), (89, .class_ 100), (1, u "java/lang/Math$RandomNumberGeneratorHolder"), (20, u "(JJ)J"), (50, u "negativeZeroFloatBits"), (0, u "J"), (2, u "negativeZeroDoubleBits"), (21, u "max"), (2, u "min"), (43, u "$assertionsDisabled"), (0, u "Z"), (91, u "twoToTheDoubleScaleDown"), (0, u "D"), (4, u "twoToTheDoubleScaleUp"), (9, u "E"), (3, u "PI"), (2, u "TAU"), (2, u "DEGREES_TO_RADIANS"), (0, u "RADIANS_TO_DEGREES")] 94

def k13m0 : Method := { name := "<init>", desc := "()V", sig := { parameters := [], returnType := none }, accessFlags := 2, code := none }
def k13c1 : Code := { maxStack := 4, maxLocals := 4, code := jdk_29_method_66_code, exceptionTable := #[], attributes := #[] }
def k13m1 : Method := { name := "max", desc := "(JJ)J", sig := { parameters := [.long, .long], returnType := some .long }, accessFlags := 9, code := some k13c1 }
def k13c2 : Code := { maxStack := 4, maxLocals := 4, code := jdk_29_method_70_code, exceptionTable := #[], attributes := #[] }
def k13m2 : Method := { name := "min", desc := "(JJ)J", sig := { parameters := [.long, .long], returnType := some .long }, accessFlags := 9, code := some k13c2 }
/-- java/lang/Math -/
def k13 : Class := { plain "java/lang/Math" (some 0) with
  accessFlags := 49
  interfaces := #[]
  cf := some (fileOf pool13 1 #[.nestMembers #[98]] #[{ accessFlags := 2, nameIndex := 7, descriptorIndex := 8, attributes := #[] }, { accessFlags := 9, nameIndex := 198, descriptorIndex := 121, attributes := #[] }, { accessFlags := 9, nameIndex := 201, descriptorIndex := 121, attributes := #[] }] 49 4 #[] #[{ accessFlags := 25, nameIndex := 354, descriptorIndex := 339, attributes := #[] }, { accessFlags := 25, nameIndex := 358, descriptorIndex := 339, attributes := #[] }, { accessFlags := 25, nameIndex := 361, descriptorIndex := 339, attributes := #[] }, { accessFlags := 26, nameIndex := 364, descriptorIndex := 339, attributes := #[] }, { accessFlags := 26, nameIndex := 365, descriptorIndex := 339, attributes := #[] }, { accessFlags := 26, nameIndex := 172, descriptorIndex := 173, attributes := #[] }, { accessFlags := 26, nameIndex := 176, descriptorIndex := 173, attributes := #[] }, { accessFlags := 8, nameIndex := 344, descriptorIndex := 339, attributes := #[] }, { accessFlags := 8, nameIndex := 338, descriptorIndex := 339, attributes := #[] }, { accessFlags := 4120, nameIndex := 245, descriptorIndex := 246, attributes := #[] }])
  fields := #[{ name := "E", type := .double, accessFlags := 25, slot := 0, constantValue := 0 }, { name := "PI", type := .double, accessFlags := 25, slot := 1, constantValue := 0 }, { name := "TAU", type := .double, accessFlags := 25, slot := 2, constantValue := 0 }, { name := "DEGREES_TO_RADIANS", type := .double, accessFlags := 26, slot := 3, constantValue := 0 }, { name := "RADIANS_TO_DEGREES", type := .double, accessFlags := 26, slot := 4, constantValue := 0 }, { name := "negativeZeroFloatBits", type := .long, accessFlags := 26, slot := 5, constantValue := 0 }, { name := "negativeZeroDoubleBits", type := .long, accessFlags := 26, slot := 6, constantValue := 0 }, { name := "twoToTheDoubleScaleUp", type := .double, accessFlags := 8, slot := 7, constantValue := 0 }, { name := "twoToTheDoubleScaleDown", type := .double, accessFlags := 8, slot := 8, constantValue := 0 }, { name := "$assertionsDisabled", type := .boolean, accessFlags := 4120, slot := 9, constantValue := 0 }]
  methods := #[k13m0, k13m1, k13m2]
  instanceTypes := #[]
  staticTypes := #[.double, .double, .double, .double, .double, .long, .long, .double, .double, .boolean]
  resolved := Array.replicate 460 none
  statics := none }

def pool14 : Array CpInfo := pool [(1, u "java/lang/Cloneable"), (0, .class_ 1), (0, u "java/lang/Object"), (0, .class_ 3)] 3

/-- java/lang/Cloneable -/
def k14 : Class := { plain "java/lang/Cloneable" (some 0) with
  accessFlags := 1537
  interfaces := #[]
  cf := some (fileOf pool14 2 #[] #[] 1537 4 #[] #[])
  fields := #[]
  methods := #[]
  instanceTypes := #[]
  staticTypes := #[]
  resolved := Array.replicate 8 none
  statics := none }

/-- the primitive boolean -/
def k15 : Class := { plain "boolean" none with kind := .primitive 'Z', accessFlags := 0x411 }
/-- [Z -/
def k16 : Class := { plain "[Z" (some 0) with kind := .array 15 .boolean, interfaces := #[14, 6], accessFlags := 1041 }

/-- the primitive byte -/
def k17 : Class := { plain "byte" none with kind := .primitive 'B', accessFlags := 0x411 }
/-- [B -/
def k18 : Class := { plain "[B" (some 0) with kind := .array 17 .byte, interfaces := #[14, 6], accessFlags := 1041 }

/-- the primitive int -/
def k19 : Class := { plain "int" none with kind := .primitive 'I', accessFlags := 0x411 }
/-- [I -/
def k20 : Class := { plain "[I" (some 0) with kind := .array 19 .int, interfaces := #[14, 6], accessFlags := 1041 }

/-- the primitive long -/
def k21 : Class := { plain "long" none with kind := .primitive 'J', accessFlags := 0x411 }
/-- [J -/
def k22 : Class := { plain "[J" (some 0) with kind := .array 21 .long, interfaces := #[14, 6], accessFlags := 1041 }

def classes0 : Array Class := #[k0, k1, k2, k3, k4, k5, k6, k7, k8, k9, k10, k11, k12, k13, k14, k15, k16, k17, k18, k19, k20, k21, k22]
/-- the class that the rule has made for the site at 72 of com/example/leasewise/leasewise/KilometreQueue.<init> -/
def k23 : Class := Jvm.LamKit.madeRec { classes := classes0 } "com/example/leasewise/leasewise/KilometreQueue" (Jvm.Lambda.Shape.mk "com/example/leasewise/leasewise/IndexedHeap$Order" "before" (Jvm.ClassFile.MethodDescriptor.mk ([Jvm.ClassFile.FieldType.int, Jvm.ClassFile.FieldType.int] : List Jvm.ClassFile.FieldType) (Option.some Jvm.ClassFile.FieldType.boolean)) ([(Jvm.ClassFile.FieldType.object "com/example/leasewise/leasewise/KilometreQueue")] : List Jvm.ClassFile.FieldType) (5 : Nat) "com/example/leasewise/leasewise/KilometreQueue" "lambda$new$0" (Jvm.ClassFile.MethodDescriptor.mk ([Jvm.ClassFile.FieldType.int, Jvm.ClassFile.FieldType.int] : List Jvm.ClassFile.FieldType) (Option.some Jvm.ClassFile.FieldType.boolean)) false (Jvm.ClassFile.MethodDescriptor.mk ([Jvm.ClassFile.FieldType.int, Jvm.ClassFile.FieldType.int] : List Jvm.ClassFile.FieldType) (Option.some Jvm.ClassFile.FieldType.boolean))) 23

def heap : Heap := #[]
def classes : Array Class := #[k0, k1, k2, k3, k4, k5, k6, k7, k8, k9, k10, k11, k12, k13, k14, k15, k16, k17, k18, k19, k20, k21, k22, k23]
def interned : List (Array UInt16 × Addr) := []
def slotsUsed : Nat := 0
def theMethod : MethodId := ⟨1, 1⟩
def args0 : Array Value := #[.int 5, .int 6, .long 7, .long 8]
def aboutOver (below : List Frame) : State where
  vm := { classes := classes, interned := interned.toArray }
  heap := heap
  slotsUsed := slotsUsed
  threads := #[{ frames := .invoking theMethod args0 :: below }]
def below0 : List Frame := [.native { method := ⟨0, 0⟩, args := #[] }]
def about1 : State := aboutOver below0
def p0 : Program := .bare "" "" ""
def e0 : Env := launch0.env 0 0 0
theorem w_frames : about1.frames = Frame.invoking theMethod args0 :: below0 := rfl
set_option maxRecDepth 65536 in
theorem w_args : argsFit about1.vm theMethod args0 = true := by decide +kernel
set_option maxRecDepth 65536 in
theorem w_heap : heapFits about1 = true := by decide +kernel
set_option maxRecDepth 65536 in
theorem w_runnable : about1.curStatus? = some .runnable := by decide +kernel
set_option maxRecDepth 65536 in
theorem w_alone : about1.alone = true := by decide +kernel
set_option maxRecDepth 65536 in
theorem w_named : about1.methodNamed? x = some theMethod := by decide +kernel
set_option maxRecDepth 65536 in
theorem w_hears : about1.hears theMethod below0 = true := by decide +kernel
set_option maxRecDepth 65536 in
theorem w_ripe : about1.ripe theMethod args0 below0 = true := by decide +kernel
theorem w_running : about1.status = .running := rfl
set_option maxRecDepth 65536 in
theorem w_room : about1.hasRoom e0.platform room_1 = true :=
  launch0.hasRoom_least _ room_1 (by decide +kernel) (by decide +kernel) (by decide +kernel) (by decide +kernel) (by decide +kernel) (by decide +kernel)
theorem allAtoms_all (ts : List Jvm.Cond) (a : Array Jvm.Value) (st : Jvm.State) : (allAtoms ts).before a st = ts.all (fun c => c.before a st) := by
  induction ts with
  | nil => rfl
  | cons c t ih =>
    show (Jvm.Cond.and c (allAtoms t)).before a st = _
    rw [Jvm.Cond.before_and, ih, List.all_cons]
def words1 : List Jvm.Cond := Jvm.Cond.code x code maxLocals ret :: tables_1
/-- a 'code' word, met by the world's own term for the bytes: nothing is compared byte by byte -/
theorem code_word {y : MethodName} {bytes : ByteArray} {mx : Nat} {rt : Option FieldType} {a : Array Value} {s : State} {m : MethodId} {meth : Method} {c : Code} (h1 : s.methodNamed? y = some m) (h2 : s.vm.method? m = some meth) (h3 : meth.code = some c) (h4 : c.code = bytes)
    (h5 : (c.maxLocals == mx && c.exceptionTable.isEmpty && decide (c.maxStack ≤ mostOperands) && decide (meth.sig.returnType = rt) && !meth.locks && decide (parseMethodDescriptor y.desc = some meth.sig)) = true) : (Jvm.Cond.code y bytes mx rt).before a s = true := by
  simp only [Bool.and_eq_true, beq_iff_eq, Bool.not_eq_true', decide_eq_true_eq] at h5
  obtain ⟨⟨⟨⟨⟨g1, g2⟩, g3⟩, g4⟩, g5⟩, g6⟩ := h5
  simp [Cond.before, Cond.holds, Cond.value, h1, h2, h3, h4, g1, g2, g3, g4, g5, g6]
def isCode : Jvm.Cond → Bool
  | .code _ _ _ _ => true
  | _ => false
theorem all_split {L : List Jvm.Cond} {P : Jvm.Cond → Bool} (h1 : L.all (fun c => isCode c || P c) = true) (h2 : ∀ c ∈ L.filter isCode, P c = true) : L.all P = true := by
  refine List.all_eq_true.mpr fun c hc => ?_
  have h := List.all_eq_true.mp h1 c hc
  rcases Bool.eq_false_or_eq_true (isCode c) with hi | hi
  · exact h2 c (List.mem_filter.mpr ⟨hc, hi⟩)
  · simpa [hi] using h
set_option maxRecDepth 65536 in
theorem w_c0 : (Jvm.Cond.code x code maxLocals ret).before args0 about1 = true := code_word (m := ⟨1, 1⟩) (meth := k1m1) (c := k1c1) (by decide +kernel) rfl rfl rfl (by decide +kernel)
set_option maxRecDepth 65536 in
theorem w_c1 : (Jvm.Cond.code ({ cls := "com/example/leasewise/leasewise/KilometreQueue", name := "<init>", desc := "(I)V" } : Jvm.MethodName) prog_39_method_1_code (2 : Nat) (Option.none : Option Jvm.ClassFile.FieldType)).before args0 about1 = true := code_word (m := ⟨2, 0⟩) (meth := k2m0) (c := k2c0) (by decide +kernel) rfl rfl rfl (by decide +kernel)
set_option maxRecDepth 65536 in
theorem w_c2 : (Jvm.Cond.code ({ cls := "java/lang/Object", name := "<init>", desc := "()V" } : Jvm.MethodName) object_method_1_code (1 : Nat) (Option.none : Option Jvm.ClassFile.FieldType)).before args0 about1 = true := code_word (m := ⟨0, 0⟩) (meth := k0m0) (c := k0c0) (by decide +kernel) rfl rfl rfl (by decide +kernel)
set_option maxRecDepth 65536 in
theorem w_c3 : (Jvm.Cond.code ({ cls := "java/util/Arrays", name := "fill", desc := "([II)V" } : Jvm.MethodName) jdk_65_method_103_code (4 : Nat) (Option.none : Option Jvm.ClassFile.FieldType)).before args0 about1 = true := code_word (m := ⟨3, 1⟩) (meth := k3m1) (c := k3c1) (by decide +kernel) rfl rfl rfl (by decide +kernel)
set_option maxRecDepth 65536 in
theorem w_c4 : (Jvm.Cond.code ({ cls := "com/example/leasewise/leasewise/IndexedHeap", name := "<init>", desc := "(ILcom/example/leasewise/leasewise/IndexedHeap$Order;)V" } : Jvm.MethodName) prog_35_method_1_code (3 : Nat) (Option.none : Option Jvm.ClassFile.FieldType)).before args0 about1 = true := code_word (m := ⟨4, 0⟩) (meth := k4m0) (c := k4c0) (by decide +kernel) rfl rfl rfl (by decide +kernel)
set_option maxRecDepth 65536 in
theorem w_c5 : (Jvm.Cond.code ({ cls := "com/example/leasewise/leasewise/KilometreQueue", name := "isEmpty", desc := "()Z" } : Jvm.MethodName) prog_39_method_2_code (1 : Nat) (Option.some Jvm.ClassFile.FieldType.boolean)).before args0 about1 = true := code_word (m := ⟨2, 1⟩) (meth := k2m1) (c := k2c1) (by decide +kernel) rfl rfl rfl (by decide +kernel)
set_option maxRecDepth 65536 in
theorem w_c6 : (Jvm.Cond.code ({ cls := "com/example/leasewise/leasewise/IndexedHeap", name := "isEmpty", desc := "()Z" } : Jvm.MethodName) prog_35_method_2_code (1 : Nat) (Option.some Jvm.ClassFile.FieldType.boolean)).before args0 about1 = true := code_word (m := ⟨4, 1⟩) (meth := k4m1) (c := k4c1) (by decide +kernel) rfl rfl rfl (by decide +kernel)
set_option maxRecDepth 65536 in
theorem w_c7 : (Jvm.Cond.code ({ cls := "com/example/leasewise/leasewise/KilometreQueue", name := "put", desc := "(IJ)V" } : Jvm.MethodName) prog_39_method_5_code (4 : Nat) (Option.none : Option Jvm.ClassFile.FieldType)).before args0 about1 = true := code_word (m := ⟨2, 2⟩) (meth := k2m2) (c := k2c2) (by decide +kernel) rfl rfl rfl (by decide +kernel)
set_option maxRecDepth 65536 in
theorem w_c8 : (Jvm.Cond.code ({ cls := "com/example/leasewise/leasewise/KilometreQueue", name := "remove", desc := "(I)V" } : Jvm.MethodName) prog_39_method_6_code (2 : Nat) (Option.none : Option Jvm.ClassFile.FieldType)).before args0 about1 = true := code_word (m := ⟨2, 3⟩) (meth := k2m3) (c := k2c3) (by decide +kernel) rfl rfl rfl (by decide +kernel)
set_option maxRecDepth 65536 in
theorem w_c9 : (Jvm.Cond.code ({ cls := "com/example/leasewise/leasewise/IndexedHeap", name := "remove", desc := "(I)V" } : Jvm.MethodName) prog_35_method_7_code (4 : Nat) (Option.none : Option Jvm.ClassFile.FieldType)).before args0 about1 = true := code_word (m := ⟨4, 6⟩) (meth := k4m6) (c := k4c6) (by decide +kernel) rfl rfl rfl (by decide +kernel)
set_option maxRecDepth 65536 in
theorem w_c10 : (Jvm.Cond.code ({ cls := "com/example/leasewise/leasewise/KilometreQueue", name := "link", desc := "(I)V" } : Jvm.MethodName) prog_39_method_13_code (4 : Nat) (Option.none : Option Jvm.ClassFile.FieldType)).before args0 about1 = true := code_word (m := ⟨2, 9⟩) (meth := k2m9) (c := k2c9) (by decide +kernel) rfl rfl rfl (by decide +kernel)
set_option maxRecDepth 65536 in
theorem w_c11 : (Jvm.Cond.code ({ cls := "com/example/leasewise/leasewise/KilometreQueue", name := "raiseFloor", desc := "(J)V" } : Jvm.MethodName) prog_39_method_9_code (3 : Nat) (Option.none : Option Jvm.ClassFile.FieldType)).before args0 about1 = true := code_word (m := ⟨2, 5⟩) (meth := k2m5) (c := k2c5) (by decide +kernel) rfl rfl rfl (by decide +kernel)
set_option maxRecDepth 65536 in
theorem w_c12 : (Jvm.Cond.code ({ cls := "com/example/leasewise/leasewise/KilometreQueue", name := "firstKey", desc := "()J" } : Jvm.MethodName) prog_39_method_7_code (1 : Nat) (Option.some Jvm.ClassFile.FieldType.long)).before args0 about1 = true := code_word (m := ⟨2, 4⟩) (meth := k2m4) (c := k2c4) (by decide +kernel) rfl rfl rfl (by decide +kernel)
set_option maxRecDepth 65536 in
theorem w_c13 : (Jvm.Cond.code ({ cls := "com/example/leasewise/leasewise/KilometreQueue", name := "firstBucket", desc := "()I" } : Jvm.MethodName) prog_39_method_10_code (3 : Nat) (Option.some Jvm.ClassFile.FieldType.int)).before args0 about1 = true := code_word (m := ⟨2, 6⟩) (meth := k2m6) (c := k2c6) (by decide +kernel) rfl rfl rfl (by decide +kernel)
set_option maxRecDepth 65536 in
theorem w_c14 : (Jvm.Cond.code ({ cls := "com/example/leasewise/leasewise/KilometreQueue", name := "nextOccupied", desc := "(I)I" } : Jvm.MethodName) prog_39_method_11_code (6 : Nat) (Option.some Jvm.ClassFile.FieldType.int)).before args0 about1 = true := code_word (m := ⟨2, 7⟩) (meth := k2m7) (c := k2c7) (by decide +kernel) rfl rfl rfl (by decide +kernel)
set_option maxRecDepth 65536 in
theorem w_c15 : (Jvm.Cond.code ({ cls := "java/lang/Long", name := "numberOfTrailingZeros", desc := "(J)I" } : Jvm.MethodName) jdk_35_method_49_code (3 : Nat) (Option.some Jvm.ClassFile.FieldType.int)).before args0 about1 = true := code_word (m := ⟨11, 0⟩) (meth := k11m0) (c := k11c0) (by decide +kernel) rfl rfl rfl (by decide +kernel)
set_option maxRecDepth 65536 in
theorem w_c16 : (Jvm.Cond.code ({ cls := "java/lang/Integer", name := "numberOfTrailingZeros", desc := "(I)I" } : Jvm.MethodName) jdk_33_method_48_code (2 : Nat) (Option.some Jvm.ClassFile.FieldType.int)).before args0 about1 = true := code_word (m := ⟨12, 0⟩) (meth := k12m0) (c := k12c0) (by decide +kernel) rfl rfl rfl (by decide +kernel)
set_option maxRecDepth 65536 in
theorem w_c17 : (Jvm.Cond.code ({ cls := "java/lang/Math", name := "max", desc := "(JJ)J" } : Jvm.MethodName) jdk_29_method_66_code (4 : Nat) (Option.some Jvm.ClassFile.FieldType.long)).before args0 about1 = true := code_word (m := ⟨13, 1⟩) (meth := k13m1) (c := k13c1) (by decide +kernel) rfl rfl rfl (by decide +kernel)
set_option maxRecDepth 65536 in
theorem w_c18 : (Jvm.Cond.code ({ cls := "com/example/leasewise/leasewise/KilometreQueue", name := "unlink", desc := "(I)V" } : Jvm.MethodName) prog_39_method_14_code (4 : Nat) (Option.none : Option Jvm.ClassFile.FieldType)).before args0 about1 = true := code_word (m := ⟨2, 10⟩) (meth := k2m10) (c := k2c10) (by decide +kernel) rfl rfl rfl (by decide +kernel)
set_option maxRecDepth 65536 in
theorem w_c19 : (Jvm.Cond.code ({ cls := "com/example/leasewise/leasewise/IndexedHeap", name := "put", desc := "(I)V" } : Jvm.MethodName) prog_35_method_6_code (3 : Nat) (Option.none : Option Jvm.ClassFile.FieldType)).before args0 about1 = true := code_word (m := ⟨4, 5⟩) (meth := k4m5) (c := k4c5) (by decide +kernel) rfl rfl rfl (by decide +kernel)
set_option maxRecDepth 65536 in
theorem w_c20 : (Jvm.Cond.code ({ cls := "com/example/leasewise/leasewise/IndexedHeap", name := "contains", desc := "(I)Z" } : Jvm.MethodName) prog_35_method_3_code (2 : Nat) (Option.some Jvm.ClassFile.FieldType.boolean)).before args0 about1 = true := code_word (m := ⟨4, 2⟩) (meth := k4m2) (c := k4c2) (by decide +kernel) rfl rfl rfl (by decide +kernel)
set_option maxRecDepth 65536 in
theorem w_c21 : (Jvm.Cond.code ({ cls := "com/example/leasewise/leasewise/IndexedHeap", name := "siftUp", desc := "(I)I" } : Jvm.MethodName) prog_35_method_8_code (5 : Nat) (Option.some Jvm.ClassFile.FieldType.int)).before args0 about1 = true := code_word (m := ⟨4, 7⟩) (meth := k4m7) (c := k4c7) (by decide +kernel) rfl rfl rfl (by decide +kernel)
set_option maxRecDepth 65536 in
theorem w_c22 : (Jvm.Cond.code ({ cls := "com/example/leasewise/leasewise/IndexedHeap", name := "place", desc := "(II)V" } : Jvm.MethodName) prog_35_method_10_code (3 : Nat) (Option.none : Option Jvm.ClassFile.FieldType)).before args0 about1 = true := code_word (m := ⟨4, 9⟩) (meth := k4m9) (c := k4c9) (by decide +kernel) rfl rfl rfl (by decide +kernel)
set_option maxRecDepth 65536 in
theorem w_c23 : (Jvm.Cond.code ({ cls := "com/example/leasewise/leasewise/IndexedHeap", name := "first", desc := "()I" } : Jvm.MethodName) prog_35_method_4_code (1 : Nat) (Option.some Jvm.ClassFile.FieldType.int)).before args0 about1 = true := code_word (m := ⟨4, 3⟩) (meth := k4m3) (c := k4c3) (by decide +kernel) rfl rfl rfl (by decide +kernel)
set_option maxRecDepth 65536 in
theorem w_c24 : (Jvm.Cond.code ({ cls := "com/example/leasewise/leasewise/IndexedHeap", name := "poll", desc := "()I" } : Jvm.MethodName) prog_35_method_5_code (2 : Nat) (Option.some Jvm.ClassFile.FieldType.int)).before args0 about1 = true := code_word (m := ⟨4, 4⟩) (meth := k4m4) (c := k4c4) (by decide +kernel) rfl rfl rfl (by decide +kernel)
set_option maxRecDepth 65536 in
theorem w_c25 : (Jvm.Cond.code ({ cls := "com/example/leasewise/leasewise/KilometreQueue", name := "nextOccupiedWord", desc := "(I)I" } : Jvm.MethodName) prog_39_method_12_code (5 : Nat) (Option.some Jvm.ClassFile.FieldType.int)).before args0 about1 = true := code_word (m := ⟨2, 8⟩) (meth := k2m8) (c := k2c8) (by decide +kernel) rfl rfl rfl (by decide +kernel)
set_option maxRecDepth 65536 in
theorem w_c26 : (Jvm.Cond.code ({ cls := "java/lang/Math", name := "min", desc := "(JJ)J" } : Jvm.MethodName) jdk_29_method_70_code (4 : Nat) (Option.some Jvm.ClassFile.FieldType.long)).before args0 about1 = true := code_word (m := ⟨13, 2⟩) (meth := k13m2) (c := k13c2) (by decide +kernel) rfl rfl rfl (by decide +kernel)
set_option maxRecDepth 65536 in
theorem w_c27 : (Jvm.Cond.code ({ cls := "com/example/leasewise/leasewise/KilometreQueue", name := "lambda$new$0", desc := "(II)Z" } : Jvm.MethodName) prog_39_method_15_code (3 : Nat) (Option.some Jvm.ClassFile.FieldType.boolean)).before args0 about1 = true := code_word (m := ⟨2, 11⟩) (meth := k2m11) (c := k2c11) (by decide +kernel) rfl rfl rfl (by decide +kernel)
set_option maxRecDepth 65536 in
theorem w_c28 : (Jvm.Cond.code ({ cls := "com/example/leasewise/leasewise/IndexedHeap", name := "siftDown", desc := "(I)V" } : Jvm.MethodName) prog_35_method_9_code (5 : Nat) (Option.none : Option Jvm.ClassFile.FieldType)).before args0 about1 = true := code_word (m := ⟨4, 8⟩) (meth := k4m8) (c := k4c8) (by decide +kernel) rfl rfl rfl (by decide +kernel)
def codes1 : List Jvm.Cond := [Jvm.Cond.code x code maxLocals ret, Jvm.Cond.code ({ cls := "com/example/leasewise/leasewise/KilometreQueue", name := "<init>", desc := "(I)V" } : Jvm.MethodName) prog_39_method_1_code (2 : Nat) (Option.none : Option Jvm.ClassFile.FieldType), Jvm.Cond.code ({ cls := "java/lang/Object", name := "<init>", desc := "()V" } : Jvm.MethodName) object_method_1_code (1 : Nat) (Option.none : Option Jvm.ClassFile.FieldType), Jvm.Cond.code ({ cls := "java/util/Arrays", name := "fill", desc := "([II)V" } : Jvm.MethodName) jdk_65_method_103_code (4 : Nat) (Option.none : Option Jvm.ClassFile.FieldType), Jvm.Cond.code ({ cls := "com/example/leasewise/leasewise/IndexedHeap", name := "<init>", desc := "(ILcom/example/leasewise/leasewise/IndexedHeap$Order;)V" } : Jvm.MethodName) prog_35_method_1_code (3 : Nat) (Option.none : Option Jvm.ClassFile.FieldType), Jvm.Cond.code ({ cls := "com/example/leasewise/leasewise/KilometreQueue", name := "isEmpty", desc := "()Z" } : Jvm.MethodName) prog_39_method_2_code (1 : Nat) (Option.some Jvm.ClassFile.FieldType.boolean), Jvm.Cond.code ({ cls := "com/example/leasewise/leasewise/IndexedHeap", name := "isEmpty", desc := "()Z" } : Jvm.MethodName) prog_35_method_2_code (1 : Nat) (Option.some Jvm.ClassFile.FieldType.boolean), Jvm.Cond.code ({ cls := "com/example/leasewise/leasewise/KilometreQueue", name := "put", desc := "(IJ)V" } : Jvm.MethodName) prog_39_method_5_code (4 : Nat) (Option.none : Option Jvm.ClassFile.FieldType), Jvm.Cond.code ({ cls := "com/example/leasewise/leasewise/KilometreQueue", name := "remove", desc := "(I)V" } : Jvm.MethodName) prog_39_method_6_code (2 : Nat) (Option.none : Option Jvm.ClassFile.FieldType), Jvm.Cond.code ({ cls := "com/example/leasewise/leasewise/IndexedHeap", name := "remove", desc := "(I)V" } : Jvm.MethodName) prog_35_method_7_code (4 : Nat) (Option.none : Option Jvm.ClassFile.FieldType), Jvm.Cond.code ({ cls := "com/example/leasewise/leasewise/KilometreQueue", name := "link", desc := "(I)V" } : Jvm.MethodName) prog_39_method_13_code (4 : Nat) (Option.none : Option Jvm.ClassFile.FieldType), Jvm.Cond.code ({ cls := "com/example/leasewise/leasewise/KilometreQueue", name := "raiseFloor", desc := "(J)V" } : Jvm.MethodName) prog_39_method_9_code (3 : Nat) (Option.none : Option Jvm.ClassFile.FieldType), Jvm.Cond.code ({ cls := "com/example/leasewise/leasewise/KilometreQueue", name := "firstKey", desc := "()J" } : Jvm.MethodName) prog_39_method_7_code (1 : Nat) (Option.some Jvm.ClassFile.FieldType.long), Jvm.Cond.code ({ cls := "com/example/leasewise/leasewise/KilometreQueue", name := "firstBucket", desc := "()I" } : Jvm.MethodName) prog_39_method_10_code (3 : Nat) (Option.some Jvm.ClassFile.FieldType.int), Jvm.Cond.code ({ cls := "com/example/leasewise/leasewise/KilometreQueue", name := "nextOccupied", desc := "(I)I" } : Jvm.MethodName) prog_39_method_11_code (6 : Nat) (Option.some Jvm.ClassFile.FieldType.int), Jvm.Cond.code ({ cls := "java/lang/Long", name := "numberOfTrailingZeros", desc := "(J)I" } : Jvm.MethodName) jdk_35_method_49_code (3 : Nat) (Option.some Jvm.ClassFile.FieldType.int), Jvm.Cond.code ({ cls := "java/lang/Integer", name := "numberOfTrailingZeros", desc := "(I)I" } : Jvm.MethodName) jdk_33_method_48_code (2 : Nat) (Option.some Jvm.ClassFile.FieldType.int), Jvm.Cond.code ({ cls := "java/lang/Math", name := "max", desc := "(JJ)J" } : Jvm.MethodName) jdk_29_method_66_code (4 : Nat) (Option.some Jvm.ClassFile.FieldType.long), Jvm.Cond.code ({ cls := "com/example/leasewise/leasewise/KilometreQueue", name := "unlink", desc := "(I)V" } : Jvm.MethodName) prog_39_method_14_code (4 : Nat) (Option.none : Option Jvm.ClassFile.FieldType), Jvm.Cond.code ({ cls := "com/example/leasewise/leasewise/IndexedHeap", name := "put", desc := "(I)V" } : Jvm.MethodName) prog_35_method_6_code (3 : Nat) (Option.none : Option Jvm.ClassFile.FieldType), Jvm.Cond.code ({ cls := "com/example/leasewise/leasewise/IndexedHeap", name := "contains", desc := "(I)Z" } : Jvm.MethodName) prog_35_method_3_code (2 : Nat) (Option.some Jvm.ClassFile.FieldType.boolean), Jvm.Cond.code ({ cls := "com/example/leasewise/leasewise/IndexedHeap", name := "siftUp", desc := "(I)I" } : Jvm.MethodName) prog_35_method_8_code (5 : Nat) (Option.some Jvm.ClassFile.FieldType.int), Jvm.Cond.code ({ cls := "com/example/leasewise/leasewise/IndexedHeap", name := "place", desc := "(II)V" } : Jvm.MethodName) prog_35_method_10_code (3 : Nat) (Option.none : Option Jvm.ClassFile.FieldType), Jvm.Cond.code ({ cls := "com/example/leasewise/leasewise/IndexedHeap", name := "first", desc := "()I" } : Jvm.MethodName) prog_35_method_4_code (1 : Nat) (Option.some Jvm.ClassFile.FieldType.int), Jvm.Cond.code ({ cls := "com/example/leasewise/leasewise/IndexedHeap", name := "poll", desc := "()I" } : Jvm.MethodName) prog_35_method_5_code (2 : Nat) (Option.some Jvm.ClassFile.FieldType.int), Jvm.Cond.code ({ cls := "com/example/leasewise/leasewise/KilometreQueue", name := "nextOccupiedWord", desc := "(I)I" } : Jvm.MethodName) prog_39_method_12_code (5 : Nat) (Option.some Jvm.ClassFile.FieldType.int), Jvm.Cond.code ({ cls := "java/lang/Math", name := "min", desc := "(JJ)J" } : Jvm.MethodName) jdk_29_method_70_code (4 : Nat) (Option.some Jvm.ClassFile.FieldType.long), Jvm.Cond.code ({ cls := "com/example/leasewise/leasewise/KilometreQueue", name := "lambda$new$0", desc := "(II)Z" } : Jvm.MethodName) prog_39_method_15_code (3 : Nat) (Option.some Jvm.ClassFile.FieldType.boolean), Jvm.Cond.code ({ cls := "com/example/leasewise/leasewise/IndexedHeap", name := "siftDown", desc := "(I)V" } : Jvm.MethodName) prog_35_method_9_code (5 : Nat) (Option.none : Option Jvm.ClassFile.FieldType)]
set_option maxRecDepth 65536 in
theorem codes_eq : words1.filter isCode = codes1 := rfl
theorem w_codes : ∀ c ∈ words1.filter isCode, c.before args0 about1 = true := by
  rw [codes_eq]
  intro c hc
  simp only [codes1, List.mem_cons, List.not_mem_nil, or_false] at hc
  rcases hc with rfl | rfl | rfl | rfl | rfl | rfl | rfl | rfl | rfl | rfl | rfl | rfl | rfl | rfl | rfl | rfl | rfl | rfl | rfl | rfl | rfl | rfl | rfl | rfl | rfl | rfl | rfl | rfl | rfl
  · exact w_c0
  · exact w_c1
  · exact w_c2
  · exact w_c3
  · exact w_c4
  · exact w_c5
  · exact w_c6
  · exact w_c7
  · exact w_c8
  · exact w_c9
  · exact w_c10
  · exact w_c11
  · exact w_c12
  · exact w_c13
  · exact w_c14
  · exact w_c15
  · exact w_c16
  · exact w_c17
  · exact w_c18
  · exact w_c19
  · exact w_c20
  · exact w_c21
  · exact w_c22
  · exact w_c23
  · exact w_c24
  · exact w_c25
  · exact w_c26
  · exact w_c27
  · exact w_c28
set_option maxRecDepth 65536 in
theorem w_t1 : (words1.take 24).all (fun c => isCode c || c.before args0 about1) = true := by decide +kernel
set_option maxRecDepth 65536 in
theorem w_t2 : ((words1.drop 24).take 24).all (fun c => isCode c || c.before args0 about1) = true := by decide +kernel
set_option maxRecDepth 65536 in
theorem w_t3 : (((words1.drop 24).drop 24).take 24).all (fun c => isCode c || c.before args0 about1) = true := by decide +kernel
set_option maxRecDepth 65536 in
theorem w_t4 : ((((words1.drop 24).drop 24).drop 24).take 24).all (fun c => isCode c || c.before args0 about1) = true := by decide +kernel
set_option maxRecDepth 65536 in
theorem w_t5 : (((((words1.drop 24).drop 24).drop 24).drop 24).take 24).all (fun c => isCode c || c.before args0 about1) = true := by decide +kernel
set_option maxRecDepth 65536 in
theorem w_t6 : ((((((words1.drop 24).drop 24).drop 24).drop 24).drop 24).take 24).all (fun c => isCode c || c.before args0 about1) = true := by decide +kernel
set_option maxRecDepth 65536 in
theorem w_t7 : (((((((words1.drop 24).drop 24).drop 24).drop 24).drop 24).drop 24).take 24).all (fun c => isCode c || c.before args0 about1) = true := by decide +kernel
set_option maxRecDepth 65536 in
theorem w_t8 : (((((((words1.drop 24).drop 24).drop 24).drop 24).drop 24).drop 24).drop 24).all (fun c => isCode c || c.before args0 about1) = true := by decide +kernel
theorem w_tables : (allAtoms (Jvm.Cond.code x code maxLocals ret :: tables_1)).before args0 about1 = true := by
  rw [allAtoms_all]
  show words1.all (fun c => c.before args0 about1) = true
  refine all_split ?_ w_codes
  rw [← List.take_append_drop 24 words1, List.all_append, w_t1, ← List.take_append_drop 24 (words1.drop 24), List.all_append, w_t2, ← List.take_append_drop 24 ((words1.drop 24).drop 24), List.all_append, w_t3, ← List.take_append_drop 24 (((words1.drop 24).drop 24).drop 24), List.all_append, w_t4, ← List.take_append_drop 24 ((((words1.drop 24).drop 24).drop 24).drop 24), List.all_append, w_t5, ← List.take_append_drop 24 (((((words1.drop 24).drop 24).drop 24).drop 24).drop 24), List.all_append, w_t6, ← List.take_append_drop 24 ((((((words1.drop 24).drop 24).drop 24).drop 24).drop 24).drop 24), List.all_append, w_t7, w_t8]
  rfl
set_option maxRecDepth 65536 in
theorem w_case : (Jvm.Cond.and given_1 narrow_1).before args0 about1 = true := by decide +kernel
theorem w_applies : (headSpec (Jvm.Cond.code x code maxLocals ret :: tables_1) room_1).applies x e0.platform about1 = true :=
  (Spec.applies_iff w_frames).mpr ⟨w_running, w_runnable, w_alone, w_named, w_hears, w_ripe, w_room, w_tables⟩
theorem atStart : AtStart classFile x code maxLocals ret World_1 tables_1 room_1 Calls_1 rest_1 Pre_1 launch0 p0 e0 about1 theMethod args0 below0 :=
  ⟨lists_1, trivial, launch0.admits_env _ _ _, launch0.least_env, fairChoices_fair.cas, fairChoices_fair.clock, w_frames, w_args, w_heap, w_applies, trivial, trivial, w_case⟩
end start1
theorem witness_1 : WitnessClaimed_1 := ⟨start1.p0, start1.e0, start1.about1, start1.theMethod, start1.args0, start1.below0, start1.atStart⟩
end Jvm.Pilot.@@N@@
